import JvmDerived
import JvmDerived.Pilot.@@N@@Statement
import JvmDerived.Pilot.@@N@@Code
set_option linter.unusedVariables false
set_option linter.unusedSimpArgs false
namespace Jvm.RoadKit
open Sem ClassFile Op Lib Jvm.Stand Jvm.Free Jvm.LawKit
section New
variable {p : Program} {l : Launch} {e : Env} {R : Room} {s : State} {m : MethodId} {args : Array Value} {below : List Frame} {meth : Method} {c : Code} {T : State} {locs : List Loc} {cells slots : Nat}
theorem retI (X : Stand p l e R s m args below meth c T locs cells slots) (hx : p.tables.exec = Jvm.exec) {pc : Nat} {Ls : Array Slot} {z : Int32} {rest : List Value} (hret : meth.sig.returnType = some .int) (hd : decode c.code pc = .ok (.ireturn, 1)) {fs : List Frame}
    (hl : ∀ (f : JFrame) (acts : List Action), f.method = m → f.locked = none → f.entered = [] → (doReturn e (T.setTop f) acts (some (.int z))).1 = T.setFrames fs) : Steps p.tables e below (T.setTop (mkF m pc Ls (.int z :: rest))) (T.setFrames fs) := by
  have hm' : T.vm.method? m = some meth := X.method'
  have hn : narrow .int (.int z) = .int z := rfl
  show Steps p.tables e below (T.setTop { method := m, pc := pc, locals := Ls, stack := _ :: rest, locked := none }) _
  jvm_step X.here [X.here.top, hx, hd, hm', hret, hn]
  first | (intro acts; rw [hl _ acts rfl rfl rfl]) | rw [hl _ _ rfl rfl rfl]
  exact Steps.refl _
end New
end Jvm.RoadKit
/- laws to paste: Road.backV, Road.codOf, Road.lenW, Road.chN (cut by pick.py; bodies as the Statement names them) -/
namespace Jvm.Pilot.@@N@@
namespace StrChars
open Jvm Sem ClassFile Op Lib Jvm.Stand Jvm.Free.XT Jvm.Free.ALB Jvm.Free.JM Jvm.Free
open Jvm.Lib.Cold (StaticIs)
/-- a char array whose places are chars -/
def Ch (a : Addr) (A : Cell) (U : State) : Prop := Arr .char a A U ∧ Typed .char A
theorem Ch.mv {a : Addr} {A : Cell} {U U' : State} (h : Ch a A U) (hal : U.vm.Alike U'.vm) (hh : U'.heap = U.heap) : Ch a A U' := ⟨h.1.mv hal hh, h.2⟩
theorem Ch.keep {a : Addr} {A : Cell} {U U' : State} (h : Ch a A U) (hal : U.vm.Alike U'.vm) (hk : U'.heap[a]? = some A) : Ch a A U' := ⟨h.1.keep hal hk, h.2⟩
/-- what place i of a char[]'s cell holds -/
def cv (A : Cell) (i : Nat) : Int32 := match A.slots[i]? with | some (.int x) => x | _ => 0
theorem Ch.get {a : Addr} {A : Cell} {U : State} (h : Ch a A U) {i : Nat} (hi : i < A.slots.size) : A.slots[i]? = some (.int (cv A i)) := by
  have e := Array.getElem?_eq_getElem hi
  have f := h.2 i _ e
  unfold cv; rw [e]
  generalize A.slots[i] = v at f
  cases v <;> simp [fits] at f ⊢
/-- the byte that i2b leaves of a char -/
def lo8 (x : Int32) : Int32 := x.toInt8.toInt32
theorem fits_lo8 (y : Int32) : fits .byte (.int (lo8 y)) = true := by
  have h1 := y.toInt8.le_toInt
  have h2 := y.toInt8.toInt_lt
  simp only [lo8, fits, Bool.and_eq_true, decide_eq_true_eq, Int32.le_iff_toInt_le, Int8.toInt_toInt32, show (-128 : Int32).toInt = -128 from by decide, show (127 : Int32).toInt = 127 from by decide]
  omega
/-- A' is A but that each place j of lo .. hi - 1 holds f j -/
def Laid (A A' : Cell) (lo hi : Nat) (f : Nat → Value) : Prop := A'.cls = A.cls ∧ A'.vm = A.vm ∧ A'.slots.size = A.slots.size ∧ ∀ i, A'.slots[i]? = if lo ≤ i ∧ i < hi then some (f i) else A.slots[i]?
theorem Laid.zero (A : Cell) (lo : Nat) (f : Nat → Value) : Laid A A lo (lo + 0) f := ⟨rfl, rfl, rfl, fun i => by rw [if_neg (by omega)]⟩
theorem Laid.step {A Ak : Cell} {lo k : Nat} {f : Nat → Value} {v : Value} (h : Laid A Ak lo k f) (hlo : lo ≤ k) (hk : k < Ak.slots.size) (hv : v = f k) : Laid A (Ak.setSlot k v) lo (k + 1) f := by
  refine ⟨h.1, h.2.1, by simpa [Cell.setSlot] using h.2.2.1, fun i => ?_⟩
  by_cases e : k = i
  · subst e; rw [Cell.slots_setSlot_self v hk, if_pos (by omega), hv]
  · rw [Cell.slots_setSlot_ne v e, h.2.2.2 i]
    by_cases q : lo ≤ i ∧ i < k
    · rw [if_pos q, if_pos (by omega)]
    · rw [if_neg q, if_neg (by omega)]
def U16 : String := "java/lang/StringUTF16"
namespace Cmp5
def yN : MethodName := ⟨"java/lang/StringUTF16", "compress", "([CI[BII)I"⟩
abbrev yB : ByteArray := jdk_52_method_21_code
theorem d0 : decode yB 0 = .ok (.iconst 0, 1) := by decide +kernel
theorem d1 : decode yB 1 = .ok (.istore 5, 2) := by decide +kernel
theorem d3 : decode yB 3 = .ok (.iload 5, 2) := by decide +kernel
theorem d5 : decode yB 5 = .ok (.iload 4, 2) := by decide +kernel
theorem d7 : decode yB 7 = .ok (.if_icmp (.ge) 37, 3) := by decide +kernel
theorem d10 : decode yB 10 = .ok (.aload_n 0, 1) := by decide +kernel
theorem d11 : decode yB 11 = .ok (.iload_n 1, 1) := by decide +kernel
theorem d12 : decode yB 12 = .ok (.caload, 1) := by decide +kernel
theorem d13 : decode yB 13 = .ok (.istore 6, 2) := by decide +kernel
theorem d15 : decode yB 15 = .ok (.iload 6, 2) := by decide +kernel
theorem d17 : decode yB 17 = .ok (.sipush 255, 3) := by decide +kernel
theorem d20 : decode yB 20 = .ok (.if_icmp (.le) 6, 3) := by decide +kernel
theorem d26 : decode yB 26 = .ok (.aload_n 2, 1) := by decide +kernel
theorem d27 : decode yB 27 = .ok (.iload_n 3, 1) := by decide +kernel
theorem d28 : decode yB 28 = .ok (.iload 6, 2) := by decide +kernel
theorem d30 : decode yB 30 = .ok (.i2b, 1) := by decide +kernel
theorem d31 : decode yB 31 = .ok (.bastore, 1) := by decide +kernel
theorem d32 : decode yB 32 = .ok (.iinc 1 1, 3) := by decide +kernel
theorem d35 : decode yB 35 = .ok (.iinc 3 1, 3) := by decide +kernel
theorem d38 : decode yB 38 = .ok (.iinc 5 1, 3) := by decide +kernel
theorem d41 : decode yB 41 = .ok (.goto (-38), 3) := by decide +kernel
theorem d44 : decode yB 44 = .ok (.iload 4, 2) := by decide +kernel
theorem d46 : decode yB 46 = .ok (.ireturn, 1) := by decide +kernel
def site : List Cond := []
def tab : Cond := tabOf yN yB 7 (some .int) site
def P (b : Addr) (A : Cell) (d : Addr) (B : Cell) (o q len : Nat) (args : Array Value) (s : State) : Prop := args = #[.ref b, .int (Int32.ofNat o), .ref d, .int (Int32.ofNat q), .int (Int32.ofNat len)] ∧ Ch b A s ∧ Arr .byte d B s ∧ b ≠ d ∧ o + len ≤ A.slots.size ∧ q + len ≤ B.slots.size ∧ ∀ i, i < len → ¬ 255 < cv A (o + i)
def E (b : Addr) (A : Cell) (d : Addr) (B : Cell) (o q len : Nat) (r : Option Value) (s u : State) : Prop := r = some (.int (Int32.ofNat len)) ∧ ∃ B', Put d B' s u ∧ Laid B B' q (q + len) (fun j => Value.int (lo8 (cv A (o + (j - q)))))
/-- no char of the range above 255: len; the places written hold each char's low byte -/
theorem law (l : Launch) (b : Addr) (A : Cell) (d : Addr) (B : Cell) (o q len : Nat) : Law l yN 5 5 0 0 yB 7 (some .int) site (P b A d B o q len) (E b A d B o q len) (copyLocs d q len) 0 0 := by
  refine Law.of_walk (plainFor_of_name (by decide +kernel)) (by decide +kernel) (by decide +kernel) (by decide) (fun _ _ h => by rw [h.1]; rfl) (fun _ U U' hal hh h => ⟨h.1, h.2.1.mv hal hh, h.2.2.1.mv hal hh, h.2.2.2⟩) (fun r U U' V V' h1 hal h2 h => ⟨h.1, h.2.elim fun B' q => ⟨B', q.1.mv h1 h2, q.2⟩⟩) ?_
  intro p e s m args below meth c s₁ X0 hexec hbytes hml hret hlk hnm hown hh0 W hP
  obtain ⟨rfl, hA, hB, hne, l1, l2, hp⟩ := hP
  have c1 : Steps p.tables e below (s₁.setTop (entryFrame m #[.ref b, .int (Int32.ofNat o), .ref d, .int (Int32.ofNat q), .int (Int32.ofNat len)] 7)) (s₁.setTop (mkF m 0 #[.val (.ref b), .val (.int (Int32.ofNat o)), .val (.ref d), .val (.int (Int32.ofNat q)), .val (.int (Int32.ofNat len)), .unset, .unset] [])) := entry rfl
  have hA0 := hA.1.mv X0.warmed.alike hh0
  have hB0 := hB.mv X0.warmed.alike hh0
  have a31 := hA.1.2.2.2
  have c2 : Steps p.tables e below (s₁.setTop (entryFrame m #[.ref b, .int (Int32.ofNat o), .ref d, .int (Int32.ofNat q), .int (Int32.ofNat len)] 7)) (s₁.setTop (mkF m 3 #[.val (.ref b), .val (.int (Int32.ofNat o)), .val (.ref d), .val (.int (Int32.ofNat q)), .val (.int (Int32.ofNat len)), .val (.int 0), .unset] [])) := c1.trans (by
    refine iconstV X0.here hexec rfl 0 (hb hbytes d0) (by decide) ?_
    refine XS.istore X0.here hexec rfl (hb hbytes d1) rfl rfl ?_
    exact Steps.refl _)
  have loop : ∀ (r i : Nat), i + r = len → ∀ (z : Slot), (z = .unset ∨ ∃ w, z = .val w ∧ w.category = 1) → ∀ (Tl : State) (Bk : Cell), Stand p l e { frames := 0, locals := 0, cells := 0, slots := 0 } s m #[.ref b, .int (Int32.ofNat o), .ref d, .int (Int32.ofNat q), .int (Int32.ofNat len)] below meth c Tl ([] ++ copyLocs d q i) 0 0 → Put d Bk s₁ Tl → Laid B Bk q (q + i) (fun j => Value.int (lo8 (cv A (o + (j - q))))) →
      Steps p.tables e below (s₁.setTop (entryFrame m #[.ref b, .int (Int32.ofNat o), .ref d, .int (Int32.ofNat q), .int (Int32.ofNat len)] 7)) (Tl.setTop (mkF m 3 #[.val (.ref b), .val (.int (Int32.ofNat (o + i))), .val (.ref d), .val (.int (Int32.ofNat (q + i))), .val (.int (Int32.ofNat len)), .val (.int (Int32.ofNat i)), z] [])) → ∃ (T' : State) (B' : Cell) (z' : Slot), Stand p l e { frames := 0, locals := 0, cells := 0, slots := 0 } s m #[.ref b, .int (Int32.ofNat o), .ref d, .int (Int32.ofNat q), .int (Int32.ofNat len)] below meth c T' ([] ++ copyLocs d q len) 0 0 ∧ Put d B' s₁ T' ∧ Laid B B' q (q + len) (fun j => Value.int (lo8 (cv A (o + (j - q))))) ∧
      Steps p.tables e below (s₁.setTop (entryFrame m #[.ref b, .int (Int32.ofNat o), .ref d, .int (Int32.ofNat q), .int (Int32.ofNat len)] 7)) (T'.setTop (mkF m 3 #[.val (.ref b), .val (.int (Int32.ofNat (o + len))), .val (.ref d), .val (.int (Int32.ofNat (q + len))), .val (.int (Int32.ofNat len)), .val (.int (Int32.ofNat len)), z'] [])) := by
    intro r
    induction r with
    | zero =>
      intro i hi z hz Tl Bk Xl pl fl cl
      have hil : i = len := by omega
      rw [hil] at Xl fl cl
      exact ⟨Tl, Bk, z, Xl, pl, fl, cl⟩
    | succ r ih =>
      intro i hi z hz Tl Bk Xl pl fl cl
      have all := X0.warmed.alike.symm.trans Xl.warmed.alike
      have hAl := hA0.keep all (pl.other hne hA0.1)
      have hBk := hB0.like all pl.1 fl.1 fl.2.1 fl.2.2.1
      have hlt : q + i < Bk.slots.size := by rw [fl.2.2.1]; omega
      have c3 : Steps p.tables e below (s₁.setTop (entryFrame m #[.ref b, .int (Int32.ofNat o), .ref d, .int (Int32.ofNat q), .int (Int32.ofNat len)] 7)) (Tl.setTop (mkF m 12 #[.val (.ref b), .val (.int (Int32.ofNat (o + i))), .val (.ref d), .val (.int (Int32.ofNat (q + i))), .val (.int (Int32.ofNat len)), .val (.int (Int32.ofNat i)), z] [.int (Int32.ofNat (o + i)), .ref b])) := cl.trans (by
        refine XS.iload Xl.here hexec rfl (hb hbytes d3) rfl ?_
        refine XS.iload Xl.here hexec rfl (hb hbytes d5) rfl ?_
        refine XS.icmpNo Xl.here hexec rfl (hb hbytes d7) rfl (ii_ge_f (lt32 (by omega) (by omega))) ?_
        refine XS.aloadN Xl.here hexec rfl (hb hbytes d10) rfl rfl ?_
        refine XS.iloadN Xl.here hexec rfl (hb hbytes d11) rfl ?_
        exact Steps.refl _)
      have c4 : Steps p.tables e below (s₁.setTop (entryFrame m #[.ref b, .int (Int32.ofNat o), .ref d, .int (Int32.ofNat q), .int (Int32.ofNat len)] 7)) (Tl.setTop (mkF m 13 #[.val (.ref b), .val (.int (Int32.ofNat (o + i))), .val (.ref d), .val (.int (Int32.ofNat (q + i))), .val (.int (Int32.ofNat len)), .val (.int (Int32.ofNat i)), z] [.int (cv A (o + i))])) := c3.trans (by
        refine Xl.aget hexec hAl rfl (hA.get (i := o + i) (by omega)) rfl rfl (hb hbytes d12) ?_
        exact Steps.refl _)
      have c5 : Steps p.tables e below (s₁.setTop (entryFrame m #[.ref b, .int (Int32.ofNat o), .ref d, .int (Int32.ofNat q), .int (Int32.ofNat len)] 7)) (Tl.setTop (mkF m 15 #[.val (.ref b), .val (.int (Int32.ofNat (o + i))), .val (.ref d), .val (.int (Int32.ofNat (q + i))), .val (.int (Int32.ofNat len)), .val (.int (Int32.ofNat i)), .val (.int (cv A (o + i)))] [])) := c4.trans (by
        refine XS.istoreS Xl.here hexec rfl (hb hbytes d13) rfl rfl hz ?_
        exact Steps.refl _)
      have c6 : Steps p.tables e below (s₁.setTop (entryFrame m #[.ref b, .int (Int32.ofNat o), .ref d, .int (Int32.ofNat q), .int (Int32.ofNat len)] 7)) (Tl.setTop (mkF m 31 #[.val (.ref b), .val (.int (Int32.ofNat (o + i))), .val (.ref d), .val (.int (Int32.ofNat (q + i))), .val (.int (Int32.ofNat len)), .val (.int (Int32.ofNat i)), .val (.int (cv A (o + i)))] [.int (lo8 (cv A (o + i))), .int (Int32.ofNat (q + i)), .ref d])) := c5.trans (by
        refine XS.iload Xl.here hexec rfl (hb hbytes d15) rfl ?_
        refine sipushV Xl.here hexec rfl 255 (hb hbytes d17) (by decide) ?_
        refine XS.icmpYes Xl.here hexec rfl (pc0 := 20) rfl (hb hbytes d20) rfl (ii_le_t (hp i (by omega))) (by decide) rfl ?_
        refine XS.aloadN Xl.here hexec rfl (hb hbytes d26) rfl rfl ?_
        refine XS.iloadN Xl.here hexec rfl (hb hbytes d27) rfl ?_
        refine XS.iload Xl.here hexec rfl (hb hbytes d28) rfl ?_
        refine i2b Xl.here hexec rfl (hb hbytes d30) rfl ?_
        exact Steps.refl _)
      obtain ⟨T7, X7, p7, st7⟩ := Xl.aput hexec hBk rfl hlt rfl (fits_lo8 (cv A (o + i))) (g := (mkF m 31 #[.val (.ref b), .val (.int (Int32.ofNat (o + i))), .val (.ref d), .val (.int (Int32.ofNat (q + i))), .val (.int (Int32.ofNat len)), .val (.int (Int32.ofNat i)), .val (.int (cv A (o + i)))] [.int (lo8 (cv A (o + i))), .int (Int32.ofNat (q + i)), .ref d])) rfl (rest := []) rfl (hb hbytes d31)
      have c8 : Steps p.tables e below (s₁.setTop (entryFrame m #[.ref b, .int (Int32.ofNat o), .ref d, .int (Int32.ofNat q), .int (Int32.ofNat len)] 7)) (T7.setTop (mkF m 32 #[.val (.ref b), .val (.int (Int32.ofNat (o + i))), .val (.ref d), .val (.int (Int32.ofNat (q + i))), .val (.int (Int32.ofNat len)), .val (.int (Int32.ofNat i)), .val (.int (cv A (o + i)))] [])) := c6.trans (st7 _ (Steps.refl _))
      have c9 : Steps p.tables e below (s₁.setTop (entryFrame m #[.ref b, .int (Int32.ofNat o), .ref d, .int (Int32.ofNat q), .int (Int32.ofNat len)] 7)) (T7.setTop (mkF m 3 #[.val (.ref b), .val (.int (Int32.ofNat (o + i) + 1)), .val (.ref d), .val (.int (Int32.ofNat (q + i) + 1)), .val (.int (Int32.ofNat len)), .val (.int (Int32.ofNat i + 1)), .val (.int (cv A (o + i)))] [])) := c8.trans (by
        refine iincV X7.here hexec rfl 1 (hb hbytes d32) (by decide) rfl rfl ?_
        refine iincV X7.here hexec rfl 1 (hb hbytes d35) (by decide) rfl rfl ?_
        refine iincV X7.here hexec rfl 1 (hb hbytes d38) (by decide) rfl rfl ?_
        refine XS.goto X7.here hexec rfl (pc0 := 41) rfl (hb hbytes d41) (by decide) rfl ?_
        exact Steps.refl _)
      have c10 : Steps p.tables e below (s₁.setTop (entryFrame m #[.ref b, .int (Int32.ofNat o), .ref d, .int (Int32.ofNat q), .int (Int32.ofNat len)] 7)) (T7.setTop (mkF m 3 #[.val (.ref b), .val (.int (Int32.ofNat (o + (i + 1)))), .val (.ref d), .val (.int (Int32.ofNat (q + (i + 1)))), .val (.int (Int32.ofNat len)), .val (.int (Int32.ofNat (i + 1))), .val (.int (cv A (o + i)))] [])) := by
        have := c9
        rw [succ32, succ32, succ32] at this
        exact this
      exact ih (i + 1) (by omega) _ (Or.inr ⟨_, rfl, rfl⟩) T7 _ (by rw [copyLocs_step, ← List.append_assoc]; exact X7) (pl.trans p7) (fl.step (by omega) hlt (by simp)) c10
  obtain ⟨T9, B9, z9, X9, p9, f9, g9⟩ := loop len 0 (by omega) .unset (Or.inl rfl) s₁ B (by simpa [copyLocs] using X0) ⟨hB0.1, fun _ _ => rfl, rfl⟩ (Laid.zero _ _ _) c2
  have c11 : Steps p.tables e below (s₁.setTop (entryFrame m #[.ref b, .int (Int32.ofNat o), .ref d, .int (Int32.ofNat q), .int (Int32.ofNat len)] 7)) (T9.setTop (mkF m 46 #[.val (.ref b), .val (.int (Int32.ofNat (o + len))), .val (.ref d), .val (.int (Int32.ofNat (q + len))), .val (.int (Int32.ofNat len)), .val (.int (Int32.ofNat len)), z9] [.int (Int32.ofNat len)])) := g9.trans (by
    refine XS.iload X9.here hexec rfl (hb hbytes d3) rfl ?_
    refine XS.iload X9.here hexec rfl (hb hbytes d5) rfl ?_
    refine XS.icmpYes X9.here hexec rfl (pc0 := 7) rfl (hb hbytes d7) rfl (ii_ge_t (nlt32 (by omega) (Nat.le_refl _))) (by decide) rfl ?_
    refine XS.iload X9.here hexec rfl (hb hbytes d44) rfl ?_
    exact Steps.refl _)
  exact ⟨T9, some (.int (Int32.ofNat len)), _, _, _, X9, by simp, rfl, rfl, (fun h => by cases h), ⟨rfl, B9, p9.from hh0, f9⟩, fun fs hl => c11.trans (X9.ireturnOut hexec hret rfl (Or.inl rfl) (hb hbytes d46) hl)⟩
end Cmp5
namespace Cmp3
def yN : MethodName := ⟨"java/lang/StringUTF16", "compress", "([CII)[B"⟩
abbrev yB : ByteArray := jdk_52_method_16_code
theorem d0 : decode yB 0 = .ok (.iload_n 2, 1) := by decide +kernel
theorem d1 : decode yB 1 = .ok (.newarray .byte, 2) := by decide +kernel
theorem d3 : decode yB 3 = .ok (.astore_n 3, 1) := by decide +kernel
theorem d4 : decode yB 4 = .ok (.aload_n 0, 1) := by decide +kernel
theorem d5 : decode yB 5 = .ok (.iload_n 1, 1) := by decide +kernel
theorem d6 : decode yB 6 = .ok (.aload_n 3, 1) := by decide +kernel
theorem d7 : decode yB 7 = .ok (.iconst 0, 1) := by decide +kernel
theorem d8 : decode yB 8 = .ok (.iload_n 2, 1) := by decide +kernel
theorem d9 : decode yB 9 = .ok (.invokestatic 115, 3) := by decide +kernel
theorem d12 : decode yB 12 = .ok (.istore 4, 2) := by decide +kernel
theorem d14 : decode yB 14 = .ok (.iload 4, 2) := by decide +kernel
theorem d16 : decode yB 16 = .ok (.iload_n 2, 1) := by decide +kernel
theorem d17 : decode yB 17 = .ok (.if_icmp (.eq) 40, 3) := by decide +kernel
theorem d57 : decode yB 57 = .ok (.aload_n 3, 1) := by decide +kernel
theorem d58 : decode yB 58 = .ok (.areturn, 1) := by decide +kernel
def site : List Cond := [.arrayClass .byte, Cmp5.tab] ++ staticW U16 115 Cmp5.yN
def tab : Cond := tabOf yN yB 6 (some (.array .byte)) site
def P (b : Addr) (A : Cell) (o len : Nat) (args : Array Value) (s : State) : Prop := args = #[.ref b, .int (Int32.ofNat o), .int (Int32.ofNat len)] ∧ Ch b A s ∧ o + len ≤ A.slots.size ∧ len ≤ 536870912 ∧ ∀ i, i < len → ¬ 255 < cv A (o + i)
def E (b : Addr) (A : Cell) (o len : Nat) (r : Option Value) (s u : State) : Prop := NewArr .byte "[B" len (fun j => .int (lo8 (cv A (o + j)))) r s u ∧ u.heap.size = s.heap.size + 1
/-- no char of the range above 255: a new byte[] of their low bytes -/
theorem law (l : Launch) (b : Addr) (A : Cell) (o len : Nat) : Law l yN 3 3 1 18 yB 6 (some (.array .byte)) site (P b A o len) (E b A o len) [] 1 len := by
  refine Law.of_walk (plainFor_of_name (by decide +kernel)) (by decide +kernel) (by decide +kernel) (by decide) (fun _ _ h => by rw [h.1]; rfl) (fun _ U U' hal hh h => ⟨h.1, h.2.1.mv hal hh, h.2.2⟩) (fun r U U' V V' h1 hal h2 h => ⟨NewArr.mv r U U' V V' h1 hal h2 h.1, by rw [h1, h2]; exact h.2⟩) ?_
  intro p e s m args below meth c s₁ X0 hexec hbytes hml hret hlk hnm hown hh0 W hP
  obtain ⟨rfl, hA, l1, l2, hp⟩ := hP
  have a31 := hA.1.2.2.2
  have c1 : Steps p.tables e below (s₁.setTop (entryFrame m #[.ref b, .int (Int32.ofNat o), .int (Int32.ofNat len)] 6)) (s₁.setTop (mkF m 0 #[.val (.ref b), .val (.int (Int32.ofNat o)), .val (.int (Int32.ofNat len)), .unset, .unset, .unset] [])) := entry rfl
  have c2 : Steps p.tables e below (s₁.setTop (entryFrame m #[.ref b, .int (Int32.ofNat o), .int (Int32.ofNat len)] 6)) (s₁.setTop (mkF m 1 #[.val (.ref b), .val (.int (Int32.ofNat o)), .val (.int (Int32.ofNat len)), .unset, .unset, .unset] [.int (Int32.ofNat len)])) := c1.trans (by
    refine XS.iloadN X0.here hexec rfl (hb hbytes d0) rfl ?_
    exact Steps.refl _)
  obtain ⟨T3, B3, X3, ba3, bs3, bv3, bh3, bf3, st3⟩ := X0.anew hexec (atype := .byte) (wk W (.arrayClass .byte)) rfl (by show len * 1 ≤ _; omega) (by omega) (g := (mkF m 1 #[.val (.ref b), .val (.int (Int32.ofNat o)), .val (.int (Int32.ofNat len)), .unset, .unset, .unset] [.int (Int32.ofNat len)])) rfl (hb hbytes d1) (rest := []) rfl (Nat.le_refl _) (by show 0 + len ≤ len; omega)
  rw [hh0] at ba3 st3
  have kp3 : XT.Kept s T3 := (XT.Kept.of_eq hh0).push bh3
  have hA3 := hA.keep X3.warmed.alike (kp3 _ _ hA.1.1)
  have hne : b ≠ s.heap.size := hA.1.ne
  have c4 : Steps p.tables e below (s₁.setTop (entryFrame m #[.ref b, .int (Int32.ofNat o), .int (Int32.ofNat len)] 6)) (T3.setTop (mkF m 3 #[.val (.ref b), .val (.int (Int32.ofNat o)), .val (.int (Int32.ofNat len)), .unset, .unset, .unset] [.ref s.heap.size])) := c2.trans (st3 _ (Steps.refl _))
  have c5 : Steps p.tables e below (s₁.setTop (entryFrame m #[.ref b, .int (Int32.ofNat o), .int (Int32.ofNat len)] 6)) (T3.setTop (mkF m 9 #[.val (.ref b), .val (.int (Int32.ofNat o)), .val (.int (Int32.ofNat len)), .val (.ref s.heap.size), .unset, .unset] [.int (Int32.ofNat len), .int 0, .ref s.heap.size, .int (Int32.ofNat o), .ref b])) := c4.trans (by
    refine XS.astoreN X3.here hexec rfl (hb hbytes d3) rfl rfl rfl ?_
    refine XS.aloadN X3.here hexec rfl (hb hbytes d4) rfl rfl ?_
    refine XS.iloadN X3.here hexec rfl (hb hbytes d5) rfl ?_
    refine XS.aloadN X3.here hexec rfl (hb hbytes d6) rfl rfl ?_
    refine iconstV X3.here hexec rfl 0 (hb hbytes d7) (by decide) ?_
    refine XS.iloadN X3.here hexec rfl (hb hbytes d8) rfl ?_
    exact Steps.refl _)
  obtain ⟨v6, T6, X6, E6, g6⟩ := X3.callS hexec (Cmp5.law l b A s.heap.size B3 o 0 len) hown (wks W (staticW U16 115 Cmp5.yN)) (wk W Cmp5.tab) (W := 0) (Nat.le_of_ble_eq_true rfl) (Nat.le_of_ble_eq_true rfl) (Nat.le_refl _) (by show 0 + len + 0 ≤ len; omega) (g := (mkF m 9 #[.val (.ref b), .val (.int (Int32.ofNat o)), .val (.int (Int32.ofNat len)), .val (.ref s.heap.size), .unset, .unset] [.int (Int32.ofNat len), .int (Int32.ofNat 0), .ref s.heap.size, .int (Int32.ofNat o), .ref b])) rfl (by rw [hml]; rfl) c5 (argsL := [.ref b, .int (Int32.ofNat o), .ref s.heap.size, .int (Int32.ofNat 0), .int (Int32.ofNat len)]) (rest := []) rfl rfl (by show 2 * 0 + 0 ≤ _; decide) (hb hbytes d9) (⟨rfl, hA3, ba3, hne, l1, by rw [bs3]; simp, hp⟩)
  obtain ⟨rfl, B6, p6, f6⟩ := E6
  have c7 : Steps p.tables e below (s₁.setTop (entryFrame m #[.ref b, .int (Int32.ofNat o), .int (Int32.ofNat len)] 6)) (T6.setTop (mkF m 12 #[.val (.ref b), .val (.int (Int32.ofNat o)), .val (.int (Int32.ofNat len)), .val (.ref s.heap.size), .unset, .unset] [.int (Int32.ofNat len)])) := g6
  have c8 : Steps p.tables e below (s₁.setTop (entryFrame m #[.ref b, .int (Int32.ofNat o), .int (Int32.ofNat len)] 6)) (T6.setTop (mkF m 58 #[.val (.ref b), .val (.int (Int32.ofNat o)), .val (.int (Int32.ofNat len)), .val (.ref s.heap.size), .val (.int (Int32.ofNat len)), .unset] [.ref s.heap.size])) := c7.trans (by
    refine XS.istore X6.here hexec rfl (hb hbytes d12) rfl rfl ?_
    refine XS.iload X6.here hexec rfl (hb hbytes d14) rfl ?_
    refine XS.iloadN X6.here hexec rfl (hb hbytes d16) rfl ?_
    refine XS.icmpYes X6.here hexec rfl (pc0 := 17) rfl (hb hbytes d17) rfl (ii_eq_t rfl) (by decide) rfl ?_
    refine XS.aloadN X6.here hexec rfl (hb hbytes d57) rfl rfl ?_
    exact Steps.refl _)
  have X8 := X6.wide (L' := []) (cells' := 1) (slots' := len) (fun x hx hlt => by
    simp only [List.nil_append, copyLocs, List.mem_map, List.mem_range] at hx
    obtain ⟨i, -, rfl⟩ := hx
    exact absurd hlt (Nat.lt_irrefl _)) (Nat.le_refl _) (by omega)
  exact ⟨T6, some (.ref s.heap.size), _, _, _, X8, rfl, rfl, rfl, (fun h => by cases h), ⟨⟨rfl, B6, ba3.like (X3.warmed.alike.symm.trans X6.warmed.alike) p6.1 f6.1 f6.2.1 f6.2.2.1, f6.2.1.trans bv3, by rw [X6.warmed.alike.findClass, f6.1]; exact bf3, by rw [f6.2.2.1, bs3]; simp, fun j hj => by rw [f6.2.2.2 j, if_pos (by omega)]; rfl, kp3.put p6 (Nat.le_refl _)⟩, by rw [p6.2.2, bh3, hh0]; simp⟩, fun fs hl => c8.trans (X8.areturnOut hexec rfl hret rfl (hb hbytes d58) hl)⟩
end Cmp3
namespace CodL
def yN : MethodName := ⟨"java/lang/StringUTF16", "coderFromArrayLen", "([BI)B"⟩
abbrev yB : ByteArray := jdk_52_method_15_code
theorem d0 : decode yB 0 = .ok (.iload_n 1, 1) := by decide +kernel
theorem d1 : decode yB 1 = .ok (.aload_n 0, 1) := by decide +kernel
theorem d2 : decode yB 2 = .ok (.arraylength, 1) := by decide +kernel
theorem d3 : decode yB 3 = .ok (.isub, 1) := by decide +kernel
theorem d4 : decode yB 4 = .ok (.bipush 31, 2) := by decide +kernel
theorem d6 : decode yB 6 = .ok (.iushr, 1) := by decide +kernel
theorem d7 : decode yB 7 = .ok (.i2b, 1) := by decide +kernel
theorem d8 : decode yB 8 = .ok (.ireturn, 1) := by decide +kernel
def site : List Cond := []
def tab : Cond := tabOf yN yB 2 (some .byte) site
def P (d : Addr) (B : Cell) (args : Array Value) (s : State) : Prop := args = #[.ref d, .int (Int32.ofNat B.slots.size)] ∧ Arr .byte d B s
def E (r : Option Value) (s u : State) : Prop := XT.PureE (some (.int 0)) r s u
/-- an array as long as the number of chars: LATIN1 -/
theorem law (l : Launch) (d : Addr) (B : Cell) : Law l yN 2 2 0 0 yB 2 (some .byte) site (P d B) E [] 0 0 := by
  refine Law.of_walk (plainFor_of_name (by decide +kernel)) (by decide +kernel) (by decide +kernel) (by decide) (fun _ _ h => by rw [h.1]; rfl) (fun _ U U' hal hh h => ⟨h.1, h.2.mv hal hh⟩) (fun r U U' V V' h1 hal h2 h => XT.PureE.mv r U U' V V' h1 hal h2 h) ?_
  intro p e s m args below meth c s₁ X0 hexec hbytes hml hret hlk hnm hown hh0 W hP
  obtain ⟨rfl, hB⟩ := hP
  have hB0 := hB.mv X0.warmed.alike hh0
  have c1 : Steps p.tables e below (s₁.setTop (entryFrame m #[.ref d, .int (Int32.ofNat B.slots.size)] 2)) (s₁.setTop (mkF m 0 #[.val (.ref d), .val (.int (Int32.ofNat B.slots.size))] [])) := entry rfl
  have c2 : Steps p.tables e below (s₁.setTop (entryFrame m #[.ref d, .int (Int32.ofNat B.slots.size)] 2)) (s₁.setTop (mkF m 2 #[.val (.ref d), .val (.int (Int32.ofNat B.slots.size))] [.ref d, .int (Int32.ofNat B.slots.size)])) := c1.trans (by
    refine XS.iloadN X0.here hexec rfl (hb hbytes d0) rfl ?_
    refine XS.aloadN X0.here hexec rfl (hb hbytes d1) rfl rfl ?_
    exact Steps.refl _)
  have c3 : Steps p.tables e below (s₁.setTop (entryFrame m #[.ref d, .int (Int32.ofNat B.slots.size)] 2)) (s₁.setTop (mkF m 8 #[.val (.ref d), .val (.int (Int32.ofNat B.slots.size))] [.int (lo8 (ushr (Int32.ofNat B.slots.size - Int32.ofNat B.slots.size) 31))])) := c2.trans (by
    refine X0.alen hexec hB0 rfl rfl (hb hbytes d2) ?_
    refine XS.isub X0.here hexec rfl (hb hbytes d3) rfl ?_
    refine bipushV X0.here hexec rfl 31 (hb hbytes d4) (by decide) ?_
    refine iushr X0.here hexec rfl (hb hbytes d6) rfl ?_
    refine i2b X0.here hexec rfl (hb hbytes d7) rfl ?_
    exact Steps.refl _)
  have e0 : lo8 (ushr (Int32.ofNat B.slots.size - Int32.ofNat B.slots.size) 31) = 0 := by rw [Int32.sub_self]; decide
  rw [e0] at c3
  exact ⟨s₁, some (.int 0), _, _, _, X0, rfl, rfl, rfl, (fun h => by cases h), ⟨rfl, hh0⟩, fun fs hl => c3.trans (X0.ireturnOut hexec hret rfl (Or.inr (Or.inr (Or.inl rfl))) (hb hbytes d8) hl)⟩
end CodL
/-- the String at a is Latin-1 over a new byte[] (the heap's one new cell): the low bytes of the len chars of A from o on; every cell but a is kept -/
def Got (a : Addr) (D : Cell) (fV fC : Field) (A : Cell) (o len : Nat) (r : Option Value) (s u : State) : Prop := r = none ∧ ∃ D' V : Cell, Blank "java/lang/String" a D' u ∧ Same D D' [fV.slot, fC.slot] ∧ D'.slots[fV.slot]? = some (.ref s.heap.size) ∧ D'.slots[fC.slot]? = some (.int 0) ∧ Arr .byte s.heap.size V u ∧ V.vm = .none ∧ u.vm.findClass "[B" = some V.cls ∧ V.slots.size = len ∧ (∀ j, j < len → V.slots[j]? = some (.int (lo8 (cv A (o + j))))) ∧ (∀ (y : Addr) (c : Cell), y ≠ a → s.heap[y]? = some c → u.heap[y]? = some c) ∧ u.heap.size = s.heap.size + 1
theorem Got.mv {a : Addr} {D A : Cell} {fV fC : Field} {o len : Nat} : ∀ r (U U' V V' : State), U'.heap = U.heap → V.vm.Alike V'.vm → V'.heap = V.heap → Got a D fV fC A o len r U V → Got a D fV fC A o len r U' V' :=
  fun r U U' V V' h1 hal h2 ⟨e0, D', X, a1, a2, a3, a4, a5, a6, a7, a8, a9, a10, a11⟩ => ⟨e0, D', X, a1.mv hal h2, a2, by rw [h1]; exact a3, a4, by rw [h1]; exact a5.mv hal h2, a6, by rw [hal.findClass]; exact a7, a8, a9, by rw [h1, h2]; exact a10, by rw [h1, h2]; exact a11⟩
namespace New4
def yN : MethodName := ⟨"java/lang/String", "<init>", "([CIILjava/lang/Void;)V"⟩
abbrev yB : ByteArray := jdk_42_method_149_code
theorem d0 : decode yB 0 = .ok (.aload_n 0, 1) := by decide +kernel
theorem d1 : decode yB 1 = .ok (.invokespecial 1, 3) := by decide +kernel
theorem d4 : decode yB 4 = .ok (.iload_n 3, 1) := by decide +kernel
theorem d5 : decode yB 5 = .ok (.ifCond (.ne) 22, 3) := by decide +kernel
theorem d27 : decode yB 27 = .ok (.getstatic 38, 3) := by decide +kernel
theorem d30 : decode yB 30 = .ok (.ifCond (.eq) 28, 3) := by decide +kernel
theorem d33 : decode yB 33 = .ok (.aload_n 1, 1) := by decide +kernel
theorem d34 : decode yB 34 = .ok (.iload_n 2, 1) := by decide +kernel
theorem d35 : decode yB 35 = .ok (.iload_n 3, 1) := by decide +kernel
theorem d36 : decode yB 36 = .ok (.invokestatic 177, 3) := by decide +kernel
theorem d39 : decode yB 39 = .ok (.astore 5, 2) := by decide +kernel
theorem d41 : decode yB 41 = .ok (.aload_n 0, 1) := by decide +kernel
theorem d42 : decode yB 42 = .ok (.aload 5, 2) := by decide +kernel
theorem d44 : decode yB 44 = .ok (.iload_n 3, 1) := by decide +kernel
theorem d45 : decode yB 45 = .ok (.invokestatic 47, 3) := by decide +kernel
theorem d48 : decode yB 48 = .ok (.putfield 15, 3) := by decide +kernel
theorem d51 : decode yB 51 = .ok (.aload_n 0, 1) := by decide +kernel
theorem d52 : decode yB 52 = .ok (.aload 5, 2) := by decide +kernel
theorem d54 : decode yB 54 = .ok (.putfield 9, 3) := by decide +kernel
theorem d57 : decode yB 57 = .ok (.return_, 1) := by decide +kernel
def site : List Cond := [.fieldLink "java/lang/String" 38 "java/lang/String" "COMPACT_STRINGS" "Z", Cmp3.tab, CodL.tab, .laysFinal "java/lang/String" "java/lang/String" "value" "[B", .fieldLink "java/lang/String" 9 "java/lang/String" "value" "[B", .laysFinal "java/lang/String" "java/lang/String" "coder" "B", .fieldLink "java/lang/String" 15 "java/lang/String" "coder" "B"] ++ objW "java/lang/String" 1 ++ staticW "java/lang/String" 177 Cmp3.yN ++ staticW "java/lang/String" 47 CodL.yN
def tab : Cond := tabOf yN yB 6 none site
def P (a : Addr) (D : Cell) (fV fC : Field) (b : Addr) (A : Cell) (z : Int32) (o len : Nat) (args : Array Value) (s : State) : Prop := args = #[.ref a, .ref b, .int (Int32.ofNat o), .int (Int32.ofNat len), .null] ∧ Blank "java/lang/String" a D s ∧ Found "java/lang/String" "value" "[B" fV s ∧ Found "java/lang/String" "coder" "B" fC s ∧ Ch b A s ∧ StaticIs s "java/lang/String" "COMPACT_STRINGS" "Z" (.int z) ∧ ¬ z = 0 ∧ 0 < len ∧ o + len ≤ A.slots.size ∧ len ≤ 536870912 ∧ ∀ i, i < len → ¬ 255 < cv A (o + i)
def E (a : Addr) (D : Cell) (fV fC : Field) (A : Cell) (o len : Nat) (r : Option Value) (s u : State) : Prop := Got a D fV fC A o len r s u
/-- len > 0, no char of the range above 255: a Latin-1 String of their low bytes -/
theorem law (l : Launch) (a : Addr) (D : Cell) (fV fC : Field) (b : Addr) (A : Cell) (z : Int32) (o len : Nat) : Law l yN 5 4 2 35 yB 6 none site (P a D fV fC b A z o len) (E a D fV fC A o len) [⟨a, fC.slot⟩, ⟨a, fV.slot⟩] 1 len := by
  refine Law.of_walk (plainFor_of_name (by decide +kernel)) (by decide +kernel) (by decide +kernel) (by decide) (fun _ _ h => by rw [h.1]; rfl) (fun _ U U' hal hh h => ⟨h.1, h.2.1.mv hal hh, h.2.2.1.al hal, h.2.2.2.1.al hal, h.2.2.2.2.1.mv hal hh, h.2.2.2.2.2.1.there hal hh, h.2.2.2.2.2.2⟩) (fun r U U' V V' h1 hal h2 h => Got.mv r U U' V V' h1 hal h2 h) ?_
  intro p e s m args below meth c s₁ X0 hexec hbytes hml hret hlk hnm hown hh0 W hP
  obtain ⟨rfl, hB, f1, f2, hA, s1, hz, l0, l1, l2, hp⟩ := hP
  have a31 := hA.1.2.2.2
  have c1 : Steps p.tables e below (s₁.setTop (entryFrame m #[.ref a, .ref b, .int (Int32.ofNat o), .int (Int32.ofNat len), .null] 6)) (s₁.setTop (mkF m 0 #[.val (.ref a), .val (.ref b), .val (.int (Int32.ofNat o)), .val (.int (Int32.ofNat len)), .val .null, .unset] [])) := entry rfl
  have c2 : Steps p.tables e below (s₁.setTop (entryFrame m #[.ref a, .ref b, .int (Int32.ofNat o), .int (Int32.ofNat len), .null] 6)) (s₁.setTop (mkF m 1 #[.val (.ref a), .val (.ref b), .val (.int (Int32.ofNat o)), .val (.int (Int32.ofNat len)), .val .null, .unset] [.ref a])) := c1.trans (by
    refine XS.aloadN X0.here hexec rfl (hb hbytes d0) rfl rfl ?_
    exact Steps.refl _)
  obtain ⟨T3, X3, q3, st3⟩ := X0.oinit hexec hown (wks W (objW "java/lang/String" 1)) (g := (mkF m 1 #[.val (.ref a), .val (.ref b), .val (.int (Int32.ofNat o)), .val (.int (Int32.ofNat len)), .val .null, .unset] [.ref a])) rfl (by rw [hml]; rfl) (rest := []) rfl (hb hbytes d1) (W := 0) (by show 2 * 0 + 0 ≤ _; decide) (Nat.le_of_ble_eq_true rfl) (Nat.le_of_ble_eq_true rfl)
  have hh3 := q3.trans hh0
  have c4 : Steps p.tables e below (s₁.setTop (entryFrame m #[.ref a, .ref b, .int (Int32.ofNat o), .int (Int32.ofNat len), .null] 6)) (T3.setTop (mkF m 27 #[.val (.ref a), .val (.ref b), .val (.int (Int32.ofNat o)), .val (.int (Int32.ofNat len)), .val .null, .unset] [])) := (c2.trans (st3 _ (Steps.refl _))).trans (by
    refine XS.iloadN X3.here hexec rfl (hb hbytes d4) rfl ?_
    refine XS.ifYes X3.here hexec rfl (pc0 := 5) rfl (hb hbytes d5) rfl (i0_ne_t (nz32 (by omega) l0)) (by decide) rfl ?_
    exact Steps.refl _)
  obtain ⟨T5, X5, q5, st5⟩ := X3.sget hexec hown (wk W (.fieldLink "java/lang/String" 38 "java/lang/String" "COMPACT_STRINGS" "Z")) s1 (fun _ _ h => by rw [hh3]; exact h) (g := (mkF m 27 #[.val (.ref a), .val (.ref b), .val (.int (Int32.ofNat o)), .val (.int (Int32.ofNat len)), .val .null, .unset] [])) rfl (hb hbytes d27)
  have hh5 := q5.trans hh3
  have c6 : Steps p.tables e below (s₁.setTop (entryFrame m #[.ref a, .ref b, .int (Int32.ofNat o), .int (Int32.ofNat len), .null] 6)) (T5.setTop (mkF m 30 #[.val (.ref a), .val (.ref b), .val (.int (Int32.ofNat o)), .val (.int (Int32.ofNat len)), .val .null, .unset] [.int z])) := c4.trans (st5 _ (Steps.refl _))
  have c7 : Steps p.tables e below (s₁.setTop (entryFrame m #[.ref a, .ref b, .int (Int32.ofNat o), .int (Int32.ofNat len), .null] 6)) (T5.setTop (mkF m 36 #[.val (.ref a), .val (.ref b), .val (.int (Int32.ofNat o)), .val (.int (Int32.ofNat len)), .val .null, .unset] [.int (Int32.ofNat len), .int (Int32.ofNat o), .ref b])) := c6.trans (by
    refine XS.ifNo X5.here hexec rfl (hb hbytes d30) rfl (i0_eq_f hz) ?_
    refine XS.aloadN X5.here hexec rfl (hb hbytes d33) rfl rfl ?_
    refine XS.iloadN X5.here hexec rfl (hb hbytes d34) rfl ?_
    refine XS.iloadN X5.here hexec rfl (hb hbytes d35) rfl ?_
    exact Steps.refl _)
  obtain ⟨v8, T8, X8, E8, g8⟩ := X5.callS hexec (Cmp3.law l b A o len) hown (wks W (staticW "java/lang/String" 177 Cmp3.yN)) (wk W Cmp3.tab) (W := 0) (Nat.le_of_ble_eq_true rfl) (Nat.le_of_ble_eq_true rfl) (Nat.le_refl _) (by show 0 + len ≤ len; omega) (g := (mkF m 36 #[.val (.ref a), .val (.ref b), .val (.int (Int32.ofNat o)), .val (.int (Int32.ofNat len)), .val .null, .unset] [.int (Int32.ofNat len), .int (Int32.ofNat o), .ref b])) rfl (by rw [hml]; rfl) c7 (argsL := [.ref b, .int (Int32.ofNat o), .int (Int32.ofNat len)]) (rest := []) rfl rfl (by show 2 * 0 + 0 ≤ _; decide) (hb hbytes d36) (⟨rfl, hA.mv X5.warmed.alike hh5, l1, l2, hp⟩)
  obtain ⟨e8, z8⟩ := E8
  obtain ⟨rfl, N, n1, n2, n3, n4, n5, n6⟩ := NewArr.mv _ T5 s _ _ hh5.symm (Vm.Alike.refl _) rfl e8
  rw [hh5] at z8
  have hB1 := hB.keep X8.warmed.alike (n6 _ _ hB.1)
  have hne : s.heap.size ≠ a := (Nat.ne_of_lt (Array.getElem?_eq_some_iff.mp hB.1).1).symm
  have c9 : Steps p.tables e below (s₁.setTop (entryFrame m #[.ref a, .ref b, .int (Int32.ofNat o), .int (Int32.ofNat len), .null] 6)) (T8.setTop (mkF m 39 #[.val (.ref a), .val (.ref b), .val (.int (Int32.ofNat o)), .val (.int (Int32.ofNat len)), .val .null, .unset] [.ref s.heap.size])) := g8
  have c10 : Steps p.tables e below (s₁.setTop (entryFrame m #[.ref a, .ref b, .int (Int32.ofNat o), .int (Int32.ofNat len), .null] 6)) (T8.setTop (mkF m 45 #[.val (.ref a), .val (.ref b), .val (.int (Int32.ofNat o)), .val (.int (Int32.ofNat len)), .val .null, .val (.ref s.heap.size)] [.int (Int32.ofNat N.slots.size), .ref s.heap.size, .ref a])) := by
    have hc : Steps p.tables e below (s₁.setTop (entryFrame m #[.ref a, .ref b, .int (Int32.ofNat o), .int (Int32.ofNat len), .null] 6)) (T8.setTop (mkF m 45 #[.val (.ref a), .val (.ref b), .val (.int (Int32.ofNat o)), .val (.int (Int32.ofNat len)), .val .null, .val (.ref s.heap.size)] [.int (Int32.ofNat len), .ref s.heap.size, .ref a])) := c9.trans (by
      refine XS.astore X8.here hexec rfl (hb hbytes d39) rfl rfl rfl ?_
      refine XS.aloadN X8.here hexec rfl (hb hbytes d41) rfl rfl ?_
      refine XS.aload X8.here hexec rfl (hb hbytes d42) rfl rfl ?_
      refine XS.iloadN X8.here hexec rfl (hb hbytes d44) rfl ?_
      exact Steps.refl _)
    rw [n4]; exact hc
  obtain ⟨v11, T11, X11, E11, g11⟩ := X8.callS hexec (CodL.law l s.heap.size N) hown (wks W (staticW "java/lang/String" 47 CodL.yN)) (wk W CodL.tab) (W := 1) (Nat.le_of_ble_eq_true rfl) (Nat.le_of_ble_eq_true rfl) (Nat.le_refl _) (by show 0 + len + 0 ≤ len; omega) (g := (mkF m 45 #[.val (.ref a), .val (.ref b), .val (.int (Int32.ofNat o)), .val (.int (Int32.ofNat len)), .val .null, .val (.ref s.heap.size)] [.int (Int32.ofNat N.slots.size), .ref s.heap.size, .ref a])) rfl (by rw [hml]; rfl) c10 (argsL := [.ref s.heap.size, .int (Int32.ofNat N.slots.size)]) (rest := [.ref a]) rfl rfl (by show 2 * 0 + (1 + 0) ≤ _; decide) (hb hbytes d45) (⟨rfl, n1⟩)
  obtain ⟨rfl, q11⟩ := E11
  have hB11 := hB1.mv (X8.warmed.alike.symm.trans X11.warmed.alike) q11
  have c12 : Steps p.tables e below (s₁.setTop (entryFrame m #[.ref a, .ref b, .int (Int32.ofNat o), .int (Int32.ofNat len), .null] 6)) (T11.setTop (mkF m 48 #[.val (.ref a), .val (.ref b), .val (.int (Int32.ofNat o)), .val (.int (Int32.ofNat len)), .val .null, .val (.ref s.heap.size)] [.int 0, .ref a])) := g11
  obtain ⟨T13, X13, p13, bl13, sl13, st13⟩ := X11.finit hexec hown (wk W (.fieldLink "java/lang/String" 15 "java/lang/String" "coder" "B")) (Or.inr ⟨_, (wk W (.laysFinal "java/lang/String" "java/lang/String" "coder" "B"))⟩) (Or.inl ⟨rfl, hnm⟩) f2 (Or.inl rfl) hB11 (t := .byte) (by decide +kernel) rfl (g := (mkF m 48 #[.val (.ref a), .val (.ref b), .val (.int (Int32.ofNat o)), .val (.int (Int32.ofNat len)), .val .null, .val (.ref s.heap.size)] [.int 0, .ref a])) rfl (rest := []) rfl (hb hbytes d48)
  have c14 : Steps p.tables e below (s₁.setTop (entryFrame m #[.ref a, .ref b, .int (Int32.ofNat o), .int (Int32.ofNat len), .null] 6)) (T13.setTop (mkF m 54 #[.val (.ref a), .val (.ref b), .val (.int (Int32.ofNat o)), .val (.int (Int32.ofNat len)), .val .null, .val (.ref s.heap.size)] [.ref s.heap.size, .ref a])) := (c12.trans (st13 _ (Steps.refl _))).trans (by
    refine XS.aloadN X13.here hexec rfl (hb hbytes d51) rfl rfl ?_
    refine XS.aload X13.here hexec rfl (hb hbytes d52) rfl rfl ?_
    exact Steps.refl _)
  obtain ⟨T15, X15, p15, bl15, sl15, st15⟩ := X13.finit hexec hown (wk W (.fieldLink "java/lang/String" 9 "java/lang/String" "value" "[B")) (Or.inr ⟨_, (wk W (.laysFinal "java/lang/String" "java/lang/String" "value" "[B"))⟩) (Or.inl ⟨rfl, hnm⟩) f1 (Or.inl rfl) bl13 (t := (.array .byte)) (by decide +kernel) rfl (g := (mkF m 54 #[.val (.ref a), .val (.ref b), .val (.int (Int32.ofNat o)), .val (.int (Int32.ofNat len)), .val .null, .val (.ref s.heap.size)] [.ref s.heap.size, .ref a])) rfl (rest := []) rfl (hb hbytes d54)
  have c16 : Steps p.tables e below (s₁.setTop (entryFrame m #[.ref a, .ref b, .int (Int32.ofNat o), .int (Int32.ofNat len), .null] 6)) (T15.setTop (mkF m 57 #[.val (.ref a), .val (.ref b), .val (.int (Int32.ofNat o)), .val (.int (Int32.ofNat len)), .val .null, .val (.ref s.heap.size)] [])) := c14.trans (st15 _ (Steps.refl _))
  have ap := apart (Or.inr ⟨_, (wk W (.laysFinal "java/lang/String" "java/lang/String" "value" "[B"))⟩) (Or.inr ⟨_, (wk W (.laysFinal "java/lang/String" "java/lang/String" "coder" "B"))⟩) f1 f2 (t₁ := .array .byte) (t₂ := .byte) (by decide +kernel) (by decide +kernel) (by decide)
  have al := X8.warmed.alike.symm.trans X15.warmed.alike
  have n7 : T11.heap[s.heap.size]? = some N := by rw [q11]; exact n1.1
  exact ⟨T15, none, _, _, _, X15, by simp, rfl, by omega, (fun _ => rfl), ⟨rfl, _, N, bl15, ((Same.refl D _).set _ (by simp)).set _ (by simp), sl15, (Cell.slots_setSlot_ne _ ap).trans sl13, n1.keep al (p15.other hne (p13.other hne n7)), n2, by rw [al.findClass]; exact n3, n4, n5, fun y c h1 h2 => p15.other h1 (p13.other h1 (by rw [q11]; exact n6 y c h2)), by rw [p15.2.2, p13.2.2, q11]; exact z8⟩, fun fs hl => c16.trans (X15.returnOut hexec hret (hb hbytes d57) hl)⟩
end New4
namespace New1
def yN : MethodName := ⟨"java/lang/String", "<init>", "([C)V"⟩
abbrev yB : ByteArray := jdk_42_method_3_code
theorem d0 : decode yB 0 = .ok (.aload_n 0, 1) := by decide +kernel
theorem d1 : decode yB 1 = .ok (.aload_n 1, 1) := by decide +kernel
theorem d2 : decode yB 2 = .ok (.iconst 0, 1) := by decide +kernel
theorem d3 : decode yB 3 = .ok (.aload_n 1, 1) := by decide +kernel
theorem d4 : decode yB 4 = .ok (.arraylength, 1) := by decide +kernel
theorem d5 : decode yB 5 = .ok (.aconst_null, 1) := by decide +kernel
theorem d6 : decode yB 6 = .ok (.invokespecial 27, 3) := by decide +kernel
theorem d9 : decode yB 9 = .ok (.return_, 1) := by decide +kernel
def site : List Cond := [New4.tab] ++ initW "java/lang/String" 27 New4.yN
def tab : Cond := tabOf yN yB 2 none site
def P (a : Addr) (D : Cell) (fV fC : Field) (b : Addr) (A : Cell) (z : Int32) (args : Array Value) (s : State) : Prop := args = #[.ref a, .ref b] ∧ Blank "java/lang/String" a D s ∧ Found "java/lang/String" "value" "[B" fV s ∧ Found "java/lang/String" "coder" "B" fC s ∧ Ch b A s ∧ StaticIs s "java/lang/String" "COMPACT_STRINGS" "Z" (.int z) ∧ ¬ z = 0 ∧ 0 < A.slots.size ∧ A.slots.size ≤ 536870912 ∧ ∀ i, i < A.slots.size → ¬ 255 < cv A i
def E (a : Addr) (D : Cell) (fV fC : Field) (A : Cell) (r : Option Value) (s u : State) : Prop := Got a D fV fC A 0 A.slots.size r s u
/-- new String(chars), not empty, no char above 255: a Latin-1 String of their low bytes -/
theorem law (l : Launch) (a : Addr) (D : Cell) (fV fC : Field) (b : Addr) (A : Cell) (z : Int32) : Law l yN 2 1 3 52 yB 2 none site (P a D fV fC b A z) (E a D fV fC A) [⟨a, fC.slot⟩, ⟨a, fV.slot⟩] 1 A.slots.size := by
  refine Law.of_walk (plainFor_of_name (by decide +kernel)) (by decide +kernel) (by decide +kernel) (by decide) (fun _ _ h => by rw [h.1]; rfl) (fun _ U U' hal hh h => ⟨h.1, h.2.1.mv hal hh, h.2.2.1.al hal, h.2.2.2.1.al hal, h.2.2.2.2.1.mv hal hh, h.2.2.2.2.2.1.there hal hh, h.2.2.2.2.2.2⟩) (fun r U U' V V' h1 hal h2 h => Got.mv r U U' V V' h1 hal h2 h) ?_
  intro p e s m args below meth c s₁ X0 hexec hbytes hml hret hlk hnm hown hh0 W hP
  obtain ⟨rfl, hB, f1, f2, hA, s1, hz, l0, l2, hp⟩ := hP
  have c1 : Steps p.tables e below (s₁.setTop (entryFrame m #[.ref a, .ref b] 2)) (s₁.setTop (mkF m 0 #[.val (.ref a), .val (.ref b)] [])) := entry rfl
  have c2 : Steps p.tables e below (s₁.setTop (entryFrame m #[.ref a, .ref b] 2)) (s₁.setTop (mkF m 6 #[.val (.ref a), .val (.ref b)] [.null, .int (Int32.ofNat A.slots.size), .int 0, .ref b, .ref a])) := c1.trans (by
    refine XS.aloadN X0.here hexec rfl (hb hbytes d0) rfl rfl ?_
    refine XS.aloadN X0.here hexec rfl (hb hbytes d1) rfl rfl ?_
    refine iconstV X0.here hexec rfl 0 (hb hbytes d2) (by decide) ?_
    refine XS.aloadN X0.here hexec rfl (hb hbytes d3) rfl rfl ?_
    refine X0.alen hexec (hA.1.mv X0.warmed.alike hh0) rfl rfl (hb hbytes d4) ?_
    refine XS.aconstNull X0.here hexec rfl (hb hbytes d5) ?_
    exact Steps.refl _)
  obtain ⟨v3, T3, X3, E3, g3⟩ := X0.callN hexec (New4.law l a D fV fC b A z 0 A.slots.size) rfl hown (wks W (initW "java/lang/String" 27 New4.yN)) (W New4.tab (by simp only [site, List.mem_cons, List.mem_append, true_or, or_true])) (W := 0) (Nat.le_of_ble_eq_true rfl) (Nat.le_of_ble_eq_true rfl) (Nat.le_refl _) (by show 0 + A.slots.size ≤ A.slots.size; omega) (g := (mkF m 6 #[.val (.ref a), .val (.ref b)] [.null, .int (Int32.ofNat A.slots.size), .int (Int32.ofNat 0), .ref b, .ref a])) rfl (by rw [hml]; rfl) c2 (argsL := [.ref b, .int (Int32.ofNat 0), .int (Int32.ofNat A.slots.size), .null]) (rest := []) rfl rfl (by show 2 * 0 + 0 ≤ _; decide) (hb hbytes d6) (⟨rfl, hB.mv X0.warmed.alike hh0, f1.al X0.warmed.alike, f2.al X0.warmed.alike, hA.mv X0.warmed.alike hh0, s1.there X0.warmed.alike hh0, hz, l0, by omega, l2, fun i hi => by rw [Nat.zero_add]; exact hp i hi⟩)
  have e0 := Got.mv _ s₁ s _ _ hh0.symm (Vm.Alike.refl _) rfl E3
  obtain rfl := e0.1
  have c4 : Steps p.tables e below (s₁.setTop (entryFrame m #[.ref a, .ref b] 2)) (T3.setTop (mkF m 9 #[.val (.ref a), .val (.ref b)] [])) := g3
  exact ⟨T3, none, _, _, _, X3, by simp, rfl, by omega, (fun _ => rfl), e0, fun fs hl => c4.trans (X3.returnOut hexec hret (hb hbytes d9) hl)⟩
theorem pays {l : Launch} {R : Room} {p : Program} {e : Env} {below : List Frame} {s : State} {sargs : Array Value} {len W : Nat} (a : Addr) (D : Cell) (fV fC : Field) (b : Addr) (A : Cell) (z : Int32) (htab : tab.before sargs s = true) (hfr : 4 ≤ R.frames) (hlo : W + 65 ≤ R.locals) :
    Back l R p e below s sargs yN len W (fun A₁ a₁ => A₁.cells + 1 ≤ R.cells ∧ A₁.slots + A.slots.size ≤ R.slots ∧ P a D fV fC b A z a₁ A₁.U) (fun A₁ _ v₁ B₁ => E a D fV fC A v₁ A₁.U B₁.U ∧ B₁.locs = A₁.locs ++ [⟨a, fC.slot⟩, ⟨a, fV.slot⟩] ∧ B₁.cells = A₁.cells + 1 ∧ B₁.slots = A₁.slots + A.slots.size) :=
  (law l a D fV fC b A z).pays htab hfr (by omega)
end New1
/-- the byte, read back as charAt reads it, is the char -/
theorem lo8_mask {x : Int32} (h0 : ¬ x < 0) (h1 : ¬ 255 < x) : lo8 x &&& 255 = x := by
  have t : ∀ k : Fin 256, lo8 (Int32.ofNat k.val) &&& 255 = Int32.ofNat k.val := by decide +kernel
  rw [Int32.lt_iff_toInt_lt] at h0 h1
  have e0 : (0 : Int32).toInt = 0 := rfl
  have e1 : (255 : Int32).toInt = 255 := rfl
  obtain ⟨k, hk⟩ : ∃ k : Nat, x.toInt = k := ⟨x.toInt.toNat, by omega⟩
  have hx : x = Int32.ofNat k := Int32.toInt_inj.mp (by rw [hk, Int32.toInt_ofNat_small (by omega)])
  rw [hx]
  exact t ⟨k, by omega⟩
end StrChars
namespace StrChars.Road
open Jvm Sem ClassFile Op Lib Jvm.Stand Jvm.Free Jvm.Free.XT
open Jvm.Lib.Cold (StaticIs)
abbrev ST : String := "java/lang/String"
/-- every table word that New1's law asks, flat -/
abbrev words : List Jvm.Cond := [.code New1.yN New1.yB 2 none, .initialized ST, .methodLink ST 27 New4.yN, .instanceMethod New4.yN,
  .code New4.yN New4.yB 6 none, .fieldLink ST 38 ST "COMPACT_STRINGS" "Z", .laysFinal ST ST "value" "[B", .fieldLink ST 9 ST "value" "[B", .laysFinal ST ST "coder" "B", .fieldLink ST 15 ST "coder" "B",
  .methodLink ST 1 Lib.objectInit, .instanceMethod Lib.objectInit, .code Lib.objectInit ⟨#[0xb1]⟩ 1 none, .methodLink ST 177 Cmp3.yN, .static Cmp3.yN, .methodLink ST 47 CodL.yN, .static CodL.yN,
  .code Cmp3.yN Cmp3.yB 6 (some (.array .byte)), .initialized U16, .arrayClass .byte, .methodLink U16 115 Cmp5.yN, .static Cmp5.yN, .code Cmp5.yN Cmp5.yB 7 (some .int), .code CodL.yN CodL.yB 2 (some .byte)]
theorem tab_of {a : Array Value} {s : State} (h : ∀ w ∈ words, w.before a s = true) : New1.tab.before a s = true := by
  have h5 : Cmp5.tab.before a s = true := unparts (wk h (.code Cmp5.yN Cmp5.yB 7 (some .int))) (wks h (.initialized Cmp5.yN.cls :: Cmp5.site))
  have hc : CodL.tab.before a s = true := unparts (wk h (.code CodL.yN CodL.yB 2 (some .byte))) (wks h (.initialized CodL.yN.cls :: CodL.site))
  have q5 : ∀ w ∈ Cmp5.tab :: words, w.before a s = true := fun w hw => (List.mem_cons.mp hw).elim (fun e => e ▸ h5) (h w)
  have h3 : Cmp3.tab.before a s = true := unparts (wk q5 (.code Cmp3.yN Cmp3.yB 6 (some (.array .byte)))) (wks q5 (.initialized Cmp3.yN.cls :: Cmp3.site))
  have q3 : ∀ w ∈ Cmp3.tab :: CodL.tab :: words, w.before a s = true := fun w hw => (List.mem_cons.mp hw).elim (fun e => e ▸ h3) fun hw => (List.mem_cons.mp hw).elim (fun e => e ▸ hc) (h w)
  have h4 : New4.tab.before a s = true := unparts (wk q3 (.code New4.yN New4.yB 6 none)) (wks q3 (.initialized New4.yN.cls :: New4.site))
  have q4 : ∀ w ∈ New4.tab :: words, w.before a s = true := fun w hw => (List.mem_cons.mp hw).elim (fun e => e ▸ h4) (h w)
  exact unparts (wk q4 (.code New1.yN New1.yB 2 none)) (wks q4 (.initialized New1.yN.cls :: New1.site))
/-- the words ride from the start Z to the walk's own state -/
theorem moved {Z s : State} {a0 args : Array Value} (hZ : Z.Warmed39 s.vm) (hw : ∀ d ∈ words, d.before a0 Z = true) : ∀ d ∈ words, d.before args s = true := fun d hd => by
  have q := hw d hd
  have t : ∀ d ∈ words, d = .arrayClass .byte ∨ (d.onTables && d.keepsFace) = true := by decide +kernel
  rcases t d hd with rfl | t
  · exact RoadKit.mvA hZ q
  · exact RoadKit.mv hZ q t
/-- WHAT COMES BACK, over the tables of the start Z: h the heap at the call, h' behind it -/
def Q (Z : State) (x : Addr) (A : Cell) (h : Heap) (v : Option Value) (h' : Heap) (L : List Loc) : Prop := v = none ∧ (∀ y ∈ L, y.base = x) ∧ RoadKit.Keep h h' [x] ∧ h'.size = h.size + 1 ∧ RoadKit.Exa Z h' x ST ∧ RoadKit.Fld Z h' x ST "value" "[B" (.ref h.size) ∧ RoadKit.Fld Z h' x ST "coder" "B" (.int 0) ∧
  (∃ V : Cell, RoadKit.Arr Z h' h.size V .byte ∧ V.vm = .none ∧ Z.vm.findClass "[B" = some V.cls ∧ V.slots.size = A.slots.size ∧ ∀ j, j < A.slots.size → V.slots[j]? = some (.int (lo8 (cv A j)))) ∧
  ∀ (O n d : String) (w : Value), RoadKit.Fld Z h x O n d w → RoadKit.slotOf Z O n d ≠ RoadKit.slotOf Z ST "value" "[B" → RoadKit.slotOf Z O n d ≠ RoadKit.slotOf Z ST "coder" "B" → RoadKit.Fld Z h' x O n d w
/-- **new String(chars) AT A CALL, IN THE ROAD'S FORM**: for specialBack behind newO: x the fresh String, b the char[] with the cell A -/
theorem back {p : Program} {l : Launch} {e : Env} {R : Room} {s : State} {args : Array Value} {below : List Frame} {len W : Nat} {Z : State} {a0 : Array Value} {h : Heap} (hZ : Z.Warmed39 s.vm) (hw : ∀ d ∈ words, d.before a0 Z = true) {kI : Nat} (wi : (Jvm.Cond.instantiable ST kI).before a0 Z = true)
    {x b : Addr} {A : Cell} {z : Int32} {v0 c0 : Value} (E : RoadKit.Exa Z h x ST) (V : RoadKit.Fld Z h x ST "value" "[B" v0) (C : RoadKit.Fld Z h x ST "coder" "B" c0) (K : RoadKit.Arr Z h b A .char) (hty : Typed .char A) (S : RoadKit.Sta Z h ST "COMPACT_STRINGS" "Z" (.int z)) (hz : ¬ z = 0)
    (l0 : 0 < A.slots.size) (l2 : A.slots.size ≤ 536870912) (hp : ∀ i, i < A.slots.size → ¬ 255 < cv A i) (hfr : 4 ≤ R.frames) (hlo : W + 65 ≤ R.locals) :
    Back l R p e below s args New1.yN len W (fun P a => a = #[.ref x, .ref b] ∧ P.U.heap = h ∧ P.cells + 1 ≤ R.cells ∧ P.slots + A.slots.size ≤ R.slots)
      (fun P _ v B => ∃ L, Q Z x A h v B.U.heap L ∧ B.locs = P.locs ++ L ∧ B.cells = P.cells + 1 ∧ B.slots = P.slots + A.slots.size) := by
  intro m meth c P g ig mk a X hg hsize hdg hW hn hp'
  obtain ⟨rfl, rfl, r1, r2⟩ := hp'
  have al : Z.vm.Alike P.U.vm := hZ.alike.trans X.warmed.alike
  obtain ⟨D, cfV, kV, iV, fV, hD, gV, stV, knV, obV, asV, slV⟩ := id V
  obtain ⟨D', cfC, kC, iC, fC, hD', gC, stC, -, -, asC, slC⟩ := id C
  cases hD.symm.trans hD'
  obtain ⟨D2, kD, e1, e2, e3, e4, e5⟩ := id E
  cases hD.symm.trans e1
  obtain ⟨c2, k2, i1, i2, i3, -⟩ := Cond.instantiable_spec wi
  cases e2.symm.trans i1
  cases e3.symm.trans i2
  obtain ⟨kU, u1, u2⟩ := al.2.2 _ _ e3
  have hB : Blank ST x D P.U := ⟨hD, ⟨knV, fun q hq => by rw [hq] at obV; cases obV⟩, by rw [al.findClass]; exact e2, kU, u1, by rw [u2]; exact i3, by rw [u2]; exact e5 i3⟩
  have F1 : Found ST "value" "[B" fV P.U := ⟨SBG.found_only al ⟨cfV, kV, iV, gV⟩, stV⟩
  have F2 : Found ST "coder" "B" fC P.U := ⟨SBG.found_only al ⟨cfC, kC, iC, gC⟩, stC⟩
  have hA : Ch b A P.U := ⟨⟨K.1, State.isArrayOf_alike al K.2.1, K.2.2, by omega⟩, hty⟩
  have hS : StaticIs P.U ST "COMPACT_STRINGS" "Z" (.int z) := by
    obtain ⟨cfS, iS, kS, fS, st, cS, t1, t2, t3, t4, t5, t6, t7⟩ := S
    exact StaticIs.there (s := { Z with heap := P.U.heap }) ⟨cfS, iS, kS, fS, st, cS, t1, t2, t3, t4, t5, (fun q => by rw [q] at t6; cases t6), t7⟩ al rfl
  obtain ⟨v, B, X', ⟨⟨hv, E', V', q1, q2, q3, q4, q5, q6, q7, q8, q9, q10, q11⟩, hl, hc, hs⟩, st⟩ := New1.pays x D fV fC b A z (tab_of (moved hZ hw)) hfr hlo m meth c P g ig mk _ X hg hsize hdg hW hn ⟨r1, r2, rfl, hB, F1, F2, hA, hS, hz, l0, l2, hp⟩
  have al' : Z.vm.Alike B.U.vm := hZ.alike.trans X'.warmed.alike
  have hsz : E'.slots.size = D.slots.size := by
    obtain ⟨-, -, -, kB, w1, w2, w3⟩ := q1
    obtain ⟨kB', y1, y2⟩ := al'.2.2 _ _ e3
    rw [q2.2.1] at w1
    cases w1.symm.trans y1
    rw [w3, e5 i3, y2]
  refine ⟨v, B, X', ⟨_, ⟨hv, ?_, ⟨by omega, fun y cy hy hn' => q10 y cy (by simpa using hn') hy, fun y cy hy => ?_⟩, q11, ⟨E', _, q1.1, by rw [q2.2.1]; exact e2, by rw [q2.2.1]; exact e3, by rw [q2.1]; exact obV, fun _ => by rw [hsz]; exact e5 i3⟩,
    ⟨E', cfV, kV, iV, fV, q1.1, gV, stV, by rw [q2.1]; exact knV, by rw [q2.1]; exact obV, by rw [q2.2.1]; exact asV, q3⟩, ⟨E', cfC, kC, iC, fC, q1.1, gC, stC, by rw [q2.1]; exact knV, by rw [q2.1]; exact obV, by rw [q2.2.1]; exact asC, q4⟩,
    ⟨V', ⟨q5.1, State.isArrayOf_alike al'.symm q5.2.1, q5.2.2.1⟩, q6, by rw [← al'.findClass]; exact q7, q8, fun j hj => by have := q9 j hj; rwa [Nat.zero_add] at this⟩, fun O n d w F n1 n2 => ?_⟩, hl, hc, hs⟩, st⟩
  · intro y hy
    simp only [List.mem_cons, List.not_mem_nil, or_false] at hy
    rcases hy with rfl | rfl <;> rfl
  · by_cases q : y = x
    · subst q
      cases hD.symm.trans hy
      exact ⟨E', q1.1, q2.2.1, q2.1, hsz⟩
    · exact ⟨cy, q10 y cy q hy, rfl, rfl, rfl⟩
  · obtain ⟨D3, cf, k, i, f, g1, g2, g3, g4, g5, g6, g7⟩ := F
    cases hD.symm.trans g1
    simp only [RoadKit.slotOf, g2, gV, gC, Option.map_some, Option.getD_some] at n1 n2
    exact ⟨E', cf, k, i, f, q1.1, g2, g3, by rw [q2.1]; exact g4, by rw [q2.1]; exact g5, by rw [q2.2.1]; exact g6, by rw [q2.2.2 f.slot (by simp [n1, n2])]; exact g7⟩
end StrChars.Road
namespace StrChars.Road
open Jvm Sem ClassFile Op Lib Jvm.Stand Jvm.Free Jvm.Free.XT
/-- WHAT COMES BACK, the byte[] as a list of values -/
def QA (Z : State) (x : Addr) (zn : Int32) (cs : List Int32) (h : Heap) (v : Option Value) (h' : Heap) (L : List Loc) : Prop := v = none ∧ (∀ y ∈ L, y.base = x) ∧ RoadKit.Keep h h' [x] ∧ h'.size = h.size + 1 ∧ RoadKit.Exa Z h' x ST ∧ RoadKit.Fld Z h' x ST "value" "[B" (.ref h.size) ∧ RoadKit.Fld Z h' x ST "coder" "B" (.int 0) ∧
  (∃ kb, Z.vm.findClass "[B" = some kb ∧ RoadKit.Arv Z h' h.size kb .byte zn (cs.map fun c => .int (lo8 c)) (.int 0)) ∧
  ∀ (O n d : String) (w : Value), RoadKit.Fld Z h x O n d w → RoadKit.slotOf Z O n d ≠ RoadKit.slotOf Z ST "value" "[B" → RoadKit.slotOf Z O n d ≠ RoadKit.slotOf Z ST "coder" "B" → RoadKit.Fld Z h' x O n d w
/-- **new String(chars) AT A CALL, THE ARRAYS AS LISTS**: the char[] at b holds cs, not empty, no char above 255 -/
theorem backArv {p : Program} {l : Launch} {e : Env} {R : Room} {s : State} {args : Array Value} {below : List Frame} {len W : Nat} {Z : State} {a0 : Array Value} {h : Heap} (hZ : Z.Warmed39 s.vm) (hw : ∀ d ∈ words, d.before a0 Z = true) {kI : Nat} (wi : (Jvm.Cond.instantiable ST kI).before a0 Z = true)
    {x b : Addr} {k : ClassId} {zn z : Int32} {cs : List Int32} {dv v0 c0 : Value} (E : RoadKit.Exa Z h x ST) (V : RoadKit.Fld Z h x ST "value" "[B" v0) (C : RoadKit.Fld Z h x ST "coder" "B" c0) (K : RoadKit.Arv Z h b k .char zn (cs.map Value.int) dv) (S : RoadKit.Sta Z h ST "COMPACT_STRINGS" "Z" (.int z)) (hz : ¬ z = 0)
    (hlen : zn.toNatClampNeg = cs.length) (h0 : 0 < cs.length) (hbig : cs.length ≤ 536870912) (hall : ∀ c ∈ cs, ¬ 255 < c) (hfr : 4 ≤ R.frames) (hlo : W + 65 ≤ R.locals) :
    Back l R p e below s args New1.yN len W (fun P a => a = #[.ref x, .ref b] ∧ P.U.heap = h ∧ P.cells + 1 ≤ R.cells ∧ P.slots + cs.length ≤ R.slots)
      (fun P _ v B => ∃ L, QA Z x zn cs h v B.U.heap L ∧ B.locs = P.locs ++ L ∧ B.cells = P.cells + 1 ∧ B.slots = P.slots + cs.length) := by
  obtain ⟨A, K1, K2, K3, K4, K5, K6⟩ := K
  have e : A.slots.size = cs.length := K3.trans hlen
  have hat : ∀ (i : Nat) (hi : i < cs.length), A.slots[i]? = some (.int cs[i]) := fun i hi => by rw [K5 i (by omega)]; simp [List.getD_eq_getElem?_getD, hi]
  have hcv : ∀ (i : Nat) (hi : i < cs.length), cv A i = cs[i] := fun i hi => by unfold cv; rw [hat i hi]
  have hty : Typed .char A := fun i v hv => by
    have hi : i < A.slots.size := (Array.getElem?_eq_some_iff.mp hv).1
    have q := K5 i hi
    rw [hv] at q
    rw [Option.some.inj q]
    exact K6 i hi
  refine Back.mono (back hZ hw wi E V C K1 hty S hz (by omega) (by omega) (fun i hi => by rw [hcv i (by omega)]; exact hall _ (List.getElem_mem _)) hfr hlo) (fun P a hp => ⟨hp.1, hp.2.1, hp.2.2.1, by rw [e]; exact hp.2.2.2⟩) (fun P a v B hp hq => ?_)
  obtain ⟨L, ⟨q1, q2, q3, q4, q5, q6, q7, ⟨V', v1, v2, v3, v4, v5⟩, q9⟩, hl, hc, hs⟩ := hq
  refine ⟨L, ⟨q1, q2, q3, q4, q5, q6, q7, ⟨V'.cls, v3, V', v1, rfl, by rw [v4, e, hlen], K4, fun i hi => ?_, fun i hi => ?_⟩, q9⟩, hl, hc, by rw [hs, e]⟩
  · have hi' : i < cs.length := by omega
    rw [v5 i (by omega), hcv i hi']; simp [List.getD_eq_getElem?_getD, hi']
  · have hi' : i < cs.length := by omega
    simp only [List.getD_eq_getElem?_getD, List.getElem?_map, List.getElem?_eq_getElem hi', Option.map_some, Option.getD_some]
    exact fits_lo8 _
end StrChars.Road
namespace StrChars.Road
open Jvm Sem ClassFile Op Lib Jvm.Stand Jvm.Free Jvm.Free.XT
/-- WHAT COMES BACK, in the writer's own shape -/
def QV (Z : State) (x : Addr) (N : Int32) (bs : List Int32) (h : Heap) (n0 : Nat) (v : Option Value) (h' : Heap) (L : List Loc) : Prop := v = none ∧ RoadKit.Fr n0 L ∧ RoadKit.Keep h h' [x] ∧ RoadKit.Exa Z h' x ST ∧ RoadKit.Fld Z h' x ST "coder" "B" (.int 0) ∧
  ∃ (t : Addr) (kb : ClassId), n0 ≤ t ∧ h.size ≤ t ∧ ¬ t = x ∧ RoadKit.Fld Z h' x ST "value" "[B" (.ref t) ∧ RoadKit.Arv Z h' t kb .byte N (bs.map Value.int) (.int 0)
/-- **new String(chars) AT A CALL, FOR THE WRITER**: a char[] of n known ints, each 0 to 255 -/
theorem backV {p : Program} {l : Launch} {e : Env} {R : Room} {s : State} {args : Array Value} {below : List Frame} {len W : Nat} {Z : State} {a0 : Array Value} {h : Heap} (hZ : Z.Warmed39 s.vm) (hw : ∀ d ∈ words, d.before a0 Z = true) {kI : Nat} (wi : (Jvm.Cond.instantiable ST kI).before a0 Z = true)
    {x b : Addr} {kC : ClassId} {cs bs : List Int32} {d v0 c0 : Value} {z N : Int32} {n n0 : Nat} (hx0 : n0 ≤ x) (hh0 : n0 ≤ h.size) (E : RoadKit.Exa Z h x ST) (V : RoadKit.Fld Z h x ST "value" "[B" v0) (C : RoadKit.Fld Z h x ST "coder" "B" c0) (K : RoadKit.Arv Z h b kC .char N (cs.map Value.int) d) (S : RoadKit.Sta Z h ST "COMPACT_STRINGS" "Z" (.int z)) (hz : ¬ z = 0)
    (hn : cs.length = n) (hN : N = Int32.ofNat n) (l0 : 0 < n) (l2 : n ≤ 4000) (hp : ∀ c ∈ cs, ¬ c < 0 ∧ ¬ (255 : Int32) < c) (hb : bs = cs.map (fun c => c.toInt8.toInt32)) (hfr : 4 ≤ R.frames) (hlo : W + 65 ≤ R.locals) :
    Back l R p e below s args (⟨"java/lang/String", "<init>", "([C)V"⟩ : MethodName) len W (fun P a => a = #[.ref x, .ref b] ∧ P.U.heap = h ∧ P.cells + 1 ≤ R.cells ∧ P.slots + n ≤ R.slots)
      (fun P _ v B => ∃ L, QV Z x N bs h n0 v B.U.heap L ∧ B.locs = P.locs ++ L ∧ B.cells = P.cells + 1 ∧ B.slots = P.slots + n) := by
  subst hn hN hb
  refine Back.mono (backArv hZ hw wi E V C K S hz (n32 (by omega)) l0 (by omega) (fun c hc => (hp c hc).2) hfr hlo) (fun P a hp => hp) (fun P a v B hp hq => ?_)
  obtain ⟨L, ⟨q1, q2, q3, q4, q5, q6, q7, ⟨kb, v1, v2⟩, q9⟩, hl, hc, hs⟩ := hq
  exact ⟨L, ⟨q1, fun y hy => by rw [q2 y hy]; exact hx0, q3, q5, q7, h.size, kb, hh0, Nat.le_refl _, Nat.ne_of_gt E.lt, q6, by rw [List.map_map]; exact v2⟩, hl, hc, hs⟩
end StrChars.Road
namespace StrChars
open Jvm Sem ClassFile Op Lib Jvm.Stand Jvm.Free.XT Jvm.Free.ALB Jvm.Free.JM Jvm.Free
open Jvm.Lib.Cold (StaticIs)
def hi8 (x : Int32) : Int32 := lo8 (x >>> ((8 : Int32) &&& 31))
/-- what StringUTF16.getChar makes of two bytes -/
def pairCh (u v : Int32) : Int32 := (((u &&& 255) <<< ((0 : Int32) &&& 31)) ||| ((v &&& 255) <<< ((8 : Int32) &&& 31))).toUInt32.toUInt16.toUInt32.toInt32
theorem shr0 (c : Int32) : c >>> ((0 : Int32) &&& 31) = c := by
  have e : ((0 : Int32) &&& 31) = 0 := by decide
  rw [e]
  apply Int32.toBitVec_inj.mp
  rw [Int32.toBitVec_shiftRight]
  have e1 : ((0 : Int32).toBitVec.smod 32) = 0#32 := by decide
  rw [e1, BitVec.sshiftRight_eq']
  exact BitVec.sshiftRight_zero
theorem lo8_and (x : Int32) : (lo8 x &&& 255).toBitVec.toNat = x.toBitVec.toNat % 256 := by
  have h : (lo8 x).toBitVec = (x.toBitVec.signExtend 8).signExtend 32 := by rw [lo8, Int8.toBitVec_toInt32, Int32.toBitVec_toInt8]
  rw [Int32.toBitVec_and, BitVec.toNat_and, h]
  have e : ((x.toBitVec.signExtend 8).signExtend 32).toNat % 256 = x.toBitVec.toNat % 256 := by
    rw [BitVec.toNat_signExtend]
    have hlt := x.toBitVec.isLt
    simp only [BitVec.toNat_setWidth, BitVec.toNat_signExtend]
    split <;> split <;> omega
  rw [← e]
  exact Nat.and_two_pow_sub_one_eq_mod _ 8
theorem pair_says {c : Int32} (h0 : ¬ c < 0) (h1 : ¬ 65535 < c) : pairCh (lo8 c) (hi8 c) = c := by
  rw [Int32.lt_iff_toInt_lt] at h0 h1
  have e0 : (0 : Int32).toInt = 0 := rfl
  have e1 : (65535 : Int32).toInt = 65535 := rfl
  have hc : c.toInt = c.toBitVec.toNat := by
    have := c.toBitVec.isLt
    have e : c.toInt = c.toBitVec.toInt := rfl
    rw [e] at h0 h1
    rw [e]
    rw [BitVec.toInt_eq_toNat_cond] at h0 h1 ⊢
    split at h0 <;> split <;> omega
  have hn : c.toBitVec.toNat < 65536 := by omega
  have a1 := lo8_and c
  have a2 : (hi8 c &&& 255).toBitVec.toNat = c.toBitVec.toNat / 256 := by
    rw [hi8, lo8_and]
    have e : ((8 : Int32) &&& 31) = 8 := by decide
    rw [e, Int32.toBitVec_shiftRight]
    have e2 : ((8 : Int32).toBitVec.smod 32) = 8#32 := by decide
    rw [e2, BitVec.sshiftRight_eq', BitVec.toNat_sshiftRight_of_msb_false (by rw [BitVec.msb_eq_false_iff_two_mul_lt]; omega)]
    show c.toBitVec.toNat >>> 8 % 256 = _
    rw [Nat.shiftRight_eq_div_pow]
    omega
  unfold pairCh
  apply Int32.toBitVec_inj.mp
  apply BitVec.eq_of_toNat_eq
  have f0 : ((0 : Int32) &&& 31) = 0 := by decide
  have f8 : ((8 : Int32) &&& 31) = 8 := by decide
  rw [f0, f8]
  have g : (((lo8 c &&& 255) <<< (0 : Int32)) ||| ((hi8 c &&& 255) <<< (8 : Int32))).toBitVec.toNat = c.toBitVec.toNat := by
    rw [Int32.toBitVec_or, Int32.toBitVec_shiftLeft, Int32.toBitVec_shiftLeft]
    have s0 : ((0 : Int32).toBitVec.smod 32) = 0#32 := by decide
    have s8 : ((8 : Int32).toBitVec.smod 32) = 8#32 := by decide
    rw [s0, s8, BitVec.toNat_or]
    simp only [BitVec.shiftLeft_eq', BitVec.toNat_shiftLeft, a1, a2]
    show (c.toBitVec.toNat % 256) <<< 0 % 2 ^ 32 ||| (c.toBitVec.toNat / 256) <<< 8 % 2 ^ 32 = _
    rw [Nat.shiftLeft_zero, Nat.mod_eq_of_lt (show c.toBitVec.toNat % 256 < 2 ^ 32 by omega), Nat.mod_eq_of_lt (show (c.toBitVec.toNat / 256) <<< 8 < 2 ^ 32 by rw [Nat.shiftLeft_eq]; omega), Nat.or_comm, ← Nat.shiftLeft_add_eq_or_of_lt (by omega), Nat.shiftLeft_eq]
    omega
  show BitVec.toNat (((((lo8 c &&& 255) <<< (0 : Int32)) ||| ((hi8 c &&& 255) <<< (8 : Int32))).toBitVec.setWidth 16).setWidth 32) = _
  rw [BitVec.toNat_setWidth, BitVec.toNat_setWidth, g]
  omega
end StrChars
namespace StrChars
open Jvm Sem ClassFile Op Lib Jvm.Stand Jvm.Free.XT Jvm.Free.ALB Jvm.Free.JM Jvm.Free
open Jvm.Lib.Cold (StaticIs)
theorem shr1 {n : Nat} (h : 2 * n < 2 ^ 31) : Int32.ofNat (2 * n) >>> ((1 : Int32) &&& 31) = Int32.ofNat n := by
  have e : ((1 : Int32) &&& 31) = 1 := by decide
  rw [e]
  apply Int32.toBitVec_inj.mp
  rw [Int32.toBitVec_shiftRight]
  have e1 : ((1 : Int32).toBitVec.smod 32) = 1#32 := by decide
  have hm : (BitVec.ofNat 32 (2 * n)).toNat = 2 * n := by rw [BitVec.toNat_ofNat, Nat.mod_eq_of_lt (by omega)]
  rw [e1, BitVec.sshiftRight_eq']
  apply BitVec.eq_of_toNat_eq
  show ((BitVec.ofNat 32 (2 * n)).sshiftRight 1).toNat = (BitVec.ofNat 32 n).toNat
  rw [BitVec.toNat_sshiftRight_of_msb_false (by rw [BitVec.msb_eq_false_iff_two_mul_lt, hm]; omega), hm, BitVec.toNat_ofNat, Nat.shiftRight_eq_div_pow]
  omega
/-- charAt's cast of a byte read back -/
def chr8 (u : Int32) : Int32 := (u &&& 255).toUInt32.toUInt16.toUInt32.toInt32
theorem chr8_lo8 {c : Int32} (h0 : ¬ c < 0) (h1 : ¬ 255 < c) : chr8 (lo8 c) = c := by
  have t : ∀ k : Fin 256, (Int32.ofNat k.val).toUInt32.toUInt16.toUInt32.toInt32 = Int32.ofNat k.val := by decide +kernel
  unfold chr8
  rw [lo8_mask h0 h1]
  rw [Int32.lt_iff_toInt_lt] at h0 h1
  have e0 : (0 : Int32).toInt = 0 := rfl
  have e1 : (255 : Int32).toInt = 255 := rfl
  obtain ⟨k, hk⟩ : ∃ k : Nat, c.toInt = k := ⟨c.toInt.toNat, by omega⟩
  have hx : c = Int32.ofNat k := Int32.toInt_inj.mp (by rw [hk, Int32.toInt_ofNat_small (by omega)])
  rw [hx]
  exact t ⟨k, by omega⟩
theorem narrow_ch {c : Int32} (h0 : ¬ c < 0) (h1 : ¬ 65535 < c) : narrow .char (.int c) = .int c := by
  have q : narrow .char (.int (pairCh (lo8 c) (hi8 c))) = .int (pairCh (lo8 c) (hi8 c)) := narrow_c _
  rwa [pair_says h0 h1] at q
/-- the array's cell V codes the n chars f 0 .. f (n - 1) by the coder cd, as the JDK does: coder 1 just where some char is above 255 -/
def Cod (cd : Int32) (n : Nat) (f : Nat → Int32) (V : Cell) : Prop := (cd = 0 ∧ V.slots.size = n ∧ ∀ j, j < n → V.slots[j]? = some (.int (lo8 (f j))) ∧ ¬ 255 < f j) ∨ (cd = 1 ∧ V.slots.size = 2 * n ∧ (∀ j, j < n → V.slots[2 * j]? = some (.int (lo8 (f j))) ∧ V.slots[2 * j + 1]? = some (.int (hi8 (f j)))) ∧ ∃ j, j < n ∧ 255 < f j)
theorem Cod.cd {cd : Int32} {n : Nat} {f : Nat → Int32} {V : Cell} (h : Cod cd n f V) : cd = 0 ∨ cd = 1 := h.imp (fun q => q.1) fun q => q.1
theorem Cod.len {cd : Int32} {n : Nat} {f : Nat → Int32} {V : Cell} (h : Cod cd n f V) (hs : V.slots.size < 2 ^ 31) : Int32.ofNat V.slots.size >>> (cd &&& 31) = Int32.ofNat n := by
  rcases h with ⟨rfl, h, -⟩ | ⟨rfl, h, -⟩
  · rw [shr0, h]
  · rw [h, shr1 (by omega)]
/-- **x is a String of the n chars f 0 .. f (n - 1)**, Latin-1 or UTF-16; its array at t has the cell V -/
def Txt (x t : Addr) (V : Cell) (cd : Int32) (n : Nat) (f : Nat → Int32) (U : State) : Prop := Exact "java/lang/String" x U ∧ Has x "java/lang/String" "value" "[B" (.ref t) U ∧ Has x "java/lang/String" "coder" "B" (.int cd) U ∧ XT.Arr .byte t V U ∧ Cod cd n f V ∧ ∀ j, j < n → ¬ f j < 0 ∧ ¬ 65535 < f j
theorem Txt.mv {x t : Addr} {V : Cell} {cd : Int32} {n : Nat} {f : Nat → Int32} {U U' : State} (h : Txt x t V cd n f U) (hal : U.vm.Alike U'.vm) (hh : U'.heap = U.heap) : Txt x t V cd n f U' := ⟨h.1.mv hal hh, h.2.1.mv hal hh, h.2.2.1.mv hal hh, h.2.2.2.1.mv hal hh, h.2.2.2.2⟩
namespace Cdr
def yN : MethodName := ⟨"java/lang/String", "coder", "()B"⟩
abbrev yB : ByteArray := jdk_42_method_152_code
theorem d0 : decode yB 0 = .ok (.getstatic 38, 3) := by decide +kernel
theorem d3 : decode yB 3 = .ok (.ifCond (.eq) 10, 3) := by decide +kernel
theorem d6 : decode yB 6 = .ok (.aload_n 0, 1) := by decide +kernel
theorem d7 : decode yB 7 = .ok (.getfield 15, 3) := by decide +kernel
theorem d10 : decode yB 10 = .ok (.goto 4, 3) := by decide +kernel
theorem d14 : decode yB 14 = .ok (.ireturn, 1) := by decide +kernel
def site : List Cond := [.fieldLink "java/lang/String" 38 "java/lang/String" "COMPACT_STRINGS" "Z", .fieldLink "java/lang/String" 15 "java/lang/String" "coder" "B"]
def tab : Cond := tabOf yN yB 1 (some .byte) site
def P (x : Addr) (cd z : Int32) (args : Array Value) (s : State) : Prop := args = #[.ref x] ∧ Has x "java/lang/String" "coder" "B" (.int cd) s ∧ (cd = 0 ∨ cd = 1) ∧ StaticIs s "java/lang/String" "COMPACT_STRINGS" "Z" (.int z) ∧ ¬ z = 0
def E (cd : Int32) (r : Option Value) (s u : State) : Prop := XT.PureE (some (.int cd)) r s u
theorem law (l : Launch) (x : Addr) (cd z : Int32) : Law l yN 1 0 0 0 yB 1 (some .byte) site (P x cd z) (E cd) [] 0 0 := by
  refine Law.of_walk (plainFor_of_name (by decide +kernel)) (by decide +kernel) (by decide +kernel) (by decide) (fun _ _ h => by rw [h.1]; rfl) (fun _ U U' hal hh h => ⟨h.1, h.2.1.mv hal hh, h.2.2.1, h.2.2.2.1.there hal hh, h.2.2.2.2⟩) (fun r U U' V V' h1 hal h2 h => XT.PureE.mv r U U' V V' h1 hal h2 h) ?_
  intro p e s m args below meth c s₁ X0 hexec hbytes hml hret hlk hnm hown hh0 W hP
  obtain ⟨rfl, hx, hc, s1, hz⟩ := hP
  have c1 : Steps p.tables e below (s₁.setTop (entryFrame m #[.ref x] 1)) (s₁.setTop (mkF m 0 #[.val (.ref x)] [])) := entry rfl
  obtain ⟨T2, X2, q2, st2⟩ := X0.sget hexec hown (wk W (.fieldLink "java/lang/String" 38 "java/lang/String" "COMPACT_STRINGS" "Z")) s1 (fun _ _ h => by rw [hh0]; exact h) (g := (mkF m 0 #[.val (.ref x)] [])) rfl (hb hbytes d0)
  have hh2 := q2.trans hh0
  have c3 : Steps p.tables e below (s₁.setTop (entryFrame m #[.ref x] 1)) (T2.setTop (mkF m 7 #[.val (.ref x)] [.ref x])) := (c1.trans (st2 _ (Steps.refl _))).trans (by
    refine XS.ifNo X2.here hexec rfl (hb hbytes d3) rfl (i0_eq_f hz) ?_
    refine XS.aloadN X2.here hexec rfl (hb hbytes d6) rfl rfl ?_
    exact Steps.refl _)
  obtain ⟨T4, X4, q4, st4⟩ := X2.hget hexec hown (wk W (.fieldLink "java/lang/String" 15 "java/lang/String" "coder" "B")) (hx.mv X2.warmed.alike hh2) (g := (mkF m 7 #[.val (.ref x)] [.ref x])) rfl (rest := []) rfl (hb hbytes d7)
  have c5 : Steps p.tables e below (s₁.setTop (entryFrame m #[.ref x] 1)) (T4.setTop (mkF m 14 #[.val (.ref x)] [.int cd])) := (c3.trans (st4 _ (Steps.refl _))).trans (by
    refine XS.goto X4.here hexec rfl (pc0 := 10) rfl (hb hbytes d10) (by decide) rfl ?_
    exact Steps.refl _)
  exact ⟨T4, some (.int cd), _, _, _, X4, rfl, rfl, rfl, (fun h => by cases h), ⟨rfl, q4.trans hh2⟩, fun fs hl => c5.trans (X4.ireturnOut hexec hret (by rcases hc with rfl | rfl <;> rfl) (Or.inr (Or.inr (Or.inl rfl))) (hb hbytes d14) hl)⟩
end Cdr
namespace Len
def yN : MethodName := ⟨"java/lang/String", "length", "()I"⟩
abbrev yB : ByteArray := jdk_42_method_54_code
theorem d0 : decode yB 0 = .ok (.aload_n 0, 1) := by decide +kernel
theorem d1 : decode yB 1 = .ok (.getfield 9, 3) := by decide +kernel
theorem d4 : decode yB 4 = .ok (.arraylength, 1) := by decide +kernel
theorem d5 : decode yB 5 = .ok (.aload_n 0, 1) := by decide +kernel
theorem d6 : decode yB 6 = .ok (.invokevirtual 335, 3) := by decide +kernel
theorem d9 : decode yB 9 = .ok (.ishr, 1) := by decide +kernel
theorem d10 : decode yB 10 = .ok (.ireturn, 1) := by decide +kernel
def site : List Cond := [.fieldLink "java/lang/String" 9 "java/lang/String" "value" "[B", Cdr.tab] ++ virtW "java/lang/String" 335 "java/lang/String" Cdr.yN Cdr.yN
def tab : Cond := tabOf yN yB 1 (some .int) site
def P (x t : Addr) (V : Cell) (cd : Int32) (n : Nat) (f : Nat → Int32) (z : Int32) (args : Array Value) (s : State) : Prop := args = #[.ref x] ∧ Txt x t V cd n f s ∧ StaticIs s "java/lang/String" "COMPACT_STRINGS" "Z" (.int z) ∧ ¬ z = 0
def E (n : Nat) (r : Option Value) (s u : State) : Prop := XT.PureE (some (.int (Int32.ofNat n))) r s u
/-- length() of a String of n chars, in either coding -/
theorem law (l : Launch) (x t : Addr) (V : Cell) (cd : Int32) (n : Nat) (f : Nat → Int32) (z : Int32) : Law l yN 1 0 1 13 yB 1 (some .int) site (P x t V cd n f z) (E n) [] 0 0 := by
  refine Law.of_walk (plainFor_of_name (by decide +kernel)) (by decide +kernel) (by decide +kernel) (by decide) (fun _ _ h => by rw [h.1]; rfl) (fun _ U U' hal hh h => ⟨h.1, h.2.1.mv hal hh, h.2.2.1.there hal hh, h.2.2.2⟩) (fun r U U' V V' h1 hal h2 h => XT.PureE.mv r U U' V V' h1 hal h2 h) ?_
  intro p e s m args below meth c s₁ X0 hexec hbytes hml hret hlk hnm hown hh0 W hP
  obtain ⟨rfl, hx, s1, hz⟩ := hP
  have v31 := hx.2.2.2.1.2.2.2
  have c1 : Steps p.tables e below (s₁.setTop (entryFrame m #[.ref x] 1)) (s₁.setTop (mkF m 1 #[.val (.ref x)] [.ref x])) := Steps.trans (entry rfl) (by
    show Steps p.tables e below (s₁.setTop (mkF m 0 #[.val (.ref x)] [])) _
    refine XS.aloadN X0.here hexec rfl (hb hbytes d0) rfl rfl ?_
    exact Steps.refl _)
  obtain ⟨T2, X2, q2, st2⟩ := X0.hget hexec hown (wk W (.fieldLink "java/lang/String" 9 "java/lang/String" "value" "[B")) (hx.mv X0.warmed.alike hh0).2.1 (g := (mkF m 1 #[.val (.ref x)] [.ref x])) rfl (rest := []) rfl (hb hbytes d1)
  have hh2 := q2.trans hh0
  have hx2 := hx.mv X2.warmed.alike hh2
  have c3 : Steps p.tables e below (s₁.setTop (entryFrame m #[.ref x] 1)) (T2.setTop (mkF m 6 #[.val (.ref x)] [.ref x, .int (Int32.ofNat V.slots.size)])) := (c1.trans (st2 _ (Steps.refl _))).trans (by
    refine X2.alen hexec hx2.2.2.2.1 rfl rfl (hb hbytes d4) ?_
    refine XS.aloadN X2.here hexec rfl (hb hbytes d5) rfl rfl ?_
    exact Steps.refl _)
  obtain ⟨v4, T4, X4, E4, g4⟩ := X2.callV hexec (Cdr.law l x cd z) hown (wks W (virtW "java/lang/String" 335 "java/lang/String" Cdr.yN Cdr.yN)) rfl (by decide) (wk W Cdr.tab) (W := 1) (Nat.le_of_ble_eq_true rfl) (Nat.le_of_ble_eq_true rfl) (Nat.le_refl _) (Nat.le_refl _) (hx2.1.fc X2.warmed.alike) hx2.1.is (g := (mkF m 6 #[.val (.ref x)] [.ref x, .int (Int32.ofNat V.slots.size)])) rfl (by rw [hml]; rfl) c3 (argsL := []) (rest := [.int (Int32.ofNat V.slots.size)]) rfl rfl (by show 2 * 0 + (1 + 0) ≤ _; decide) (hb hbytes d6) (⟨rfl, hx2.2.2.1, hx.2.2.2.2.1.cd, s1.there X2.warmed.alike hh2, hz⟩)
  obtain ⟨rfl, q4⟩ := E4
  have c5 : Steps p.tables e below (s₁.setTop (entryFrame m #[.ref x] 1)) (T4.setTop (mkF m 10 #[.val (.ref x)] [.int (Int32.ofNat V.slots.size >>> (cd &&& 31))])) := Steps.trans g4 (by
    refine ishr X4.here hexec rfl (hb hbytes d9) rfl ?_
    exact Steps.refl _)
  rw [hx.2.2.2.2.1.len v31] at c5
  exact ⟨T4, some (.int (Int32.ofNat n)), _, _, _, X4, rfl, rfl, rfl, (fun h => by cases h), ⟨rfl, q4.trans hh2⟩, fun fs hl => c5.trans (X4.ireturnOut hexec hret rfl (Or.inl rfl) (hb hbytes d10) hl)⟩
theorem pays {l : Launch} {R : Room} {p : Program} {e : Env} {below : List Frame} {s : State} {sargs : Array Value} {len W : Nat} (x t : Addr) (V : Cell) (cd : Int32) (n : Nat) (f : Nat → Int32) (z : Int32) (htab : tab.before sargs s = true) (hfr : 2 ≤ R.frames) (hlo : W + 25 ≤ R.locals) :
    Back l R p e below s sargs yN len W (fun A₁ a₁ => A₁.cells + 0 ≤ R.cells ∧ A₁.slots + 0 ≤ R.slots ∧ P x t V cd n f z a₁ A₁.U) (fun A₁ _ v₁ B₁ => E n v₁ A₁.U B₁.U ∧ B₁.locs = A₁.locs ++ [] ∧ B₁.cells = A₁.cells + 0 ∧ B₁.slots = A₁.slots + 0) :=
  (law l x t V cd n f z).pays htab hfr (by omega)
end Len
namespace IsL
def yN : MethodName := ⟨"java/lang/String", "isLatin1", "()Z"⟩
abbrev yB : ByteArray := jdk_42_method_154_code
theorem d0 : decode yB 0 = .ok (.getstatic 38, 3) := by decide +kernel
theorem d3 : decode yB 3 = .ok (.ifCond (.eq) 14, 3) := by decide +kernel
theorem d6 : decode yB 6 = .ok (.aload_n 0, 1) := by decide +kernel
theorem d7 : decode yB 7 = .ok (.getfield 15, 3) := by decide +kernel
theorem d10 : decode yB 10 = .ok (.ifCond (.ne) 7, 3) := by decide +kernel
theorem d13 : decode yB 13 = .ok (.iconst 1, 1) := by decide +kernel
theorem d14 : decode yB 14 = .ok (.goto 4, 3) := by decide +kernel
theorem d17 : decode yB 17 = .ok (.iconst 0, 1) := by decide +kernel
theorem d18 : decode yB 18 = .ok (.ireturn, 1) := by decide +kernel
def site : List Cond := [.fieldLink "java/lang/String" 38 "java/lang/String" "COMPACT_STRINGS" "Z", .fieldLink "java/lang/String" 15 "java/lang/String" "coder" "B"]
def tab : Cond := tabOf yN yB 1 (some .boolean) site
def P (x : Addr) (cd z : Int32) (args : Array Value) (s : State) : Prop := args = #[.ref x] ∧ Has x "java/lang/String" "coder" "B" (.int cd) s ∧ (cd = 0 ∨ cd = 1) ∧ StaticIs s "java/lang/String" "COMPACT_STRINGS" "Z" (.int z) ∧ ¬ z = 0
def E (cd : Int32) (r : Option Value) (s u : State) : Prop := XT.PureE (some (.int (1 - cd))) r s u
theorem law (l : Launch) (x : Addr) (cd z : Int32) : Law l yN 1 0 0 0 yB 1 (some .boolean) site (P x cd z) (E cd) [] 0 0 := by
  refine Law.of_walk (plainFor_of_name (by decide +kernel)) (by decide +kernel) (by decide +kernel) (by decide) (fun _ _ h => by rw [h.1]; rfl) (fun _ U U' hal hh h => ⟨h.1, h.2.1.mv hal hh, h.2.2.1, h.2.2.2.1.there hal hh, h.2.2.2.2⟩) (fun r U U' V V' h1 hal h2 h => XT.PureE.mv r U U' V V' h1 hal h2 h) ?_
  intro p e s m args below meth c s₁ X0 hexec hbytes hml hret hlk hnm hown hh0 W hP
  obtain ⟨rfl, hx, hc, s1, hz⟩ := hP
  have c1 : Steps p.tables e below (s₁.setTop (entryFrame m #[.ref x] 1)) (s₁.setTop (mkF m 0 #[.val (.ref x)] [])) := entry rfl
  obtain ⟨T2, X2, q2, st2⟩ := X0.sget hexec hown (wk W (.fieldLink "java/lang/String" 38 "java/lang/String" "COMPACT_STRINGS" "Z")) s1 (fun _ _ h => by rw [hh0]; exact h) (g := (mkF m 0 #[.val (.ref x)] [])) rfl (hb hbytes d0)
  have hh2 := q2.trans hh0
  have c3 : Steps p.tables e below (s₁.setTop (entryFrame m #[.ref x] 1)) (T2.setTop (mkF m 7 #[.val (.ref x)] [.ref x])) := (c1.trans (st2 _ (Steps.refl _))).trans (by
    refine XS.ifNo X2.here hexec rfl (hb hbytes d3) rfl (i0_eq_f hz) ?_
    refine XS.aloadN X2.here hexec rfl (hb hbytes d6) rfl rfl ?_
    exact Steps.refl _)
  obtain ⟨T4, X4, q4, st4⟩ := X2.hget hexec hown (wk W (.fieldLink "java/lang/String" 15 "java/lang/String" "coder" "B")) (hx.mv X2.warmed.alike hh2) (g := (mkF m 7 #[.val (.ref x)] [.ref x])) rfl (rest := []) rfl (hb hbytes d7)
  have c5 : Steps p.tables e below (s₁.setTop (entryFrame m #[.ref x] 1)) (T4.setTop (mkF m 10 #[.val (.ref x)] [.int cd])) := c3.trans (st4 _ (Steps.refl _))
  have c6 : Steps p.tables e below (s₁.setTop (entryFrame m #[.ref x] 1)) (T4.setTop (mkF m 18 #[.val (.ref x)] [.int (1 - cd)])) := by
    rcases hc with rfl | rfl
    · exact c5.trans (by
        refine XS.ifNo X4.here hexec rfl (hb hbytes d10) rfl (i0_ne_f rfl) ?_
        refine iconstV X4.here hexec rfl 1 (hb hbytes d13) (by decide) ?_
        refine XS.goto X4.here hexec rfl (pc0 := 14) rfl (hb hbytes d14) (by decide) rfl ?_
        exact Steps.refl _)
    · exact c5.trans (by
        refine XS.ifYes X4.here hexec rfl (pc0 := 10) rfl (hb hbytes d10) rfl (i0_ne_t (by decide)) (by decide) rfl ?_
        refine iconstV X4.here hexec rfl 0 (hb hbytes d17) (by decide) ?_
        exact Steps.refl _)
  exact ⟨T4, some (.int (1 - cd)), _, _, _, X4, rfl, rfl, rfl, (fun h => by cases h), ⟨rfl, q4.trans hh2⟩, fun fs hl => c6.trans (X4.ireturnOut hexec hret (by rcases hc with rfl | rfl <;> rfl) (Or.inr (Or.inl rfl)) (hb hbytes d18) hl)⟩
end IsL
namespace LChA
def yN : MethodName := ⟨"java/lang/StringLatin1", "charAt", "([BI)C"⟩
abbrev yB : ByteArray := jdk_43_method_2_code
theorem d0 : decode yB 0 = .ok (.iload_n 1, 1) := by decide +kernel
theorem d1 : decode yB 1 = .ok (.aload_n 0, 1) := by decide +kernel
theorem d2 : decode yB 2 = .ok (.arraylength, 1) := by decide +kernel
theorem d3 : decode yB 3 = .ok (.invokestatic 9, 3) := by decide +kernel
theorem d6 : decode yB 6 = .ok (.aload_n 0, 1) := by decide +kernel
theorem d7 : decode yB 7 = .ok (.iload_n 1, 1) := by decide +kernel
theorem d8 : decode yB 8 = .ok (.baload, 1) := by decide +kernel
theorem d9 : decode yB 9 = .ok (.sipush 255, 3) := by decide +kernel
theorem d12 : decode yB 12 = .ok (.iand, 1) := by decide +kernel
theorem d13 : decode yB 13 = .ok (.i2c, 1) := by decide +kernel
theorem d14 : decode yB 14 = .ok (.ireturn, 1) := by decide +kernel
def site : List Cond := [JO.Str_checkIndex.tab] ++ staticW "java/lang/StringLatin1" 9 JO.Str_checkIndex.yN
def tab : Cond := tabOf yN yB 2 (some .char) site
def P (t : Addr) (V : Cell) (i : Nat) (u : Int32) (fm : Value) (args : Array Value) (s : State) : Prop := args = #[.ref t, .int (Int32.ofNat i)] ∧ XT.Arr .byte t V s ∧ V.slots[i]? = some (.int u) ∧ (StaticIs s "jdk/internal/util/Preconditions" "SIOOBE_FORMATTER" "Ljava/util/function/BiFunction;" fm ∧ fm.isRef = true)
def E (u : Int32) (r : Option Value) (s w : State) : Prop := XT.PureE (some (.int (chr8 u))) r s w
theorem law (l : Launch) (t : Addr) (V : Cell) (i : Nat) (u : Int32) (fm : Value) : Law l yN 2 2 2 27 yB 2 (some .char) site (P t V i u fm) (E u) [] 0 0 := by
  refine Law.of_walk (plainFor_of_name (by decide +kernel)) (by decide +kernel) (by decide +kernel) (by decide) (fun _ _ h => by rw [h.1]; rfl) (fun _ U U' hal hh h => ⟨h.1, h.2.1.mv hal hh, h.2.2.1, h.2.2.2.1.there hal hh, h.2.2.2.2⟩) (fun r U U' V V' h1 hal h2 h => XT.PureE.mv r U U' V V' h1 hal h2 h) ?_
  intro p e s m args below meth c s₁ X0 hexec hbytes hml hret hlk hnm hown hh0 W hP
  obtain ⟨rfl, hV, hu, s1, rf⟩ := hP
  have v31 := hV.2.2.2
  have hi : i < V.slots.size := (Array.getElem?_eq_some_iff.mp hu).1
  have c1 : Steps p.tables e below (s₁.setTop (entryFrame m #[.ref t, .int (Int32.ofNat i)] 2)) (s₁.setTop (mkF m 0 #[.val (.ref t), .val (.int (Int32.ofNat i))] [])) := entry rfl
  have c2 : Steps p.tables e below (s₁.setTop (entryFrame m #[.ref t, .int (Int32.ofNat i)] 2)) (s₁.setTop (mkF m 3 #[.val (.ref t), .val (.int (Int32.ofNat i))] [.int (Int32.ofNat V.slots.size), .int (Int32.ofNat i)])) := c1.trans (by
    refine XS.iloadN X0.here hexec rfl (hb hbytes d0) rfl ?_
    refine XS.aloadN X0.here hexec rfl (hb hbytes d1) rfl rfl ?_
    refine X0.alen hexec (hV.mv X0.warmed.alike hh0) rfl rfl (hb hbytes d2) ?_
    exact Steps.refl _)
  obtain ⟨v3, T3, X3, E3, g3⟩ := X0.callS hexec (JO.Str_checkIndex.law l (Int32.ofNat i) (Int32.ofNat V.slots.size) fm) hown (wks W (staticW "java/lang/StringLatin1" 9 JO.Str_checkIndex.yN)) (wk W JO.Str_checkIndex.tab) (W := 0) (Nat.le_of_ble_eq_true rfl) (Nat.le_of_ble_eq_true rfl) (Nat.le_refl _) (Nat.le_refl _) (g := (mkF m 3 #[.val (.ref t), .val (.int (Int32.ofNat i))] [.int (Int32.ofNat V.slots.size), .int (Int32.ofNat i)])) rfl (by rw [hml]; rfl) c2 (argsL := [.int (Int32.ofNat i), .int (Int32.ofNat V.slots.size)]) (rest := []) rfl rfl (by show 2 * 0 + 0 ≤ _; decide) (hb hbytes d3) (⟨rfl, rf, s1.there X0.warmed.alike hh0, Int32.ofNat_not_neg (by omega), lt32 v31 hi⟩)
  obtain ⟨rfl, q3⟩ := E3
  have hh3 := q3.trans hh0
  have c4 : Steps p.tables e below (s₁.setTop (entryFrame m #[.ref t, .int (Int32.ofNat i)] 2)) (T3.setTop (mkF m 14 #[.val (.ref t), .val (.int (Int32.ofNat i))] [.int (chr8 u)])) := Steps.trans g3 (by
    refine XS.aloadN X3.here hexec rfl (hb hbytes d6) rfl rfl ?_
    refine XS.iloadN X3.here hexec rfl (hb hbytes d7) rfl ?_
    refine X3.aget hexec (hV.mv X3.warmed.alike hh3) rfl hu rfl rfl (hb hbytes d8) ?_
    refine sipushV X3.here hexec rfl 255 (hb hbytes d9) (by decide) ?_
    refine XS.iand X3.here hexec rfl (hb hbytes d12) rfl ?_
    refine i2c X3.here hexec rfl (hb hbytes d13) rfl ?_
    exact Steps.refl _)
  exact ⟨T3, some (.int (chr8 u)), _, _, _, X3, rfl, rfl, rfl, (fun h => by cases h), ⟨rfl, hh3⟩, fun fs hl => c4.trans (X3.ireturnOut hexec hret (narrow_c _) (Or.inr (Or.inr (Or.inr (Or.inl rfl)))) (hb hbytes d14) hl)⟩
end LChA
end StrChars
namespace StrChars.Road
open Jvm Sem ClassFile Op Lib Jvm.Stand Jvm.Free Jvm.Free.XT
open Jvm.Lib.Cold (StaticIs)
theorem consq {a : Array Value} {s : State} {c : Jvm.Cond} {L : List Jvm.Cond} (h0 : c.before a s = true) (h : ∀ w ∈ L, w.before a s = true) : ∀ w ∈ c :: L, w.before a s = true := fun w hw => (List.mem_cons.mp hw).elim (fun e => e ▸ h0) (h w)
/-- the words of String.length(), either coding -/
abbrev wordsLen : List Jvm.Cond := [.code Len.yN Len.yB 1 (some .int), .initialized ST, .fieldLink ST 9 ST "value" "[B", .fieldLink ST 38 ST "COMPACT_STRINGS" "Z", .fieldLink ST 15 ST "coder" "B", .code Cdr.yN Cdr.yB 1 (some .byte), .methodLink ST 335 Cdr.yN, .declares Cdr.yN, .selects ST Cdr.yN Cdr.yN, .instanceMethod Cdr.yN]
theorem tabLen_of {a : Array Value} {s : State} (h : ∀ w ∈ wordsLen, w.before a s = true) : Len.tab.before a s = true := by
  have hc : Cdr.tab.before a s = true := unparts (wk h (.code Cdr.yN Cdr.yB 1 (some .byte))) (wks h (.initialized Cdr.yN.cls :: Cdr.site))
  have q := consq hc h
  exact unparts (wk q (.code Len.yN Len.yB 1 (some .int))) (wks q (.initialized Len.yN.cls :: Len.site))
theorem movedLen {Z s : State} {a0 args : Array Value} (hZ : Z.Warmed39 s.vm) (hw : ∀ d ∈ wordsLen, d.before a0 Z = true) : ∀ d ∈ wordsLen, d.before args s = true := fun d hd => by
  have q := hw d hd
  have t : ∀ d ∈ wordsLen, d = .arrayClass .byte ∨ (d.onTables && d.keepsFace) = true := by decide +kernel
  rcases t d hd with rfl | t
  · exact RoadKit.mvA hZ q
  · exact RoadKit.mv hZ q t
/-- the bytes of the chars cs, low before high -/
def wideBytes : List Int32 → List Value
  | [] => []
  | c :: cs => .int (lo8 c) :: .int (hi8 c) :: wideBytes cs
theorem wide_lo (d : Value) : ∀ (cs : List Int32) (j : Nat), j < cs.length → (wideBytes cs).getD (2 * j) d = .int (lo8 (cs.getD j 0))
  | [], j, h => absurd h (Nat.not_lt_zero j)
  | c :: cs, 0, _ => rfl
  | c :: cs, j + 1, h => by
    have q := wide_lo d cs j (by simpa using h)
    rw [show 2 * (j + 1) = 2 * j + 1 + 1 from by omega]
    simpa [wideBytes] using q
theorem wide_hi (d : Value) : ∀ (cs : List Int32) (j : Nat), j < cs.length → (wideBytes cs).getD (2 * j + 1) d = .int (hi8 (cs.getD j 0))
  | [], j, h => absurd h (Nat.not_lt_zero j)
  | c :: cs, 0, _ => rfl
  | c :: cs, j + 1, h => by
    have q := wide_hi d cs j (by simpa using h)
    rw [show 2 * (j + 1) + 1 = 2 * j + 1 + 1 + 1 from by omega]
    simpa [wideBytes] using q
theorem low_at (d : Value) (cs : List Int32) (j : Nat) (h : j < cs.length) : (cs.map fun c => Value.int (lo8 c)).getD j d = .int (lo8 (cs.getD j 0)) := by
  simp [List.getD_eq_getElem?_getD, h]
/-- an array of N2 bytes vs codes the chars cs by the coder cd -/
def CodA (cs : List Int32) (cd N2 : Int32) (vs : List Value) : Prop := (cd = 0 ∧ N2 = Int32.ofNat cs.length ∧ vs = (cs.map fun c => Value.int (lo8 c)) ∧ ∀ c ∈ cs, ¬ 255 < c) ∨ (cd = 1 ∧ N2 = Int32.ofNat (2 * cs.length) ∧ vs = wideBytes cs ∧ ∃ c ∈ cs, 255 < c)
theorem CodA.cod {cs : List Int32} {cd N2 : Int32} {vs : List Value} {V : Cell} (h : CodA cs cd N2 vs) (hn : 2 * cs.length < 2 ^ 31) (hs : V.slots.size = N2.toNatClampNeg) (hv : RoadKit.Has V vs (.int 0)) : Cod cd cs.length (fun j => cs.getD j 0) V := by
  rcases h with ⟨rfl, rfl, rfl, h⟩ | ⟨rfl, rfl, rfl, c, hc, hw⟩
  · rw [n32 (by omega)] at hs
    exact Or.inl ⟨rfl, hs, fun j hj => ⟨by rw [hv j (by omega), low_at _ _ _ hj], by
      have e : cs.getD j 0 = cs[j] := by simp [List.getD_eq_getElem?_getD, hj]
      show ¬ 255 < cs.getD j 0
      rw [e]; exact h _ (List.getElem_mem _)⟩⟩
  · rw [n32 (by omega)] at hs
    obtain ⟨j, hj, rfl⟩ := List.getElem_of_mem hc
    exact Or.inr ⟨rfl, hs, fun j hj => ⟨by rw [hv _ (by omega), wide_lo _ _ _ hj], by rw [hv _ (by omega), wide_hi _ _ _ hj]⟩, j, hj, by
      have e : cs.getD j 0 = cs[j] := by simp [List.getD_eq_getElem?_getD, hj]
      show 255 < cs.getD j 0
      rw [e]; exact hw⟩
/-- an object of exactly java/lang/String, its two fields found: as the laws ask it -/
theorem strObj {Z U : State} {a0 : Array Value} {kI : Nat} (wi : (Jvm.Cond.instantiable ST kI).before a0 Z = true) (al : Z.vm.Alike U.vm) {x : Addr} {v0 c0 : Value} (E : RoadKit.Exa Z U.heap x ST) (V : RoadKit.Fld Z U.heap x ST "value" "[B" v0) (C : RoadKit.Fld Z U.heap x ST "coder" "B" c0) :
    ∃ (D : Cell) (fV fC : Field), Blank ST x D U ∧ Found ST "value" "[B" fV U ∧ Found ST "coder" "B" fC U ∧ D.slots[fV.slot]? = some v0 ∧ D.slots[fC.slot]? = some c0 ∧ RoadKit.slotOf Z ST "value" "[B" = fV.slot ∧ RoadKit.slotOf Z ST "coder" "B" = fC.slot := by
  obtain ⟨D, cfV, kV, iV, fV, hD, gV, stV, knV, obV, asV, slV⟩ := V
  obtain ⟨D', cfC, kC, iC, fC, hD', gC, stC, -, -, asC, slC⟩ := C
  cases hD.symm.trans hD'
  obtain ⟨D2, kD, e1, e2, e3, e4, e5⟩ := E
  cases hD.symm.trans e1
  obtain ⟨c2, k2, i1, i2, i3, -⟩ := Cond.instantiable_spec wi
  cases e2.symm.trans i1
  cases e3.symm.trans i2
  obtain ⟨kU, u1, u2⟩ := al.2.2 _ _ e3
  exact ⟨D, fV, fC, ⟨hD, ⟨knV, fun q hq => by rw [hq] at obV; cases obV⟩, by rw [al.findClass]; exact e2, kU, u1, by rw [u2]; exact i3, by rw [u2]; exact e5 i3⟩, ⟨SBG.found_only al ⟨cfV, kV, iV, gV⟩, stV⟩, ⟨SBG.found_only al ⟨cfC, kC, iC, gC⟩, stC⟩, slV, slC, by simp [RoadKit.slotOf, gV], by simp [RoadKit.slotOf, gC]⟩
theorem sta_is {Z U : State} (al : Z.vm.Alike U.vm) {C n d : String} {v : Value} (S : RoadKit.Sta Z U.heap C n d v) : StaticIs U C n d v := by
  obtain ⟨cfS, iS, kS, fS, st, cS, t1, t2, t3, t4, t5, t6, t7⟩ := S
  exact StaticIs.there (s := { Z with heap := U.heap }) ⟨cfS, iS, kS, fS, st, cS, t1, t2, t3, t4, t5, (fun q => by rw [q] at t6; cases t6), t7⟩ al rfl
/-- **length() OF SUCH A STRING** -/
theorem lenW {p : Program} {l : Launch} {e : Env} {R : Room} {s : State} {args : Array Value} {below : List Frame} {len W : Nat} {Z : State} {a0 : Array Value} {h : Heap} (hZ : Z.Warmed39 s.vm) (hw : ∀ d ∈ wordsLen, d.before a0 Z = true) {kI : Nat} (wi : (Jvm.Cond.instantiable ST kI).before a0 Z = true)
    {x t : Addr} {kb : ClassId} {cs : List Int32} {cd N2 z : Int32} {vs : List Value} (E : RoadKit.Exa Z h x ST) (V : RoadKit.Fld Z h x ST "value" "[B" (.ref t)) (C : RoadKit.Fld Z h x ST "coder" "B" (.int cd)) (K : RoadKit.Arv Z h t kb .byte N2 vs (.int 0)) (hc : CodA cs cd N2 vs) (hb : ∀ c ∈ cs, ¬ c < 0 ∧ ¬ (65535 : Int32) < c)
    (S : RoadKit.Sta Z h ST "COMPACT_STRINGS" "Z" (.int z)) (hz : ¬ z = 0) (l2 : cs.length ≤ 4000) (hfr : 2 ≤ R.frames) (hlo : W + 25 ≤ R.locals) :
    Back l R p e below s args (⟨"java/lang/String", "length", "()I"⟩ : MethodName) len W (fun P a => a = #[.ref x] ∧ P.U.heap = h ∧ P.cells + 0 ≤ R.cells ∧ P.slots + 0 ≤ R.slots)
      (fun P _ v B => ∃ L, (v = some (.int (Int32.ofNat cs.length)) ∧ L = [] ∧ B.U.heap = h) ∧ B.locs = P.locs ++ L ∧ B.cells = P.cells + 0 ∧ B.slots = P.slots + 0) := by
  obtain ⟨A, K1, K2, K3, K4, K5, K6⟩ := K
  have hcod := hc.cod (by omega) K3 K5
  intro m meth c P g ig mk a X hg hsize hdg hW hn hp'
  obtain ⟨rfl, rfl, r1, r2⟩ := hp'
  have al : Z.vm.Alike P.U.vm := hZ.alike.trans X.warmed.alike
  obtain ⟨D, fV, fC, hB, F1, F2, g1, g2, -, -⟩ := strObj wi al E V C
  have hx : Txt x t A cd cs.length (fun j => cs.getD j 0) P.U := ⟨⟨_, hB.2.2.1, D, hB.1, rfl, by cases q : D.vm <;> first | rfl | exact absurd q (hB.2.1.2 _)⟩, Has.of hB F1 g1, Has.of hB F2 g2, ⟨K1.1, State.isArrayOf_alike al K1.2.1, K1.2.2, by rcases hcod with ⟨-, q, -⟩ | ⟨-, q, -⟩ <;> omega⟩, hcod, fun j hj => by
    have e : cs.getD j 0 = cs[j] := by simp [List.getD_eq_getElem?_getD, hj]
    show ¬ cs.getD j 0 < 0 ∧ ¬ 65535 < cs.getD j 0
    rw [e]; exact hb _ (List.getElem_mem _)⟩
  obtain ⟨v, B, X', ⟨⟨hv, hh⟩, hl, hk, hs⟩, st⟩ := Len.pays x t A cd cs.length (fun j => cs.getD j 0) z (tabLen_of (movedLen hZ hw)) hfr hlo m meth c P g ig mk _ X hg hsize hdg hW hn ⟨r1, r2, rfl, hx, sta_is al S, hz⟩
  exact ⟨v, B, X', ⟨[], ⟨hv, rfl, hh⟩, hl, hk, hs⟩, st⟩
end StrChars.Road
namespace StrChars.Road
open Jvm Sem ClassFile Op Lib Jvm.Stand Jvm.Free Jvm.Free.XT
open Jvm.Lib.Cold (StaticIs)
/-- the road's facts of a String, as the laws ask it -/
theorem txt_of {Z U : State} {a0 : Array Value} {kI : Nat} (wi : (Jvm.Cond.instantiable ST kI).before a0 Z = true) (al : Z.vm.Alike U.vm) {x t : Addr} {kb : ClassId} {cs : List Int32} {cd N2 : Int32} {vs : List Value} (E : RoadKit.Exa Z U.heap x ST) (V : RoadKit.Fld Z U.heap x ST "value" "[B" (.ref t)) (C : RoadKit.Fld Z U.heap x ST "coder" "B" (.int cd)) (K : RoadKit.Arv Z U.heap t kb .byte N2 vs (.int 0)) (hc : CodA cs cd N2 vs) (hb : ∀ c ∈ cs, ¬ c < 0 ∧ ¬ (65535 : Int32) < c) (l2 : cs.length ≤ 4000) :
    ∃ A, Txt x t A cd cs.length (fun j => cs.getD j 0) U := by
  obtain ⟨A, K1, K2, K3, K4, K5, K6⟩ := K
  have hcod := hc.cod (by omega) K3 K5
  obtain ⟨D, fV, fC, hB, F1, F2, g1, g2, -, -⟩ := strObj wi al E V C
  exact ⟨A, ⟨_, hB.2.2.1, D, hB.1, rfl, by cases q : D.vm <;> first | rfl | exact absurd q (hB.2.1.2 _)⟩, Has.of hB F1 g1, Has.of hB F2 g2, ⟨K1.1, State.isArrayOf_alike al K1.2.1, K1.2.2, by rcases hcod with ⟨-, q, -⟩ | ⟨-, q, -⟩ <;> omega⟩, hcod, fun j hj => by
    have e : cs.getD j 0 = cs[j] := by simp [List.getD_eq_getElem?_getD, hj]
    show ¬ cs.getD j 0 < 0 ∧ ¬ 65535 < cs.getD j 0
    rw [e]; exact hb _ (List.getElem_mem _)⟩
end StrChars.Road
namespace StrChars
open Jvm Sem ClassFile Op Lib Jvm.Stand Jvm.Free.XT Jvm.Free.ALB Jvm.Free.JM Jvm.Free
open Jvm.Lib.Cold (StaticIs)
namespace ChN
def yN : MethodName := ⟨"java/lang/String", "charAt", "(I)C"⟩
abbrev yB : ByteArray := jdk_42_method_56_code
theorem d0 : decode yB 0 = .ok (.aload_n 0, 1) := by decide +kernel
theorem d1 : decode yB 1 = .ok (.invokevirtual 492, 3) := by decide +kernel
theorem d4 : decode yB 4 = .ok (.ifCond (.eq) 12, 3) := by decide +kernel
theorem d7 : decode yB 7 = .ok (.aload_n 0, 1) := by decide +kernel
theorem d8 : decode yB 8 = .ok (.getfield 9, 3) := by decide +kernel
theorem d11 : decode yB 11 = .ok (.iload_n 1, 1) := by decide +kernel
theorem d12 : decode yB 12 = .ok (.invokestatic 495, 3) := by decide +kernel
theorem d15 : decode yB 15 = .ok (.ireturn, 1) := by decide +kernel
def site : List Cond := [.fieldLink "java/lang/String" 9 "java/lang/String" "value" "[B", IsL.tab, LChA.tab] ++ virtW "java/lang/String" 492 "java/lang/String" IsL.yN IsL.yN ++ staticW "java/lang/String" 495 LChA.yN
def tab : Cond := tabOf yN yB 2 (some .char) site
def P (x t : Addr) (V : Cell) (n : Nat) (f : Nat → Int32) (z : Int32) (fm : Value) (i : Nat) (args : Array Value) (s : State) : Prop := args = #[.ref x, .int (Int32.ofNat i)] ∧ Txt x t V 0 n f s ∧ i < n ∧ StaticIs s "java/lang/String" "COMPACT_STRINGS" "Z" (.int z) ∧ ¬ z = 0 ∧ StaticIs s "jdk/internal/util/Preconditions" "SIOOBE_FORMATTER" "Ljava/util/function/BiFunction;" fm ∧ fm.isRef = true
def E (f : Nat → Int32) (i : Nat) (r : Option Value) (s u : State) : Prop := XT.PureE (some (.int (f i))) r s u
/-- charAt(i) of a Latin-1 String of n chars, i < n: f i -/
theorem law (l : Launch) (x t : Addr) (V : Cell) (n : Nat) (f : Nat → Int32) (z : Int32) (fm : Value) (i : Nat) : Law l yN 2 1 3 40 yB 2 (some .char) site (P x t V n f z fm i) (E f i) [] 0 0 := by
  refine Law.of_walk (plainFor_of_name (by decide +kernel)) (by decide +kernel) (by decide +kernel) (by decide) (fun _ _ h => by rw [h.1]; rfl) (fun _ U U' hal hh h => ⟨h.1, h.2.1.mv hal hh, h.2.2.1, h.2.2.2.1.there hal hh, h.2.2.2.2.1, h.2.2.2.2.2.1.there hal hh, h.2.2.2.2.2.2⟩) (fun r U U' V V' h1 hal h2 h => XT.PureE.mv r U U' V V' h1 hal h2 h) ?_
  intro p e s m args below meth c s₁ X0 hexec hbytes hml hret hlk hnm hown hh0 W hP
  obtain ⟨rfl, hx, hi, s1, hz, s3, rf⟩ := hP
  have v31 := hx.2.2.2.1.2.2.2
  have hr := hx.2.2.2.2.2 i hi
  have hx0 := hx.mv X0.warmed.alike hh0
  have c1 : Steps p.tables e below (s₁.setTop (entryFrame m #[.ref x, .int (Int32.ofNat i)] 2)) (s₁.setTop (mkF m 1 #[.val (.ref x), .val (.int (Int32.ofNat i))] [.ref x])) := Steps.trans (entry rfl) (by
    show Steps p.tables e below (s₁.setTop (mkF m 0 #[.val (.ref x), .val (.int (Int32.ofNat i))] [])) _
    refine XS.aloadN X0.here hexec rfl (hb hbytes d0) rfl rfl ?_
    exact Steps.refl _)
  obtain ⟨v2, T2, X2, E2, g2⟩ := X0.callV hexec (IsL.law l x 0 z) hown (wks W (virtW "java/lang/String" 492 "java/lang/String" IsL.yN IsL.yN)) rfl (by decide) (wk W IsL.tab) (W := 0) (Nat.le_of_ble_eq_true rfl) (Nat.le_of_ble_eq_true rfl) (Nat.le_refl _) (Nat.le_refl _) (hx0.1.fc X0.warmed.alike) hx0.1.is (g := (mkF m 1 #[.val (.ref x), .val (.int (Int32.ofNat i))] [.ref x])) rfl (by rw [hml]; rfl) c1 (argsL := []) (rest := []) rfl rfl (by show 2 * 0 + 0 ≤ _; decide) (hb hbytes d1) (⟨rfl, hx0.2.2.1, hx.2.2.2.2.1.cd, s1.there X0.warmed.alike hh0, hz⟩)
  obtain ⟨rfl, q2⟩ := E2
  have hh2 := q2.trans hh0
  have hx2 := hx.mv X2.warmed.alike hh2
  obtain ⟨-, k1, k2⟩ | ⟨k0, -⟩ := hx.2.2.2.2.1
  · have c3 : Steps p.tables e below (s₁.setTop (entryFrame m #[.ref x, .int (Int32.ofNat i)] 2)) (T2.setTop (mkF m 8 #[.val (.ref x), .val (.int (Int32.ofNat i))] [.ref x])) := Steps.trans g2 (by
      refine XS.ifNo X2.here hexec rfl (hb hbytes d4) rfl (i0_eq_f (by decide)) ?_
      refine XS.aloadN X2.here hexec rfl (hb hbytes d7) rfl rfl ?_
      exact Steps.refl _)
    obtain ⟨T4, X4, q4, st4⟩ := X2.hget hexec hown (wk W (.fieldLink "java/lang/String" 9 "java/lang/String" "value" "[B")) hx2.2.1 (g := (mkF m 8 #[.val (.ref x), .val (.int (Int32.ofNat i))] [.ref x])) rfl (rest := []) rfl (hb hbytes d8)
    have hh4 := q4.trans hh2
    have c5 : Steps p.tables e below (s₁.setTop (entryFrame m #[.ref x, .int (Int32.ofNat i)] 2)) (T4.setTop (mkF m 12 #[.val (.ref x), .val (.int (Int32.ofNat i))] [.int (Int32.ofNat i), .ref t])) := (c3.trans (st4 _ (Steps.refl _))).trans (by
      refine XS.iloadN X4.here hexec rfl (hb hbytes d11) rfl ?_
      exact Steps.refl _)
    obtain ⟨v6, T6, X6, E6, g6⟩ := X4.callS hexec (LChA.law l t V i (lo8 (f i)) fm) hown (wks W (staticW "java/lang/String" 495 LChA.yN)) (wk W LChA.tab) (W := 0) (Nat.le_of_ble_eq_true rfl) (Nat.le_of_ble_eq_true rfl) (Nat.le_refl _) (Nat.le_refl _) (g := (mkF m 12 #[.val (.ref x), .val (.int (Int32.ofNat i))] [.int (Int32.ofNat i), .ref t])) rfl (by rw [hml]; rfl) c5 (argsL := [.ref t, .int (Int32.ofNat i)]) (rest := []) rfl rfl (by show 2 * 0 + 0 ≤ _; decide) (hb hbytes d12) (⟨rfl, hx.2.2.2.1.mv X4.warmed.alike hh4, (k2 i hi).1, s3.there X4.warmed.alike hh4, rf⟩)
    obtain ⟨rfl, q6⟩ := E6
    rw [chr8_lo8 hr.1 (k2 i hi).2] at g6
    exact ⟨T6, some (.int (f i)), _, _, _, X6, rfl, rfl, rfl, (fun h => by cases h), ⟨rfl, q6.trans hh4⟩, fun fs hl => Steps.trans g6 (X6.ireturnOut hexec hret (narrow_ch hr.1 hr.2) (Or.inr (Or.inr (Or.inr (Or.inl rfl)))) (hb hbytes d15) hl)⟩
  · exact absurd k0 (by decide)
theorem pays {l : Launch} {R : Room} {p : Program} {e : Env} {below : List Frame} {s : State} {sargs : Array Value} {len W : Nat} (x t : Addr) (V : Cell) (n : Nat) (f : Nat → Int32) (z : Int32) (fm : Value) (i : Nat) (htab : tab.before sargs s = true) (hfr : 4 ≤ R.frames) (hlo : W + 53 ≤ R.locals) :
    Back l R p e below s sargs yN len W (fun A₁ a₁ => A₁.cells + 0 ≤ R.cells ∧ A₁.slots + 0 ≤ R.slots ∧ P x t V n f z fm i a₁ A₁.U) (fun A₁ _ v₁ B₁ => E f i v₁ A₁.U B₁.U ∧ B₁.locs = A₁.locs ++ [] ∧ B₁.cells = A₁.cells + 0 ∧ B₁.slots = A₁.slots + 0) :=
  (law l x t V n f z fm i).pays htab hfr (by omega)
end ChN
end StrChars
namespace StrChars.Road
open Jvm Sem ClassFile Op Lib Jvm.Stand Jvm.Free Jvm.Free.XT
open Jvm.Lib.Cold (StaticIs)
/-- the words of String.charAt(int), the Latin-1 road alone -/
abbrev wordsChN : List Jvm.Cond := [.code ChN.yN ChN.yB 2 (some .char), .initialized ST, .fieldLink ST 9 ST "value" "[B", .fieldLink ST 38 ST "COMPACT_STRINGS" "Z", .fieldLink ST 15 ST "coder" "B", .code IsL.yN IsL.yB 1 (some .boolean), .methodLink ST 492 IsL.yN, .declares IsL.yN, .selects ST IsL.yN IsL.yN, .instanceMethod IsL.yN,
  .methodLink ST 495 LChA.yN, .static LChA.yN, .code LChA.yN LChA.yB 2 (some .char), .initialized "java/lang/StringLatin1", .methodLink "java/lang/StringLatin1" 9 JO.Str_checkIndex.yN, .static JO.Str_checkIndex.yN, .code JO.Str_checkIndex.yN JO.Str_checkIndex.yB 2 none,
  .fieldLink ST 1053 "jdk/internal/util/Preconditions" "SIOOBE_FORMATTER" "Ljava/util/function/BiFunction;", .methodLink ST 1059 JC.PreCheck.yN, .static JC.PreCheck.yN, .code JC.PreCheck.yN JC.PreCheck.yB 3 (some .int), .initialized "jdk/internal/util/Preconditions"]
theorem tabChN_of {a : Array Value} {s : State} (h : ∀ w ∈ wordsChN, w.before a s = true) : ChN.tab.before a s = true := by
  have hp : JC.PreCheck.tab.before a s = true := unparts (wk h (.code JC.PreCheck.yN JC.PreCheck.yB 3 (some .int))) (wks h (.initialized JC.PreCheck.yN.cls :: JC.PreCheck.site))
  have qk := consq hp h
  have hk : JO.Str_checkIndex.tab.before a s = true := unparts (wk qk (.code JO.Str_checkIndex.yN JO.Str_checkIndex.yB 2 none)) (wks qk (.initialized JO.Str_checkIndex.yN.cls :: JO.Str_checkIndex.site))
  have ql := consq hk h
  have hl : LChA.tab.before a s = true := unparts (wk ql (.code LChA.yN LChA.yB 2 (some .char))) (wks ql (.initialized LChA.yN.cls :: LChA.site))
  have hi : IsL.tab.before a s = true := unparts (wk h (.code IsL.yN IsL.yB 1 (some .boolean))) (wks h (.initialized IsL.yN.cls :: IsL.site))
  have q := consq hi (consq hl h)
  exact unparts (wk q (.code ChN.yN ChN.yB 2 (some .char))) (wks q (.initialized ChN.yN.cls :: ChN.site))
theorem movedChN {Z s : State} {a0 args : Array Value} (hZ : Z.Warmed39 s.vm) (hw : ∀ d ∈ wordsChN, d.before a0 Z = true) : ∀ d ∈ wordsChN, d.before args s = true := fun d hd => by
  have t : ∀ d ∈ wordsChN, (d.onTables && d.keepsFace) = true := by decide +kernel
  exact RoadKit.mv hZ (hw d hd) (t d hd)
/-- **charAt(i) OF A LATIN-1 STRING**, i < n: the char -/
theorem chN {p : Program} {l : Launch} {e : Env} {R : Room} {s : State} {args : Array Value} {below : List Frame} {len W : Nat} {Z : State} {a0 : Array Value} {h : Heap} (hZ : Z.Warmed39 s.vm) (hw : ∀ d ∈ wordsChN, d.before a0 Z = true) {kI : Nat} (wi : (Jvm.Cond.instantiable ST kI).before a0 Z = true)
    {x t : Addr} {kb : ClassId} {cs : List Int32} {N2 z : Int32} {vs : List Value} {fm : Value} {i : Nat} {j : Int32} (E : RoadKit.Exa Z h x ST) (V : RoadKit.Fld Z h x ST "value" "[B" (.ref t)) (C : RoadKit.Fld Z h x ST "coder" "B" (.int 0)) (K : RoadKit.Arv Z h t kb .byte N2 vs (.int 0)) (hc : CodA cs 0 N2 vs) (hb : ∀ c ∈ cs, ¬ c < 0 ∧ ¬ (65535 : Int32) < c)
    (S : RoadKit.Sta Z h ST "COMPACT_STRINGS" "Z" (.int z)) (hz : ¬ z = 0) (F : RoadKit.Sta Z h "jdk/internal/util/Preconditions" "SIOOBE_FORMATTER" "Ljava/util/function/BiFunction;" fm) (rf : fm.isRef = true) (l2 : cs.length ≤ 4000) (hi : i < cs.length) (hj : j = Int32.ofNat i) (hfr : 4 ≤ R.frames) (hlo : W + 53 ≤ R.locals) :
    Back l R p e below s args (⟨"java/lang/String", "charAt", "(I)C"⟩ : MethodName) len W (fun P a => a = #[.ref x, .int j] ∧ P.U.heap = h ∧ P.cells + 0 ≤ R.cells ∧ P.slots + 0 ≤ R.slots)
      (fun P _ v B => ∃ L, (v = some (.int (cs.getD i 0)) ∧ L = [] ∧ B.U.heap = h) ∧ B.locs = P.locs ++ L ∧ B.cells = P.cells + 0 ∧ B.slots = P.slots + 0) := by
  subst hj
  intro m meth c P g ig mk a X hg hsize hdg hW hn hp'
  obtain ⟨rfl, rfl, r1, r2⟩ := hp'
  have al : Z.vm.Alike P.U.vm := hZ.alike.trans X.warmed.alike
  obtain ⟨A, hx⟩ := txt_of wi al E V C K hc hb l2
  obtain ⟨v, B, X', ⟨⟨hv, hh⟩, hl, hk, hs⟩, st⟩ := ChN.pays x t A cs.length (fun j => cs.getD j 0) z fm i (tabChN_of (movedChN hZ hw)) hfr hlo m meth c P g ig mk _ X hg hsize hdg hW hn ⟨r1, r2, rfl, hx, hi, sta_is al S, hz, sta_is al F, rf⟩
  exact ⟨v, B, X', ⟨[], ⟨hv, rfl, hh⟩, hl, hk, hs⟩, st⟩
/-- what backV says of its String, as the contracts of this text ask it: cs's low bytes, coder 0 -/
theorem codOf {cs : List Int32} {n : Nat} (hn : cs.length = n) (hb : ∀ c ∈ cs, ¬ 255 < c) : CodA cs 0 (Int32.ofNat n) ((cs.map lo8).map Value.int) := Or.inl ⟨rfl, by rw [hn], by simp [List.map_map, Function.comp_def], hb⟩
end StrChars.Road
end Jvm.Pilot.@@N@@
namespace Jvm.Pilot.@@N@@
open Jvm Jvm.ClassFile Sem Op Lib Jvm.Free Jvm.Stand Jvm.LawKit Jvm.RoadKit Bundle Jvm.Pilot.@@N@@.Jvm.D
theorem own_up (cs : List Int32) (h : ∀ c ∈ cs, ¬ c < 0 ∧ ¬ (255 : Int32) < c) : ∀ c ∈ cs, ¬ c < 0 ∧ ¬ (65535 : Int32) < c := fun c hc => ⟨(h c hc).1, fun q => (h c hc).2 (by rw [Int32.lt_iff_toInt_lt] at q ⊢; have e1 : (65535 : Int32).toInt = 65535 := rfl; have e2 : (255 : Int32).toInt = 255 := rfl; omega)⟩
theorem own_hw_backV {Z : State} {a0 : Array Value} (hw : ∀ d ∈ tables_1, d.before a0 Z = true) : ∀ d ∈ StrChars.Road.words, d.before a0 Z = true := fun d hd => hw d ((by decide +kernel : ∀ d ∈ StrChars.Road.words, d ∈ tables_1) d hd)
theorem own_hw_lenW {Z : State} {a0 : Array Value} (hw : ∀ d ∈ tables_1, d.before a0 Z = true) : ∀ d ∈ StrChars.Road.wordsLen, d.before a0 Z = true := fun d hd => hw d ((by decide +kernel : ∀ d ∈ StrChars.Road.wordsLen, d ∈ tables_1) d hd)
theorem own_hw_chN {Z : State} {a0 : Array Value} (hw : ∀ d ∈ tables_1, d.before a0 Z = true) : ∀ d ∈ StrChars.Road.wordsChN, d.before a0 Z = true := fun d hd => hw d ((by decide +kernel : ∀ d ∈ StrChars.Road.wordsChN, d ∈ tables_1) d hd)
theorem own_hw_str {Z : State} {a0 : Array Value} (hw : ∀ d ∈ tables_1, d.before a0 Z = true) : ∀ d ∈ Bundle.stringAtoms, d.before a0 Z = true := fun d hd => hw d ((by decide +kernel : ∀ d ∈ Bundle.stringAtoms, d ∈ tables_1) d hd)
theorem own_clamp {j : Nat} (h : j < 2 ^ 31) : (Int32.ofNat j).toNatClampNeg = j := clamp_of rfl h
theorem own_toInt {j : Nat} (h : j < 2 ^ 31) : (Int32.ofNat j).toInt = (j : Int) := toInt_of rfl h
theorem own_inb {i n : Nat} (h : i < n) (hn : n < 2 ^ 31) : ¬ (Int32.ofNat i < (0 : Int32)) ∧ Int32.ofNat i < Int32.ofNat n := by
  rw [Int32.lt_iff_toInt_lt, Int32.lt_iff_toInt_lt, own_toInt (by omega), own_toInt hn]
  have e0 : (0 : Int32).toInt = 0 := rfl
  omega
theorem own_nlt {i n : Nat} (h : n ≤ i) (hi : i < 2 ^ 31) : ¬ (Int32.ofNat i < Int32.ofNat n) := by
  rw [Int32.lt_iff_toInt_lt, own_toInt hi, own_toInt (by omega)]
  omega
theorem own_oinj {i n : Nat} (hi : i < 2 ^ 31) (hn : n < 2 ^ 31) (h : Int32.ofNat i = Int32.ofNat n) : i = n := by
  have q := congrArg Int32.toInt h
  rw [own_toInt hi, own_toInt hn] at q
  omega
theorem own_shl1 (i : Nat) : Int32.ofNat i <<< ((1 : Int32) &&& 31) = Int32.ofNat (2 * i) := by
  rw [shlm (show (1 : Int32) <<< ((1 : Int32) &&& 31) = 2 by decide), Nat.mul_comm, Int32.ofNat_mul]
  rfl
theorem own_nc {c : Int32} (h0 : ¬ c < 0) (h1 : ¬ (65535 : Int32) < c) : c.toUInt32.toUInt16.toUInt32.toInt32 = c := by
  have q := c_i2c c
  rw [Int32.lt_iff_toInt_lt] at h0 h1
  have e0 : (0 : Int32).toInt = 0 := rfl
  have e1 : (65535 : Int32).toInt = 65535 := rfl
  apply Int32.toInt_inj.mp
  omega
theorem own_i2c (x : Int32) : ¬ (x.toUInt32.toUInt16.toUInt32.toInt32) < 0 ∧ ¬ (65535 : Int32) < (x.toUInt32.toUInt16.toUInt32.toInt32) := by
  have q := c_i2c x
  rw [Int32.lt_iff_toInt_lt, Int32.lt_iff_toInt_lt]
  have e0 : (0 : Int32).toInt = 0 := rfl
  have e1 : (65535 : Int32).toInt = 65535 := rfl
  omega
theorem own_mapat {cs : List Int32} {j : Nat} {d : Value} (hj : j < cs.length) (hN : cs.length < 2 ^ 31) : (cs.map Value.int).getD (Int32.ofNat j).toNatClampNeg d = .int (cs.getD j 0) := by
  rw [own_clamp (by omega)]
  simp [List.getD_eq_getElem?_getD, hj]
theorem own_nb (x : Int32) : nar .byte (x.toInt8.toInt32) = x.toInt8.toInt32 := by
  show (x.toInt8.toInt32).toInt8.toInt32 = x.toInt8.toInt32
  rw [Int8.toInt8_toInt32]
theorem own_getmem {cs : List Int32} {i : Nat} (h : i < cs.length) : cs.getD i 0 ∈ cs := by
  have e : cs.getD i 0 = cs[i] := by simp [List.getD_eq_getElem?_getD, h]
  rw [e]; exact List.getElem_mem _
def own_D : List Int32 := [(-1), (-1), (-1), (-1), (-1), (-1), (-1), (-1), (-1), (-1), (-1), (-1), (-1), (-1), (-1), (-1), (-1), (-1), (-1), (-1), (-1), (-1), (-1), (-1), (-1), (-1), (-1), (-1), (-1), (-1), (-1), (-1), (-1), (-1), (-1), (-1), (-1), (-1), (-1), (-1), (-1), (-1), (-1), (-1), (-1), (-1), (-1), (-1), 0, 1, 2, 3, 4, 5, 6, 7, 8, 9, (-1), (-1), (-1), (-1), (-1), (-1), (-1), 10, 11, 12, 13, 14, 15, (-1), (-1), (-1), (-1), (-1), (-1), (-1), (-1), (-1), (-1), (-1), (-1), (-1), (-1), (-1), (-1), (-1), (-1), (-1), (-1), (-1), (-1), (-1), (-1), (-1), (-1), 10, 11, 12, 13, 14, 15, (-1), (-1), (-1), (-1), (-1), (-1), (-1), (-1), (-1), (-1), (-1), (-1), (-1), (-1), (-1), (-1), (-1), (-1), (-1), (-1), (-1), (-1), (-1), (-1), (-1), (-1), (-1), (-1), (-1), (-1), (-1), (-1), (-1), (-1), (-1), (-1), (-1), (-1), (-1), (-1), (-1), (-1), (-1), (-1), (-1), (-1), (-1), (-1), (-1), (-1), (-1), (-1), (-1), (-1), (-1), (-1), (-1), (-1), (-1), (-1), (-1), (-1), (-1), (-1), (-1), (-1), (-1), (-1), (-1), (-1), (-1), (-1), (-1), (-1), (-1), (-1), (-1), (-1), (-1), (-1), (-1), (-1), (-1), (-1), (-1), (-1), (-1), (-1), (-1), (-1), (-1), (-1), (-1), (-1), (-1), (-1), (-1), (-1), (-1), (-1), (-1), (-1), (-1), (-1), (-1), (-1), (-1), (-1), (-1), (-1), (-1), (-1), (-1), (-1), (-1), (-1), (-1), (-1), (-1), (-1), (-1), (-1), (-1), (-1), (-1), (-1), (-1), (-1), (-1), (-1), (-1), (-1), (-1), (-1), (-1), (-1), (-1), (-1), (-1), (-1), (-1), (-1), (-1), (-1), (-1), (-1), (-1), (-1), (-1), (-1), (-1), (-1), (-1)]
def own_dig (c : Int32) : Int32 := own_D.getD c.toNatClampNeg (-1)
def own_H (c v : Int32) : Prop := nar .char c = c ∧ ¬ c < 0 ∧ ¬ (255 : Int32) < c ∧ own_dig c = v ∧ ¬ own_dig c < 0
def own_nib (x : Int64) (sh : Int32) : Int32 := ((((x.toUInt64 >>> (sh &&& 0x3f).toInt64.toUInt64).toInt64) &&& (15 : Int64)).toInt32)
theorem own_nibI (A : Int64) : ((A &&& (15 : Int64)).toInt32).toInt = A.toInt % 16 := by
  have h1 : (A &&& (15 : Int64)).toInt = A.toInt % 16 := c_maskL A 15 4 (by decide) (by decide)
  have h2 := c_l2i (A &&& (15 : Int64))
  have h3 := rng32 ((A &&& (15 : Int64)).toInt32)
  omega
theorem own_nibr (x : Int64) (sh : Int32) : ∃ n : Nat, own_nib x sh = Int32.ofNat n ∧ n < 16 := by
  have h := own_nibI ((x.toUInt64 >>> (sh &&& 0x3f).toInt64.toUInt64).toInt64)
  have e : (own_nib x sh).toInt = ((x.toUInt64 >>> (sh &&& 0x3f).toInt64.toUInt64).toInt64).toInt % 16 := h
  refine ⟨(own_nib x sh).toInt.toNat, Int32.toInt_inj.mp ?_, by omega⟩
  rw [own_toInt (by omega)]
  omega
theorem own_dA : ∀ k : Fin 10, own_H (((48 : Int32) + (Int32.ofNat k.val)).toUInt32.toUInt16.toUInt32.toInt32) (Int32.ofNat k.val) := by
  have tt : ∀ k : Fin 10, nar .char (((48 : Int32) + (Int32.ofNat k.val)).toUInt32.toUInt16.toUInt32.toInt32) = (((48 : Int32) + (Int32.ofNat k.val)).toUInt32.toUInt16.toUInt32.toInt32) ∧ ¬ (((48 : Int32) + (Int32.ofNat k.val)).toUInt32.toUInt16.toUInt32.toInt32) < 0 ∧ ¬ (255 : Int32) < (((48 : Int32) + (Int32.ofNat k.val)).toUInt32.toUInt16.toUInt32.toInt32) ∧ own_dig (((48 : Int32) + (Int32.ofNat k.val)).toUInt32.toUInt16.toUInt32.toInt32) = (Int32.ofNat k.val) ∧ ¬ own_dig (((48 : Int32) + (Int32.ofNat k.val)).toUInt32.toUInt16.toUInt32.toInt32) < 0 := by decide +kernel
  exact tt
theorem own_dB : ∀ k : Fin 6, own_H (((65 : Int32) + ((Int32.ofNat (10 + k.val)) - (10 : Int32))).toUInt32.toUInt16.toUInt32.toInt32) (Int32.ofNat (10 + k.val)) := by
  have tt : ∀ k : Fin 6, nar .char (((65 : Int32) + ((Int32.ofNat (10 + k.val)) - (10 : Int32))).toUInt32.toUInt16.toUInt32.toInt32) = (((65 : Int32) + ((Int32.ofNat (10 + k.val)) - (10 : Int32))).toUInt32.toUInt16.toUInt32.toInt32) ∧ ¬ (((65 : Int32) + ((Int32.ofNat (10 + k.val)) - (10 : Int32))).toUInt32.toUInt16.toUInt32.toInt32) < 0 ∧ ¬ (255 : Int32) < (((65 : Int32) + ((Int32.ofNat (10 + k.val)) - (10 : Int32))).toUInt32.toUInt16.toUInt32.toInt32) ∧ own_dig (((65 : Int32) + ((Int32.ofNat (10 + k.val)) - (10 : Int32))).toUInt32.toUInt16.toUInt32.toInt32) = (Int32.ofNat (10 + k.val)) ∧ ¬ own_dig (((65 : Int32) + ((Int32.ofNat (10 + k.val)) - (10 : Int32))).toUInt32.toUInt16.toUInt32.toInt32) < 0 := by decide +kernel
  exact tt
theorem own_dC : ∀ k : Fin 6, own_H (((97 : Int32) + ((Int32.ofNat (10 + k.val)) - (10 : Int32))).toUInt32.toUInt16.toUInt32.toInt32) (Int32.ofNat (10 + k.val)) := by
  have tt : ∀ k : Fin 6, nar .char (((97 : Int32) + ((Int32.ofNat (10 + k.val)) - (10 : Int32))).toUInt32.toUInt16.toUInt32.toInt32) = (((97 : Int32) + ((Int32.ofNat (10 + k.val)) - (10 : Int32))).toUInt32.toUInt16.toUInt32.toInt32) ∧ ¬ (((97 : Int32) + ((Int32.ofNat (10 + k.val)) - (10 : Int32))).toUInt32.toUInt16.toUInt32.toInt32) < 0 ∧ ¬ (255 : Int32) < (((97 : Int32) + ((Int32.ofNat (10 + k.val)) - (10 : Int32))).toUInt32.toUInt16.toUInt32.toInt32) ∧ own_dig (((97 : Int32) + ((Int32.ofNat (10 + k.val)) - (10 : Int32))).toUInt32.toUInt16.toUInt32.toInt32) = (Int32.ofNat (10 + k.val)) ∧ ¬ own_dig (((97 : Int32) + ((Int32.ofNat (10 + k.val)) - (10 : Int32))).toUInt32.toUInt16.toUInt32.toInt32) < 0 := by decide +kernel
  exact tt
theorem own_addn (a b : Nat) : Int32.ofNat a + Int32.ofNat b = Int32.ofNat (a + b) := (Int32.ofNat_add a b).symm
theorem own_ush8 {x : Int32} (h0 : ¬ x < 0) (h1 : ¬ (255 : Int32) < x) : (x.toUInt32 >>> ((8 : Int32) &&& 31).toUInt32).toInt32 = (0 : Int32) := by
  rw [Int32.lt_iff_toInt_lt] at h0 h1
  have e0 : (0 : Int32).toInt = 0 := rfl
  have e1 : (255 : Int32).toInt = 255 := rfl
  apply Int32.toInt_inj.mp
  rw [c_iushr _ 8 8 (by decide) (by decide), e0]
  show _ / (256 : Int) = 0
  omega
theorem own_in256 {x : Int32} (h0 : ¬ x < 0) (h1 : ¬ (255 : Int32) < x) : ¬ x < (0 : Int32) ∧ x < (256 : Int32) := by
  refine ⟨h0, ?_⟩
  rw [Int32.lt_iff_toInt_lt] at h1 ⊢
  have e1 : (255 : Int32).toInt = 255 := rfl
  have e2 : (256 : Int32).toInt = 256 := rfl
  omega
theorem own_digat {x : Int32} {d : Value} (h0 : ¬ x < 0) (h1 : ¬ (255 : Int32) < x) : (own_D.map Value.int).getD x.toNatClampNeg d = .int (own_dig x) := by
  have hl : own_D.length = 256 := by decide +kernel
  have hx : x.toNatClampNeg < own_D.length := by
    rw [hl]
    rw [Int32.lt_iff_toInt_lt] at h0 h1
    have e0 : (0 : Int32).toInt = 0 := rfl
    have e1 : (255 : Int32).toInt = 255 := rfl
    show x.toInt.toNat < 256
    omega
  unfold own_dig
  rw [List.getD_eq_getElem?_getD, List.getD_eq_getElem?_getD, List.getElem?_map, List.getElem?_eq_getElem hx]
  rfl
theorem own_mul2 (i : Nat) : Int32.ofNat i * (2 : Int32) = Int32.ofNat (2 * i) := by
  rw [Nat.mul_comm, Int32.ofNat_mul]; rfl
def own_bt (ds : List Int32) (q : Nat) : Int32 := (((own_dig (ds.getD (2 * q) 0)) <<< ((4 : Int32) &&& 31)) ||| (own_dig (ds.getD (2 * q + 1) 0))).toInt8.toInt32
def own_bytes (ds : List Int32) : List Value := (List.range 32).map fun q => Value.int (own_bt ds q)
theorem own_btstep {ds : List Int32} {i : Nat} (hi : i < 32) (z : Value) : (((List.range i).map fun q => Value.int (own_bt ds q)) ++ List.replicate (32 - i) z).set i (.int (own_bt ds i)) = ((List.range (i + 1)).map fun q => Value.int (own_bt ds q)) ++ List.replicate (32 - (i + 1)) z := by
  have hl : ((List.range i).map fun q => Value.int (own_bt ds q)).length = i := by rw [List.length_map, List.length_range]
  have hr : List.replicate (32 - i) z = z :: List.replicate (32 - (i + 1)) z := by rw [show 32 - i = 32 - (i + 1) + 1 by omega, List.replicate_succ]
  rw [hr, List.set_append, if_neg (by omega), hl, Nat.sub_self, List.range_succ, List.map_append, List.append_assoc]
  rfl
theorem own_byat {ds : List Int32} {j : Nat} {d : Value} (hj : j < 32) : (own_bytes ds).getD (Int32.ofNat j).toNatClampNeg d = .int (own_bt ds j) := by
  rw [own_clamp (by omega), List.getD_eq_getElem?_getD]
  unfold own_bytes
  rw [List.getElem?_map, List.getElem?_range hj]
  rfl
theorem own_bkg (A B : Int64) {u v : Int32} (hA : (A.toInt - B.toInt / 16) % 16 = 0) (hu : u = (A &&& (15 : Int64)).toInt32) (hv : v = (B &&& (15 : Int64)).toInt32) : ((u <<< ((4 : Int32) &&& 31)) ||| v).toInt8.toInt32 = B.toInt32.toInt8.toInt32 := by
  have h1 := own_nibI A
  have h2 := own_nibI B
  rw [← hu] at h1
  rw [← hv] at h2
  have h3 : ((u <<< ((4 : Int32) &&& 31)).toInt - u.toInt * 16) % 4294967296 = 0 := c_ishl u 4 4 rfl
  have h4 := rng32 (u <<< ((4 : Int32) &&& 31))
  have h5 : (u <<< ((4 : Int32) &&& 31)).toInt = u.toInt * 16 := by omega
  have h6 := c_or (u <<< ((4 : Int32) &&& 31)) v 4 (by decide) 16 rfl (by omega) (by omega) (by omega)
  have h7 := c_i2b ((u <<< ((4 : Int32) &&& 31)) ||| v)
  have h8 := c_i2b B.toInt32
  have h9 := c_l2i B
  apply Int32.toInt_inj.mp
  omega
theorem own_lush0 (x : Int64) : (x.toUInt64 >>> ((0 : Int32) &&& 0x3f).toInt64.toUInt64).toInt64 = x := by
  have e : ((0 : Int32) &&& 0x3f).toInt64.toUInt64 = 0 := by decide
  rw [e]
  simp
theorem own_mem {ds : List Int32} {P : Int32 → Prop} (h : ∀ k, k < ds.length → P (ds.getD k 0)) : ∀ c ∈ ds, P c := by
  intro c hc
  obtain ⟨n, hn, rfl⟩ := List.getElem_of_mem hc
  have q := h n hn
  rw [List.getD_eq_getElem?_getD, List.getElem?_eq_getElem hn] at q
  exact q
def own_N (X : List Int64) (k : Nat) : Int32 := own_nib (X.getD (k / 16) 0) (Int32.ofNat (60 - 4 * (k % 16)))
theorem own_eqv_r {Z : State} {args : Array Value} {X F : Term} {idx : List Nat} {y : Addr} (hF : F.eval args Z none idx Z = some (.ref y)) (h : (Cond.eq X F).value args Z none Z idx = some true) : X.eval args Z none idx Z = some (.ref y) :=
  Cond.eq_refs (beq_iff_eq.mpr h) hF rfl
theorem own_len {s : State} {args : Array Value} {t : Term} {a : Addr} {cell : Cell} {ty : FieldType} {n : Int32} (ev : t.eval args s none [] s = some (.ref a)) (A : Arr s s.heap a cell ty) (h : (Term.length t).eval args s none [] s = some (.int n)) : cell.slots.size < 2 ^ 31 ∧ cell.slots.size.toInt32 = n := by
  have ha := A.fin (Vm.Alike.refl _)
  by_cases hl : cell.slots.size < 2 ^ 31
  · have q := len_f ev ha hl
    rw [q] at h
    cases h
    exact ⟨hl, rfl⟩
  · simp [Term.eval, ev, ha, hl] at h
theorem own_elt {s : State} {args : Array Value} {t : Term} {a : Addr} {cell : Cell} {ty : FieldType} {j n : Int32} {k : Nat} (ev : t.eval args s none [] s = some (.ref a)) (A : Arr s s.heap a cell ty) (hj : ¬ j < 0) (hk : j.toNatClampNeg = k) (h : (Cond.eq (Term.elem t (Term.int j)) (Term.int n)).before args s = true) : cell.slots[k]? = some (.int n) := by
  rw [← hk]
  exact (elem_f ev (Term.int_eval j) (A.fin (Vm.Alike.refl _)) hj).symm.trans (eqv_i (Term.int_eval n) (Cond.before_iff.mp h))
theorem own_bk0 {x : Int64} {ds : List Int32} {q : Nat} (ha : own_dig (ds.getD (2 * q) 0) = own_nib x (60 : Int32)) (hb : own_dig (ds.getD (2 * q + 1) 0) = own_nib x (56 : Int32)) : own_bt ds q = (((x.toUInt64 >>> ((56 : Int32) &&& 0x3f).toInt64.toUInt64).toInt64).toInt32).toInt8.toInt32 := by
  have e1 : ((x.toUInt64 >>> ((60 : Int32) &&& 0x3f).toInt64.toUInt64).toInt64).toInt = (x.toInt % 18446744073709551616) / 1152921504606846976 := c_lushr x 60 60 (by decide) (by decide)
  have e0 : ((x.toUInt64 >>> ((56 : Int32) &&& 0x3f).toInt64.toUInt64).toInt64).toInt = (x.toInt % 18446744073709551616) / 72057594037927936 := c_lushr x 56 56 (by decide) (by decide)
  exact own_bkg ((x.toUInt64 >>> ((60 : Int32) &&& 0x3f).toInt64.toUInt64).toInt64) ((x.toUInt64 >>> ((56 : Int32) &&& 0x3f).toInt64.toUInt64).toInt64) (by rw [e1, e0]; omega) ha hb
theorem own_bk1 {x : Int64} {ds : List Int32} {q : Nat} (ha : own_dig (ds.getD (2 * q) 0) = own_nib x (52 : Int32)) (hb : own_dig (ds.getD (2 * q + 1) 0) = own_nib x (48 : Int32)) : own_bt ds q = (((x.toUInt64 >>> ((48 : Int32) &&& 0x3f).toInt64.toUInt64).toInt64).toInt32).toInt8.toInt32 := by
  have e1 : ((x.toUInt64 >>> ((52 : Int32) &&& 0x3f).toInt64.toUInt64).toInt64).toInt = (x.toInt % 18446744073709551616) / 4503599627370496 := c_lushr x 52 52 (by decide) (by decide)
  have e0 : ((x.toUInt64 >>> ((48 : Int32) &&& 0x3f).toInt64.toUInt64).toInt64).toInt = (x.toInt % 18446744073709551616) / 281474976710656 := c_lushr x 48 48 (by decide) (by decide)
  exact own_bkg ((x.toUInt64 >>> ((52 : Int32) &&& 0x3f).toInt64.toUInt64).toInt64) ((x.toUInt64 >>> ((48 : Int32) &&& 0x3f).toInt64.toUInt64).toInt64) (by rw [e1, e0]; omega) ha hb
theorem own_bk2 {x : Int64} {ds : List Int32} {q : Nat} (ha : own_dig (ds.getD (2 * q) 0) = own_nib x (44 : Int32)) (hb : own_dig (ds.getD (2 * q + 1) 0) = own_nib x (40 : Int32)) : own_bt ds q = (((x.toUInt64 >>> ((40 : Int32) &&& 0x3f).toInt64.toUInt64).toInt64).toInt32).toInt8.toInt32 := by
  have e1 : ((x.toUInt64 >>> ((44 : Int32) &&& 0x3f).toInt64.toUInt64).toInt64).toInt = (x.toInt % 18446744073709551616) / 17592186044416 := c_lushr x 44 44 (by decide) (by decide)
  have e0 : ((x.toUInt64 >>> ((40 : Int32) &&& 0x3f).toInt64.toUInt64).toInt64).toInt = (x.toInt % 18446744073709551616) / 1099511627776 := c_lushr x 40 40 (by decide) (by decide)
  exact own_bkg ((x.toUInt64 >>> ((44 : Int32) &&& 0x3f).toInt64.toUInt64).toInt64) ((x.toUInt64 >>> ((40 : Int32) &&& 0x3f).toInt64.toUInt64).toInt64) (by rw [e1, e0]; omega) ha hb
theorem own_bk3 {x : Int64} {ds : List Int32} {q : Nat} (ha : own_dig (ds.getD (2 * q) 0) = own_nib x (36 : Int32)) (hb : own_dig (ds.getD (2 * q + 1) 0) = own_nib x (32 : Int32)) : own_bt ds q = (((x.toUInt64 >>> ((32 : Int32) &&& 0x3f).toInt64.toUInt64).toInt64).toInt32).toInt8.toInt32 := by
  have e1 : ((x.toUInt64 >>> ((36 : Int32) &&& 0x3f).toInt64.toUInt64).toInt64).toInt = (x.toInt % 18446744073709551616) / 68719476736 := c_lushr x 36 36 (by decide) (by decide)
  have e0 : ((x.toUInt64 >>> ((32 : Int32) &&& 0x3f).toInt64.toUInt64).toInt64).toInt = (x.toInt % 18446744073709551616) / 4294967296 := c_lushr x 32 32 (by decide) (by decide)
  exact own_bkg ((x.toUInt64 >>> ((36 : Int32) &&& 0x3f).toInt64.toUInt64).toInt64) ((x.toUInt64 >>> ((32 : Int32) &&& 0x3f).toInt64.toUInt64).toInt64) (by rw [e1, e0]; omega) ha hb
theorem own_bk4 {x : Int64} {ds : List Int32} {q : Nat} (ha : own_dig (ds.getD (2 * q) 0) = own_nib x (28 : Int32)) (hb : own_dig (ds.getD (2 * q + 1) 0) = own_nib x (24 : Int32)) : own_bt ds q = (((x.toUInt64 >>> ((24 : Int32) &&& 0x3f).toInt64.toUInt64).toInt64).toInt32).toInt8.toInt32 := by
  have e1 : ((x.toUInt64 >>> ((28 : Int32) &&& 0x3f).toInt64.toUInt64).toInt64).toInt = (x.toInt % 18446744073709551616) / 268435456 := c_lushr x 28 28 (by decide) (by decide)
  have e0 : ((x.toUInt64 >>> ((24 : Int32) &&& 0x3f).toInt64.toUInt64).toInt64).toInt = (x.toInt % 18446744073709551616) / 16777216 := c_lushr x 24 24 (by decide) (by decide)
  exact own_bkg ((x.toUInt64 >>> ((28 : Int32) &&& 0x3f).toInt64.toUInt64).toInt64) ((x.toUInt64 >>> ((24 : Int32) &&& 0x3f).toInt64.toUInt64).toInt64) (by rw [e1, e0]; omega) ha hb
theorem own_bk5 {x : Int64} {ds : List Int32} {q : Nat} (ha : own_dig (ds.getD (2 * q) 0) = own_nib x (20 : Int32)) (hb : own_dig (ds.getD (2 * q + 1) 0) = own_nib x (16 : Int32)) : own_bt ds q = (((x.toUInt64 >>> ((16 : Int32) &&& 0x3f).toInt64.toUInt64).toInt64).toInt32).toInt8.toInt32 := by
  have e1 : ((x.toUInt64 >>> ((20 : Int32) &&& 0x3f).toInt64.toUInt64).toInt64).toInt = (x.toInt % 18446744073709551616) / 1048576 := c_lushr x 20 20 (by decide) (by decide)
  have e0 : ((x.toUInt64 >>> ((16 : Int32) &&& 0x3f).toInt64.toUInt64).toInt64).toInt = (x.toInt % 18446744073709551616) / 65536 := c_lushr x 16 16 (by decide) (by decide)
  exact own_bkg ((x.toUInt64 >>> ((20 : Int32) &&& 0x3f).toInt64.toUInt64).toInt64) ((x.toUInt64 >>> ((16 : Int32) &&& 0x3f).toInt64.toUInt64).toInt64) (by rw [e1, e0]; omega) ha hb
theorem own_bk6 {x : Int64} {ds : List Int32} {q : Nat} (ha : own_dig (ds.getD (2 * q) 0) = own_nib x (12 : Int32)) (hb : own_dig (ds.getD (2 * q + 1) 0) = own_nib x (8 : Int32)) : own_bt ds q = (((x.toUInt64 >>> ((8 : Int32) &&& 0x3f).toInt64.toUInt64).toInt64).toInt32).toInt8.toInt32 := by
  have e1 : ((x.toUInt64 >>> ((12 : Int32) &&& 0x3f).toInt64.toUInt64).toInt64).toInt = (x.toInt % 18446744073709551616) / 4096 := c_lushr x 12 12 (by decide) (by decide)
  have e0 : ((x.toUInt64 >>> ((8 : Int32) &&& 0x3f).toInt64.toUInt64).toInt64).toInt = (x.toInt % 18446744073709551616) / 256 := c_lushr x 8 8 (by decide) (by decide)
  exact own_bkg ((x.toUInt64 >>> ((12 : Int32) &&& 0x3f).toInt64.toUInt64).toInt64) ((x.toUInt64 >>> ((8 : Int32) &&& 0x3f).toInt64.toUInt64).toInt64) (by rw [e1, e0]; omega) ha hb
theorem own_bk7 {x : Int64} {ds : List Int32} {q : Nat} (ha : own_dig (ds.getD (2 * q) 0) = own_nib x (4 : Int32)) (hb : own_dig (ds.getD (2 * q + 1) 0) = own_nib x (0 : Int32)) : own_bt ds q = (x.toInt32).toInt8.toInt32 := by
  have e1 : ((x.toUInt64 >>> ((4 : Int32) &&& 0x3f).toInt64.toUInt64).toInt64).toInt = (x.toInt % 18446744073709551616) / 16 := c_lushr x 4 4 (by decide) (by decide)
  have hb' : own_dig (ds.getD (2 * q + 1) 0) = (x &&& (15 : Int64)).toInt32 := by rw [hb]; show (((x.toUInt64 >>> ((0 : Int32) &&& 0x3f).toInt64.toUInt64).toInt64) &&& (15 : Int64)).toInt32 = _; rw [own_lush0]
  exact own_bkg ((x.toUInt64 >>> ((4 : Int32) &&& 0x3f).toInt64.toUInt64).toInt64) x (by rw [e1]; omega) ha hb'
theorem own_all64 {P : Nat → Prop} (h0 : P 0) (h1 : P 1) (h2 : P 2) (h3 : P 3) (h4 : P 4) (h5 : P 5) (h6 : P 6) (h7 : P 7) (h8 : P 8) (h9 : P 9) (h10 : P 10) (h11 : P 11) (h12 : P 12) (h13 : P 13) (h14 : P 14) (h15 : P 15) (h16 : P 16) (h17 : P 17) (h18 : P 18) (h19 : P 19) (h20 : P 20) (h21 : P 21) (h22 : P 22) (h23 : P 23) (h24 : P 24) (h25 : P 25) (h26 : P 26) (h27 : P 27) (h28 : P 28) (h29 : P 29) (h30 : P 30) (h31 : P 31) (h32 : P 32) (h33 : P 33) (h34 : P 34) (h35 : P 35) (h36 : P 36) (h37 : P 37) (h38 : P 38) (h39 : P 39) (h40 : P 40) (h41 : P 41) (h42 : P 42) (h43 : P 43) (h44 : P 44) (h45 : P 45) (h46 : P 46) (h47 : P 47) (h48 : P 48) (h49 : P 49) (h50 : P 50) (h51 : P 51) (h52 : P 52) (h53 : P 53) (h54 : P 54) (h55 : P 55) (h56 : P 56) (h57 : P 57) (h58 : P 58) (h59 : P 59) (h60 : P 60) (h61 : P 61) (h62 : P 62) (h63 : P 63) : ∀ k, k < 64 → P k
  | 0, _ => h0
  | 1, _ => h1
  | 2, _ => h2
  | 3, _ => h3
  | 4, _ => h4
  | 5, _ => h5
  | 6, _ => h6
  | 7, _ => h7
  | 8, _ => h8
  | 9, _ => h9
  | 10, _ => h10
  | 11, _ => h11
  | 12, _ => h12
  | 13, _ => h13
  | 14, _ => h14
  | 15, _ => h15
  | 16, _ => h16
  | 17, _ => h17
  | 18, _ => h18
  | 19, _ => h19
  | 20, _ => h20
  | 21, _ => h21
  | 22, _ => h22
  | 23, _ => h23
  | 24, _ => h24
  | 25, _ => h25
  | 26, _ => h26
  | 27, _ => h27
  | 28, _ => h28
  | 29, _ => h29
  | 30, _ => h30
  | 31, _ => h31
  | 32, _ => h32
  | 33, _ => h33
  | 34, _ => h34
  | 35, _ => h35
  | 36, _ => h36
  | 37, _ => h37
  | 38, _ => h38
  | 39, _ => h39
  | 40, _ => h40
  | 41, _ => h41
  | 42, _ => h42
  | 43, _ => h43
  | 44, _ => h44
  | 45, _ => h45
  | 46, _ => h46
  | 47, _ => h47
  | 48, _ => h48
  | 49, _ => h49
  | 50, _ => h50
  | 51, _ => h51
  | 52, _ => h52
  | 53, _ => h53
  | 54, _ => h54
  | 55, _ => h55
  | 56, _ => h56
  | 57, _ => h57
  | 58, _ => h58
  | 59, _ => h59
  | 60, _ => h60
  | 61, _ => h61
  | 62, _ => h62
  | 63, _ => h63
  | n + 64, h => absurd h (by omega)
theorem own_set16 {α : Type} (A B : List α) (b0 b1 b2 b3 b4 b5 b6 b7 b8 b9 b10 b11 b12 b13 b14 b15 r0 r1 r2 r3 r4 r5 r6 r7 r8 r9 r10 r11 r12 r13 r14 r15 : α) : (((((((((((((((((A ++ (b0 :: b1 :: b2 :: b3 :: b4 :: b5 :: b6 :: b7 :: b8 :: b9 :: b10 :: b11 :: b12 :: b13 :: b14 :: b15 :: B)).set A.length r0).set (A.length + 1) r1).set (A.length + 2) r2).set (A.length + 3) r3).set (A.length + 4) r4).set (A.length + 5) r5).set (A.length + 6) r6).set (A.length + 7) r7).set (A.length + 8) r8).set (A.length + 9) r9).set (A.length + 10) r10).set (A.length + 11) r11).set (A.length + 12) r12).set (A.length + 13) r13).set (A.length + 14) r14).set (A.length + 15) r15) = A ++ (r0 :: r1 :: r2 :: r3 :: r4 :: r5 :: r6 :: r7 :: r8 :: r9 :: r10 :: r11 :: r12 :: r13 :: r14 :: r15 :: B) := by
  induction A with
  | nil => rfl
  | cons z A ih => simpa using ih
theorem own_64 (a0 a1 a2 a3 a4 a5 a6 a7 a8 a9 a10 a11 a12 a13 a14 a15 a16 a17 a18 a19 a20 a21 a22 a23 a24 a25 a26 a27 a28 a29 a30 a31 a32 a33 a34 a35 a36 a37 a38 a39 a40 a41 a42 a43 a44 a45 a46 a47 a48 a49 a50 a51 a52 a53 a54 a55 a56 a57 a58 a59 a60 a61 a62 a63 : Int32) : (((((((((((((((((((((((((((((((((((((((((((((((((((((((((((((((((List.replicate 64 (0 : Int32)).set 0 a0).set (0 + 1) a1).set (0 + 2) a2).set (0 + 3) a3).set (0 + 4) a4).set (0 + 5) a5).set (0 + 6) a6).set (0 + 7) a7).set (0 + 8) a8).set (0 + 9) a9).set (0 + 10) a10).set (0 + 11) a11).set (0 + 12) a12).set (0 + 13) a13).set (0 + 14) a14).set (0 + 15) a15).set 16 a16).set (16 + 1) a17).set (16 + 2) a18).set (16 + 3) a19).set (16 + 4) a20).set (16 + 5) a21).set (16 + 6) a22).set (16 + 7) a23).set (16 + 8) a24).set (16 + 9) a25).set (16 + 10) a26).set (16 + 11) a27).set (16 + 12) a28).set (16 + 13) a29).set (16 + 14) a30).set (16 + 15) a31).set 32 a32).set (32 + 1) a33).set (32 + 2) a34).set (32 + 3) a35).set (32 + 4) a36).set (32 + 5) a37).set (32 + 6) a38).set (32 + 7) a39).set (32 + 8) a40).set (32 + 9) a41).set (32 + 10) a42).set (32 + 11) a43).set (32 + 12) a44).set (32 + 13) a45).set (32 + 14) a46).set (32 + 15) a47).set 48 a48).set (48 + 1) a49).set (48 + 2) a50).set (48 + 3) a51).set (48 + 4) a52).set (48 + 5) a53).set (48 + 6) a54).set (48 + 7) a55).set (48 + 8) a56).set (48 + 9) a57).set (48 + 10) a58).set (48 + 11) a59).set (48 + 12) a60).set (48 + 13) a61).set (48 + 14) a62).set (48 + 15) a63) = [a0, a1, a2, a3, a4, a5, a6, a7, a8, a9, a10, a11, a12, a13, a14, a15, a16, a17, a18, a19, a20, a21, a22, a23, a24, a25, a26, a27, a28, a29, a30, a31, a32, a33, a34, a35, a36, a37, a38, a39, a40, a41, a42, a43, a44, a45, a46, a47, a48, a49, a50, a51, a52, a53, a54, a55, a56, a57, a58, a59, a60, a61, a62, a63] := by
  have h0 : (((((((((((((((((List.replicate 64 (0 : Int32)).set 0 a0).set (0 + 1) a1).set (0 + 2) a2).set (0 + 3) a3).set (0 + 4) a4).set (0 + 5) a5).set (0 + 6) a6).set (0 + 7) a7).set (0 + 8) a8).set (0 + 9) a9).set (0 + 10) a10).set (0 + 11) a11).set (0 + 12) a12).set (0 + 13) a13).set (0 + 14) a14).set (0 + 15) a15) = ([a0, a1, a2, a3, a4, a5, a6, a7, a8, a9, a10, a11, a12, a13, a14, a15] ++ (List.replicate 48 (0 : Int32))) := own_set16 ([] : List Int32) (List.replicate 48 (0 : Int32)) 0 0 0 0 0 0 0 0 0 0 0 0 0 0 0 0 a0 a1 a2 a3 a4 a5 a6 a7 a8 a9 a10 a11 a12 a13 a14 a15
  rw [h0]
  have h1 : ((((((((((((((((([a0, a1, a2, a3, a4, a5, a6, a7, a8, a9, a10, a11, a12, a13, a14, a15] ++ (List.replicate 48 (0 : Int32))).set 16 a16).set (16 + 1) a17).set (16 + 2) a18).set (16 + 3) a19).set (16 + 4) a20).set (16 + 5) a21).set (16 + 6) a22).set (16 + 7) a23).set (16 + 8) a24).set (16 + 9) a25).set (16 + 10) a26).set (16 + 11) a27).set (16 + 12) a28).set (16 + 13) a29).set (16 + 14) a30).set (16 + 15) a31) = ([a0, a1, a2, a3, a4, a5, a6, a7, a8, a9, a10, a11, a12, a13, a14, a15, a16, a17, a18, a19, a20, a21, a22, a23, a24, a25, a26, a27, a28, a29, a30, a31] ++ (List.replicate 32 (0 : Int32))) := own_set16 ([a0, a1, a2, a3, a4, a5, a6, a7, a8, a9, a10, a11, a12, a13, a14, a15] : List Int32) (List.replicate 32 (0 : Int32)) 0 0 0 0 0 0 0 0 0 0 0 0 0 0 0 0 a16 a17 a18 a19 a20 a21 a22 a23 a24 a25 a26 a27 a28 a29 a30 a31
  rw [h1]
  have h2 : ((((((((((((((((([a0, a1, a2, a3, a4, a5, a6, a7, a8, a9, a10, a11, a12, a13, a14, a15, a16, a17, a18, a19, a20, a21, a22, a23, a24, a25, a26, a27, a28, a29, a30, a31] ++ (List.replicate 32 (0 : Int32))).set 32 a32).set (32 + 1) a33).set (32 + 2) a34).set (32 + 3) a35).set (32 + 4) a36).set (32 + 5) a37).set (32 + 6) a38).set (32 + 7) a39).set (32 + 8) a40).set (32 + 9) a41).set (32 + 10) a42).set (32 + 11) a43).set (32 + 12) a44).set (32 + 13) a45).set (32 + 14) a46).set (32 + 15) a47) = ([a0, a1, a2, a3, a4, a5, a6, a7, a8, a9, a10, a11, a12, a13, a14, a15, a16, a17, a18, a19, a20, a21, a22, a23, a24, a25, a26, a27, a28, a29, a30, a31, a32, a33, a34, a35, a36, a37, a38, a39, a40, a41, a42, a43, a44, a45, a46, a47] ++ (List.replicate 16 (0 : Int32))) := own_set16 ([a0, a1, a2, a3, a4, a5, a6, a7, a8, a9, a10, a11, a12, a13, a14, a15, a16, a17, a18, a19, a20, a21, a22, a23, a24, a25, a26, a27, a28, a29, a30, a31] : List Int32) (List.replicate 16 (0 : Int32)) 0 0 0 0 0 0 0 0 0 0 0 0 0 0 0 0 a32 a33 a34 a35 a36 a37 a38 a39 a40 a41 a42 a43 a44 a45 a46 a47
  rw [h2]
  have h3 : ((((((((((((((((([a0, a1, a2, a3, a4, a5, a6, a7, a8, a9, a10, a11, a12, a13, a14, a15, a16, a17, a18, a19, a20, a21, a22, a23, a24, a25, a26, a27, a28, a29, a30, a31, a32, a33, a34, a35, a36, a37, a38, a39, a40, a41, a42, a43, a44, a45, a46, a47] ++ (List.replicate 16 (0 : Int32))).set 48 a48).set (48 + 1) a49).set (48 + 2) a50).set (48 + 3) a51).set (48 + 4) a52).set (48 + 5) a53).set (48 + 6) a54).set (48 + 7) a55).set (48 + 8) a56).set (48 + 9) a57).set (48 + 10) a58).set (48 + 11) a59).set (48 + 12) a60).set (48 + 13) a61).set (48 + 14) a62).set (48 + 15) a63) = ([a0, a1, a2, a3, a4, a5, a6, a7, a8, a9, a10, a11, a12, a13, a14, a15, a16, a17, a18, a19, a20, a21, a22, a23, a24, a25, a26, a27, a28, a29, a30, a31, a32, a33, a34, a35, a36, a37, a38, a39, a40, a41, a42, a43, a44, a45, a46, a47, a48, a49, a50, a51, a52, a53, a54, a55, a56, a57, a58, a59, a60, a61, a62, a63] ++ (List.replicate 0 (0 : Int32))) := own_set16 ([a0, a1, a2, a3, a4, a5, a6, a7, a8, a9, a10, a11, a12, a13, a14, a15, a16, a17, a18, a19, a20, a21, a22, a23, a24, a25, a26, a27, a28, a29, a30, a31, a32, a33, a34, a35, a36, a37, a38, a39, a40, a41, a42, a43, a44, a45, a46, a47] : List Int32) (List.replicate 0 (0 : Int32)) 0 0 0 0 0 0 0 0 0 0 0 0 0 0 0 0 a48 a49 a50 a51 a52 a53 a54 a55 a56 a57 a58 a59 a60 a61 a62 a63
  rw [h3]
  rfl

theorem d_method_3_code_0 : decode method_3_code 0 = .ok (.lload_n 0, 1) := by decide +kernel
theorem d_method_3_code_1 : decode method_3_code 1 = .ok (.iload_n 2, 1) := by decide +kernel
theorem d_method_3_code_2 : decode method_3_code 2 = .ok (.lushr, 1) := by decide +kernel
theorem d_method_3_code_3 : decode method_3_code 3 = .ok (.ldc2_w 34, 3) := by decide +kernel
theorem d_method_3_code_6 : decode method_3_code 6 = .ok (.land, 1) := by decide +kernel
theorem d_method_3_code_7 : decode method_3_code 7 = .ok (.l2i, 1) := by decide +kernel
theorem d_method_3_code_8 : decode method_3_code 8 = .ok (.istore 5, 2) := by decide +kernel
theorem d_method_3_code_10 : decode method_3_code 10 = .ok (.iload 5, 2) := by decide +kernel
theorem d_method_3_code_12 : decode method_3_code 12 = .ok (.bipush 10, 2) := by decide +kernel
theorem d_method_3_code_14 : decode method_3_code 14 = .ok (.if_icmp .ge 10, 3) := by decide +kernel
theorem d_method_3_code_17 : decode method_3_code 17 = .ok (.bipush 48, 2) := by decide +kernel
theorem d_method_3_code_19 : decode method_3_code 19 = .ok (.iload 5, 2) := by decide +kernel
theorem d_method_3_code_21 : decode method_3_code 21 = .ok (.iadd, 1) := by decide +kernel
theorem d_method_3_code_22 : decode method_3_code 22 = .ok (.i2c, 1) := by decide +kernel
theorem d_method_3_code_23 : decode method_3_code 23 = .ok (.ireturn, 1) := by decide +kernel
theorem d_method_3_code_24 : decode method_3_code 24 = .ok (.iload_n 3, 1) := by decide +kernel
theorem d_method_3_code_25 : decode method_3_code 25 = .ok (.iload 4, 2) := by decide +kernel
theorem d_method_3_code_27 : decode method_3_code 27 = .ok (.iushr, 1) := by decide +kernel
theorem d_method_3_code_28 : decode method_3_code 28 = .ok (.iconst 1, 1) := by decide +kernel
theorem d_method_3_code_29 : decode method_3_code 29 = .ok (.iand, 1) := by decide +kernel
theorem d_method_3_code_30 : decode method_3_code 30 = .ok (.ifCond .eq 13, 3) := by decide +kernel
theorem d_method_3_code_43 : decode method_3_code 43 = .ok (.bipush 97, 2) := by decide +kernel
theorem d_method_3_code_45 : decode method_3_code 45 = .ok (.iload 5, 2) := by decide +kernel
theorem d_method_3_code_47 : decode method_3_code 47 = .ok (.bipush 10, 2) := by decide +kernel
theorem d_method_3_code_49 : decode method_3_code 49 = .ok (.isub, 1) := by decide +kernel
theorem d_method_3_code_50 : decode method_3_code 50 = .ok (.iadd, 1) := by decide +kernel
theorem d_method_3_code_51 : decode method_3_code 51 = .ok (.i2c, 1) := by decide +kernel
theorem d_method_3_code_52 : decode method_3_code 52 = .ok (.ireturn, 1) := by decide +kernel
theorem d_method_3_code_33 : decode method_3_code 33 = .ok (.bipush 65, 2) := by decide +kernel
theorem d_method_3_code_35 : decode method_3_code 35 = .ok (.iload 5, 2) := by decide +kernel
theorem d_method_3_code_37 : decode method_3_code 37 = .ok (.bipush 10, 2) := by decide +kernel
theorem d_method_3_code_39 : decode method_3_code 39 = .ok (.isub, 1) := by decide +kernel
theorem d_method_3_code_40 : decode method_3_code 40 = .ok (.iadd, 1) := by decide +kernel
theorem d_method_3_code_41 : decode method_3_code 41 = .ok (.i2c, 1) := by decide +kernel
theorem d_method_3_code_42 : decode method_3_code 42 = .ok (.ireturn, 1) := by decide +kernel
theorem ef_0 (m : MethodId) (x0 : Int64) (x1 : Int32) (x2 : Int32) (x3 : Int32) : entryFrame m #[(.long x0), (.int x1), (.int x2), (.int x3)] 6 = mkF m 0 #[.val (.long x0), .second, .val (.int x1), .val (.int x2), .val (.int x3), .unset] [] := by first | (simp [entryFrame, mkF, argsToLocals, Value.category]; done) | rfl
theorem pn_0 : plainName "com/example/lungfish/lungfish/message/MessageHashParsePinLaw" = true := by first | (simp [plainName, overriddenIn]; done) | decide +kernel
def Q_digit (Z : State) (xj : Int64) (sh : Int32) (ub : Int32) (ix : Int32) (h0 : Heap) (n0 : Nat) (v : Option Value) (h : Heap) (L : List Loc) : Prop := ∃ (rv : Int32), (v = some (.int rv)) ∧ (Fr n0 L) ∧ (h = h0) ∧ (own_H rv (own_nib xj sh))
set_option maxRecDepth 65536 in
set_option maxHeartbeats 40000000 in
theorem rm_digit (l : Launch) (Z : State) (a0 : Array Value) (hw : ∀ d ∈ tables_1, d.before a0 Z = true) (ws : List Jvm.Cond) (xj : Int64) (sh : Int32) (ub : Int32) (ix : Int32) (h0 : Heap) (n0 : Nat) (Z0 : n0 ≤ h0.size) :
    MetFree l (⟨"com/example/lungfish/lungfish/message/MessageHashParsePinLaw", "digit", "(JIII)C"⟩ : MethodName) (head1 (Jvm.Cond.code (⟨"com/example/lungfish/lungfish/message/MessageHashParsePinLaw", "digit", "(JIII)C"⟩ : MethodName) method_3_code 6 (some .char) :: ws) ({ frames := 0, cells := 0, slots := 0, locals := 0 } : Room)) (fun a₁ U₁ => a₁ = #[(.long xj), (.int sh), (.int ub), (.int ix)] ∧ Z.Warmed39 U₁.vm ∧ U₁.heap = h0) (fun _ _ _ _ _ => True) (fun _ U₁ o₁ U₂ => ∃ v₁ L₁, o₁ = .returned v₁ ∧ Q_digit Z xj sh ub ix h0 n0 v₁ U₂.heap L₁ ∧ FrameEnd U₁ o₁ U₂ L₁ ({ frames := 0, cells := 0, slots := 0, locals := 0 } : Room).cells ({ frames := 0, cells := 0, slots := 0, locals := 0 } : Room).slots) := by
  refine MetFree.of_bodySF (plainFor_of_name pn_0) hisR ?_
  intro p e s m args below meth c s₁ Bd hml0 hP hK
  obtain ⟨rfl, hZ, hh⟩ := hP
  have hx := Bd.exec
  have hby := Bd.bytes
  have hml : c.maxLocals = 6 := hml0
  have hown : s.vm.findClass "com/example/lungfish/lungfish/message/MessageHashParsePinLaw" = some m.cls := findClass_of_methodNamed Bd.named
  have hnm := (name_of_methodNamed Bd.named Bd.method).1
  have X0 : Stand p l e ({ frames := 0, cells := 0, slots := 0, locals := 0 } : Room) s m #[(.long xj), (.int sh), (.int ub), (.int ix)] below meth c s₁ [] 0 0 := Stand.of_body Bd
  have e0 : s₁.heap = h0 := by rw [← hh, Bd.state]; rfl
  have N0 := Fr.nil n0
  have pre0 : ∀ t, Steps p.tables e below (s₁.setTop (mkF m 0 #[.val (.long xj), .second, .val (.int sh), .val (.int ub), .val (.int ix), .unset] [])) t → Steps p.tables e below (s₁.setTop (entryFrame m #[(.long xj), (.int sh), (.int ub), (.int ix)] 6)) t := fun t k => castTop (ef_0 m xj sh ub ix) k
  have pre301 : ∀ t, Steps p.tables e below (s₁.setTop (mkF m 10 #[.val (.long xj), .second, .val (.int sh), .val (.int ub), .val (.int ix), .val (.int ((((xj.toUInt64 >>> (sh &&& 0x3f).toInt64.toUInt64).toInt64) &&& (15 : Int64)).toInt32))] [])) t → Steps p.tables e below (s₁.setTop (entryFrame m #[(.long xj), (.int sh), (.int ub), (.int ix)] 6)) t := fun t kk => pre0 t (by
    refine XS.lloadN X0.here hx rfl (hb hby d_method_3_code_0) rfl ?_
    show Steps p.tables e below (s₁.setTop (mkF m 1 #[.val (.long xj), .second, .val (.int sh), .val (.int ub), .val (.int ix), .unset] [(.long xj)])) _
    refine XS.iloadN X0.here hx rfl (hb hby d_method_3_code_1) rfl ?_
    show Steps p.tables e below (s₁.setTop (mkF m 2 #[.val (.long xj), .second, .val (.int sh), .val (.int ub), .val (.int ix), .unset] [(.int sh), (.long xj)])) _
    refine XS.lushr X0.here hx rfl (hb hby d_method_3_code_2) rfl ?_
    show Steps p.tables e below (s₁.setTop (mkF m 3 #[.val (.long xj), .second, .val (.int sh), .val (.int ub), .val (.int ix), .unset] [(.long ((xj.toUInt64 >>> (sh &&& 0x3f).toInt64.toUInt64).toInt64))])) _
    refine X0.ldc2Long hx hown (mvT hZ (hw _ (List.mem_of_getElem? (i := 9) rfl))) (g := (mkF m 3 #[.val (.long xj), .second, .val (.int sh), .val (.int ub), .val (.int ix), .unset] [(.long ((xj.toUInt64 >>> (sh &&& 0x3f).toInt64.toUInt64).toInt64))])) rfl (hb hby d_method_3_code_3) _ ?_
    show Steps p.tables e below (s₁.setTop (mkF m 6 #[.val (.long xj), .second, .val (.int sh), .val (.int ub), .val (.int ix), .unset] [(.long (15 : Int64)), (.long ((xj.toUInt64 >>> (sh &&& 0x3f).toInt64.toUInt64).toInt64))])) _
    refine XS.land X0.here hx rfl (hb hby d_method_3_code_6) rfl ?_
    show Steps p.tables e below (s₁.setTop (mkF m 7 #[.val (.long xj), .second, .val (.int sh), .val (.int ub), .val (.int ix), .unset] [(.long (((xj.toUInt64 >>> (sh &&& 0x3f).toInt64.toUInt64).toInt64) &&& (15 : Int64)))])) _
    refine XS.l2i X0.here hx rfl (hb hby d_method_3_code_7) rfl ?_
    show Steps p.tables e below (s₁.setTop (mkF m 8 #[.val (.long xj), .second, .val (.int sh), .val (.int ub), .val (.int ix), .unset] [(.int ((((xj.toUInt64 >>> (sh &&& 0x3f).toInt64.toUInt64).toInt64) &&& (15 : Int64)).toInt32))])) _
    refine XS.istore X0.here hx rfl (hb hby d_method_3_code_8) rfl (l' := #[.val (.long xj), .second, .val (.int sh), .val (.int ub), .val (.int ix), .val (.int ((((xj.toUInt64 >>> (sh &&& 0x3f).toInt64.toUInt64).toInt64) &&& (15 : Int64)).toInt32))]) rfl ?_
    show Steps p.tables e below (s₁.setTop (mkF m 10 #[.val (.long xj), .second, .val (.int sh), .val (.int ub), .val (.int ix), .val (.int ((((xj.toUInt64 >>> (sh &&& 0x3f).toInt64.toUInt64).toInt64) &&& (15 : Int64)).toInt32))] [])) _
    exact kk)
  obtain ⟨nb, h_nb, hb_nb⟩ : ∃ nb : Nat, ((((xj.toUInt64 >>> (sh &&& 0x3f).toInt64.toUInt64).toInt64) &&& (15 : Int64)).toInt32) = Int32.ofNat nb ∧ (nb < 16) := own_nibr xj sh
  rw [h_nb] at pre301
  have hnb : own_nib xj sh = Int32.ofNat nb := h_nb
  have pre303 : ∀ t, Steps p.tables e below (s₁.setTop (mkF m 14 #[.val (.long xj), .second, .val (.int sh), .val (.int ub), .val (.int ix), .val (.int (Int32.ofNat nb))] [(.int (10 : Int32)), (.int (Int32.ofNat nb))])) t → Steps p.tables e below (s₁.setTop (entryFrame m #[(.long xj), (.int sh), (.int ub), (.int ix)] 6)) t := fun t kk => pre301 t (by
    refine XS.iload X0.here hx rfl (hb hby d_method_3_code_10) rfl ?_
    show Steps p.tables e below (s₁.setTop (mkF m 12 #[.val (.long xj), .second, .val (.int sh), .val (.int ub), .val (.int ix), .val (.int (Int32.ofNat nb))] [(.int (Int32.ofNat nb))])) _
    refine XS.bipush X0.here hx rfl (hb hby d_method_3_code_12) ?_
    show Steps p.tables e below (s₁.setTop (mkF m 14 #[.val (.long xj), .second, .val (.int sh), .val (.int ub), .val (.int ix), .val (.int (Int32.ofNat nb))] [(.int (10 : Int32)), (.int (Int32.ofNat nb))])) _
    exact kk)
  by_cases g : nb < 10
  · obtain ⟨fs, hr, hrun, hended, hW, hsame⟩ := X0.leave (v := some (.int (((48 : Int32) + (Int32.ofNat nb)).toUInt32.toUInt16.toUInt32.toInt32))) (fun h => by rw [Bd.returns] at h; cases h)
    refine ⟨_, _, pre303 _ ?_, hrun, hended, _, _, rfl, ?_, ⟨_, rfl⟩, hW, hsame.mono (by decide) (by decide)⟩
    · refine XS.icmpNo X0.here hx rfl (hb hby d_method_3_code_14) rfl (tlt ((own_inb (n := 10) g (by omega)).2 : (Int32.ofNat nb) < (10 : Int32))).2.1 ?_
      show Steps p.tables e below (s₁.setTop (mkF m 17 #[.val (.long xj), .second, .val (.int sh), .val (.int ub), .val (.int ix), .val (.int (Int32.ofNat nb))] [])) _
      refine XS.bipush X0.here hx rfl (hb hby d_method_3_code_17) ?_
      show Steps p.tables e below (s₁.setTop (mkF m 19 #[.val (.long xj), .second, .val (.int sh), .val (.int ub), .val (.int ix), .val (.int (Int32.ofNat nb))] [(.int (48 : Int32))])) _
      refine XS.iload X0.here hx rfl (hb hby d_method_3_code_19) rfl ?_
      show Steps p.tables e below (s₁.setTop (mkF m 21 #[.val (.long xj), .second, .val (.int sh), .val (.int ub), .val (.int ix), .val (.int (Int32.ofNat nb))] [(.int (Int32.ofNat nb)), (.int (48 : Int32))])) _
      refine XS.iadd X0.here hx rfl (hb hby d_method_3_code_21) rfl ?_
      show Steps p.tables e below (s₁.setTop (mkF m 22 #[.val (.long xj), .second, .val (.int sh), .val (.int ub), .val (.int ix), .val (.int (Int32.ofNat nb))] [(.int ((48 : Int32) + (Int32.ofNat nb)))])) _
      refine XS.i2c X0.here hx rfl (hb hby d_method_3_code_22) rfl ?_
      show Steps p.tables e below (s₁.setTop (mkF m 23 #[.val (.long xj), .second, .val (.int sh), .val (.int ub), .val (.int ix), .val (.int (Int32.ofNat nb))] [(.int (((48 : Int32) + (Int32.ofNat nb)).toUInt32.toUInt16.toUInt32.toInt32))])) _
      exact retN X0 hx (t := .char) Bd.returns (by simp) (hb hby d_method_3_code_23) (by rw [(own_dA ⟨nb, g⟩).1]; exact hr)
    · show Q_digit Z xj sh ub ix h0 n0 _ s₁.heap _
      rw [e0]
      exact ⟨(((48 : Int32) + (Int32.ofNat nb)).toUInt32.toUInt16.toUInt32.toInt32), rfl, N0, rfl, (by rw [hnb]; exact own_dA ⟨nb, g⟩)⟩
  · obtain ⟨q, hq⟩ : ∃ q, nb = 10 + q := ⟨nb - 10, by omega⟩
    subst hq
    have pre304 : ∀ t, Steps p.tables e below (s₁.setTop (mkF m 30 #[.val (.long xj), .second, .val (.int sh), .val (.int ub), .val (.int ix), .val (.int (Int32.ofNat (10 + q)))] [(.int (((ub.toUInt32 >>> (ix &&& 31).toUInt32).toInt32) &&& (1 : Int32)))])) t → Steps p.tables e below (s₁.setTop (entryFrame m #[(.long xj), (.int sh), (.int ub), (.int ix)] 6)) t := fun t kk => pre303 t (by
      refine XS.icmpYes X0.here hx rfl (pc0 := 14) (pc' := 24) rfl (hb hby d_method_3_code_14) rfl (flt ((own_nlt (n := 10) (by omega) (by omega)) : ¬ ((Int32.ofNat (10 + q)) < (10 : Int32)))).2.1 (by decide) (by decide) ?_
      show Steps p.tables e below (s₁.setTop (mkF m 24 #[.val (.long xj), .second, .val (.int sh), .val (.int ub), .val (.int ix), .val (.int (Int32.ofNat (10 + q)))] [])) _
      refine XS.iloadN X0.here hx rfl (hb hby d_method_3_code_24) rfl ?_
      show Steps p.tables e below (s₁.setTop (mkF m 25 #[.val (.long xj), .second, .val (.int sh), .val (.int ub), .val (.int ix), .val (.int (Int32.ofNat (10 + q)))] [(.int ub)])) _
      refine XS.iload X0.here hx rfl (hb hby d_method_3_code_25) rfl ?_
      show Steps p.tables e below (s₁.setTop (mkF m 27 #[.val (.long xj), .second, .val (.int sh), .val (.int ub), .val (.int ix), .val (.int (Int32.ofNat (10 + q)))] [(.int ix), (.int ub)])) _
      refine XS.iushr X0.here hx rfl (hb hby d_method_3_code_27) rfl ?_
      show Steps p.tables e below (s₁.setTop (mkF m 28 #[.val (.long xj), .second, .val (.int sh), .val (.int ub), .val (.int ix), .val (.int (Int32.ofNat (10 + q)))] [(.int ((ub.toUInt32 >>> (ix &&& 31).toUInt32).toInt32))])) _
      refine XS.iconst X0.here hx rfl (hb hby d_method_3_code_28) ?_
      show Steps p.tables e below (s₁.setTop (mkF m 29 #[.val (.long xj), .second, .val (.int sh), .val (.int ub), .val (.int ix), .val (.int (Int32.ofNat (10 + q)))] [(.int (1 : Int32)), (.int ((ub.toUInt32 >>> (ix &&& 31).toUInt32).toInt32))])) _
      refine XS.iand X0.here hx rfl (hb hby d_method_3_code_29) rfl ?_
      show Steps p.tables e below (s₁.setTop (mkF m 30 #[.val (.long xj), .second, .val (.int sh), .val (.int ub), .val (.int ix), .val (.int (Int32.ofNat (10 + q)))] [(.int (((ub.toUInt32 >>> (ix &&& 31).toUInt32).toInt32) &&& (1 : Int32)))])) _
      exact kk)
    obtain ⟨bt, h_bt⟩ : ∃ z, z = (((ub.toUInt32 >>> (ix &&& 31).toUInt32).toInt32) &&& (1 : Int32)) := ⟨_, rfl⟩
    rw [← h_bt] at pre304
    by_cases hbt : bt = (0 : Int32)
    · obtain ⟨fs, hr, hrun, hended, hW, hsame⟩ := X0.leave (v := some (.int (((97 : Int32) + ((Int32.ofNat (10 + q)) - (10 : Int32))).toUInt32.toUInt16.toUInt32.toInt32))) (fun h => by rw [Bd.returns] at h; cases h)
      refine ⟨_, _, pre304 _ ?_, hrun, hended, _, _, rfl, ?_, ⟨_, rfl⟩, hW, hsame.mono (by decide) (by decide)⟩
      · refine XS.ifYes X0.here hx rfl (pc0 := 30) (pc' := 43) rfl (hb hby d_method_3_code_30) rfl ((if0 _ _).trans (teq (hbt : bt = (0 : Int32))).1) (by decide) (by decide) ?_
        show Steps p.tables e below (s₁.setTop (mkF m 43 #[.val (.long xj), .second, .val (.int sh), .val (.int ub), .val (.int ix), .val (.int (Int32.ofNat (10 + q)))] [])) _
        refine XS.bipush X0.here hx rfl (hb hby d_method_3_code_43) ?_
        show Steps p.tables e below (s₁.setTop (mkF m 45 #[.val (.long xj), .second, .val (.int sh), .val (.int ub), .val (.int ix), .val (.int (Int32.ofNat (10 + q)))] [(.int (97 : Int32))])) _
        refine XS.iload X0.here hx rfl (hb hby d_method_3_code_45) rfl ?_
        show Steps p.tables e below (s₁.setTop (mkF m 47 #[.val (.long xj), .second, .val (.int sh), .val (.int ub), .val (.int ix), .val (.int (Int32.ofNat (10 + q)))] [(.int (Int32.ofNat (10 + q))), (.int (97 : Int32))])) _
        refine XS.bipush X0.here hx rfl (hb hby d_method_3_code_47) ?_
        show Steps p.tables e below (s₁.setTop (mkF m 49 #[.val (.long xj), .second, .val (.int sh), .val (.int ub), .val (.int ix), .val (.int (Int32.ofNat (10 + q)))] [(.int (10 : Int32)), (.int (Int32.ofNat (10 + q))), (.int (97 : Int32))])) _
        refine XS.isub X0.here hx rfl (hb hby d_method_3_code_49) rfl ?_
        show Steps p.tables e below (s₁.setTop (mkF m 50 #[.val (.long xj), .second, .val (.int sh), .val (.int ub), .val (.int ix), .val (.int (Int32.ofNat (10 + q)))] [(.int ((Int32.ofNat (10 + q)) - (10 : Int32))), (.int (97 : Int32))])) _
        refine XS.iadd X0.here hx rfl (hb hby d_method_3_code_50) rfl ?_
        show Steps p.tables e below (s₁.setTop (mkF m 51 #[.val (.long xj), .second, .val (.int sh), .val (.int ub), .val (.int ix), .val (.int (Int32.ofNat (10 + q)))] [(.int ((97 : Int32) + ((Int32.ofNat (10 + q)) - (10 : Int32))))])) _
        refine XS.i2c X0.here hx rfl (hb hby d_method_3_code_51) rfl ?_
        show Steps p.tables e below (s₁.setTop (mkF m 52 #[.val (.long xj), .second, .val (.int sh), .val (.int ub), .val (.int ix), .val (.int (Int32.ofNat (10 + q)))] [(.int (((97 : Int32) + ((Int32.ofNat (10 + q)) - (10 : Int32))).toUInt32.toUInt16.toUInt32.toInt32))])) _
        exact retN X0 hx (t := .char) Bd.returns (by simp) (hb hby d_method_3_code_52) (by rw [(own_dC ⟨q, by omega⟩).1]; exact hr)
      · show Q_digit Z xj sh ub ix h0 n0 _ s₁.heap _
        rw [e0]
        exact ⟨(((97 : Int32) + ((Int32.ofNat (10 + q)) - (10 : Int32))).toUInt32.toUInt16.toUInt32.toInt32), rfl, N0, rfl, (by rw [hnb]; exact own_dC ⟨q, by omega⟩)⟩
    · obtain ⟨fs, hr, hrun, hended, hW, hsame⟩ := X0.leave (v := some (.int (((65 : Int32) + ((Int32.ofNat (10 + q)) - (10 : Int32))).toUInt32.toUInt16.toUInt32.toInt32))) (fun h => by rw [Bd.returns] at h; cases h)
      refine ⟨_, _, pre304 _ ?_, hrun, hended, _, _, rfl, ?_, ⟨_, rfl⟩, hW, hsame.mono (by decide) (by decide)⟩
      · refine XS.ifNo X0.here hx rfl (hb hby d_method_3_code_30) rfl ((if0 _ _).trans (feq (hbt : ¬ (bt = (0 : Int32)))).1) ?_
        show Steps p.tables e below (s₁.setTop (mkF m 33 #[.val (.long xj), .second, .val (.int sh), .val (.int ub), .val (.int ix), .val (.int (Int32.ofNat (10 + q)))] [])) _
        refine XS.bipush X0.here hx rfl (hb hby d_method_3_code_33) ?_
        show Steps p.tables e below (s₁.setTop (mkF m 35 #[.val (.long xj), .second, .val (.int sh), .val (.int ub), .val (.int ix), .val (.int (Int32.ofNat (10 + q)))] [(.int (65 : Int32))])) _
        refine XS.iload X0.here hx rfl (hb hby d_method_3_code_35) rfl ?_
        show Steps p.tables e below (s₁.setTop (mkF m 37 #[.val (.long xj), .second, .val (.int sh), .val (.int ub), .val (.int ix), .val (.int (Int32.ofNat (10 + q)))] [(.int (Int32.ofNat (10 + q))), (.int (65 : Int32))])) _
        refine XS.bipush X0.here hx rfl (hb hby d_method_3_code_37) ?_
        show Steps p.tables e below (s₁.setTop (mkF m 39 #[.val (.long xj), .second, .val (.int sh), .val (.int ub), .val (.int ix), .val (.int (Int32.ofNat (10 + q)))] [(.int (10 : Int32)), (.int (Int32.ofNat (10 + q))), (.int (65 : Int32))])) _
        refine XS.isub X0.here hx rfl (hb hby d_method_3_code_39) rfl ?_
        show Steps p.tables e below (s₁.setTop (mkF m 40 #[.val (.long xj), .second, .val (.int sh), .val (.int ub), .val (.int ix), .val (.int (Int32.ofNat (10 + q)))] [(.int ((Int32.ofNat (10 + q)) - (10 : Int32))), (.int (65 : Int32))])) _
        refine XS.iadd X0.here hx rfl (hb hby d_method_3_code_40) rfl ?_
        show Steps p.tables e below (s₁.setTop (mkF m 41 #[.val (.long xj), .second, .val (.int sh), .val (.int ub), .val (.int ix), .val (.int (Int32.ofNat (10 + q)))] [(.int ((65 : Int32) + ((Int32.ofNat (10 + q)) - (10 : Int32))))])) _
        refine XS.i2c X0.here hx rfl (hb hby d_method_3_code_41) rfl ?_
        show Steps p.tables e below (s₁.setTop (mkF m 42 #[.val (.long xj), .second, .val (.int sh), .val (.int ub), .val (.int ix), .val (.int (Int32.ofNat (10 + q)))] [(.int (((65 : Int32) + ((Int32.ofNat (10 + q)) - (10 : Int32))).toUInt32.toUInt16.toUInt32.toInt32))])) _
        exact retN X0 hx (t := .char) Bd.returns (by simp) (hb hby d_method_3_code_42) (by rw [(own_dB ⟨q, by omega⟩).1]; exact hr)
      · show Q_digit Z xj sh ub ix h0 n0 _ s₁.heap _
        rw [e0]
        exact ⟨(((65 : Int32) + ((Int32.ofNat (10 + q)) - (10 : Int32))).toUInt32.toUInt16.toUInt32.toInt32), rfl, N0, rfl, (by rw [hnb]; exact own_dB ⟨q, by omega⟩)⟩
theorem d_method_4_code_0 : decode method_4_code 0 = .ok (.aload_n 0, 1) := by decide +kernel
theorem d_method_4_code_1 : decode method_4_code 1 = .ok (.iload_n 1, 1) := by decide +kernel
theorem d_method_4_code_2 : decode method_4_code 2 = .ok (.lload_n 2, 1) := by decide +kernel
theorem d_method_4_code_3 : decode method_4_code 3 = .ok (.bipush 60, 2) := by decide +kernel
theorem d_method_4_code_5 : decode method_4_code 5 = .ok (.iload 4, 2) := by decide +kernel
theorem d_method_4_code_7 : decode method_4_code 7 = .ok (.iconst 0, 1) := by decide +kernel
theorem d_method_4_code_8 : decode method_4_code 8 = .ok (.invokestatic 36, 3) := by decide +kernel
theorem pd_0 : parseMethodDescriptor "(JIII)C" = some ⟨[.long, .int, .int, .int], some .char⟩ := by decide +kernel
theorem d_method_4_code_11 : decode method_4_code 11 = .ok (.castore, 1) := by decide +kernel
theorem d_method_4_code_12 : decode method_4_code 12 = .ok (.aload_n 0, 1) := by decide +kernel
theorem d_method_4_code_13 : decode method_4_code 13 = .ok (.iload_n 1, 1) := by decide +kernel
theorem d_method_4_code_14 : decode method_4_code 14 = .ok (.iconst 1, 1) := by decide +kernel
theorem d_method_4_code_15 : decode method_4_code 15 = .ok (.iadd, 1) := by decide +kernel
theorem d_method_4_code_16 : decode method_4_code 16 = .ok (.lload_n 2, 1) := by decide +kernel
theorem d_method_4_code_17 : decode method_4_code 17 = .ok (.bipush 56, 2) := by decide +kernel
theorem d_method_4_code_19 : decode method_4_code 19 = .ok (.iload 4, 2) := by decide +kernel
theorem d_method_4_code_21 : decode method_4_code 21 = .ok (.iconst 1, 1) := by decide +kernel
theorem d_method_4_code_22 : decode method_4_code 22 = .ok (.invokestatic 36, 3) := by decide +kernel
theorem d_method_4_code_25 : decode method_4_code 25 = .ok (.castore, 1) := by decide +kernel
theorem d_method_4_code_26 : decode method_4_code 26 = .ok (.aload_n 0, 1) := by decide +kernel
theorem d_method_4_code_27 : decode method_4_code 27 = .ok (.iload_n 1, 1) := by decide +kernel
theorem d_method_4_code_28 : decode method_4_code 28 = .ok (.iconst 2, 1) := by decide +kernel
theorem d_method_4_code_29 : decode method_4_code 29 = .ok (.iadd, 1) := by decide +kernel
theorem d_method_4_code_30 : decode method_4_code 30 = .ok (.lload_n 2, 1) := by decide +kernel
theorem d_method_4_code_31 : decode method_4_code 31 = .ok (.bipush 52, 2) := by decide +kernel
theorem d_method_4_code_33 : decode method_4_code 33 = .ok (.iload 4, 2) := by decide +kernel
theorem d_method_4_code_35 : decode method_4_code 35 = .ok (.iconst 2, 1) := by decide +kernel
theorem d_method_4_code_36 : decode method_4_code 36 = .ok (.invokestatic 36, 3) := by decide +kernel
theorem d_method_4_code_39 : decode method_4_code 39 = .ok (.castore, 1) := by decide +kernel
theorem d_method_4_code_40 : decode method_4_code 40 = .ok (.aload_n 0, 1) := by decide +kernel
theorem d_method_4_code_41 : decode method_4_code 41 = .ok (.iload_n 1, 1) := by decide +kernel
theorem d_method_4_code_42 : decode method_4_code 42 = .ok (.iconst 3, 1) := by decide +kernel
theorem d_method_4_code_43 : decode method_4_code 43 = .ok (.iadd, 1) := by decide +kernel
theorem d_method_4_code_44 : decode method_4_code 44 = .ok (.lload_n 2, 1) := by decide +kernel
theorem d_method_4_code_45 : decode method_4_code 45 = .ok (.bipush 48, 2) := by decide +kernel
theorem d_method_4_code_47 : decode method_4_code 47 = .ok (.iload 4, 2) := by decide +kernel
theorem d_method_4_code_49 : decode method_4_code 49 = .ok (.iconst 3, 1) := by decide +kernel
theorem d_method_4_code_50 : decode method_4_code 50 = .ok (.invokestatic 36, 3) := by decide +kernel
theorem d_method_4_code_53 : decode method_4_code 53 = .ok (.castore, 1) := by decide +kernel
theorem d_method_4_code_54 : decode method_4_code 54 = .ok (.aload_n 0, 1) := by decide +kernel
theorem d_method_4_code_55 : decode method_4_code 55 = .ok (.iload_n 1, 1) := by decide +kernel
theorem d_method_4_code_56 : decode method_4_code 56 = .ok (.iconst 4, 1) := by decide +kernel
theorem d_method_4_code_57 : decode method_4_code 57 = .ok (.iadd, 1) := by decide +kernel
theorem d_method_4_code_58 : decode method_4_code 58 = .ok (.lload_n 2, 1) := by decide +kernel
theorem d_method_4_code_59 : decode method_4_code 59 = .ok (.bipush 44, 2) := by decide +kernel
theorem d_method_4_code_61 : decode method_4_code 61 = .ok (.iload 4, 2) := by decide +kernel
theorem d_method_4_code_63 : decode method_4_code 63 = .ok (.iconst 4, 1) := by decide +kernel
theorem d_method_4_code_64 : decode method_4_code 64 = .ok (.invokestatic 36, 3) := by decide +kernel
theorem d_method_4_code_67 : decode method_4_code 67 = .ok (.castore, 1) := by decide +kernel
theorem d_method_4_code_68 : decode method_4_code 68 = .ok (.aload_n 0, 1) := by decide +kernel
theorem d_method_4_code_69 : decode method_4_code 69 = .ok (.iload_n 1, 1) := by decide +kernel
theorem d_method_4_code_70 : decode method_4_code 70 = .ok (.iconst 5, 1) := by decide +kernel
theorem d_method_4_code_71 : decode method_4_code 71 = .ok (.iadd, 1) := by decide +kernel
theorem d_method_4_code_72 : decode method_4_code 72 = .ok (.lload_n 2, 1) := by decide +kernel
theorem d_method_4_code_73 : decode method_4_code 73 = .ok (.bipush 40, 2) := by decide +kernel
theorem d_method_4_code_75 : decode method_4_code 75 = .ok (.iload 4, 2) := by decide +kernel
theorem d_method_4_code_77 : decode method_4_code 77 = .ok (.iconst 5, 1) := by decide +kernel
theorem d_method_4_code_78 : decode method_4_code 78 = .ok (.invokestatic 36, 3) := by decide +kernel
theorem d_method_4_code_81 : decode method_4_code 81 = .ok (.castore, 1) := by decide +kernel
theorem d_method_4_code_82 : decode method_4_code 82 = .ok (.aload_n 0, 1) := by decide +kernel
theorem d_method_4_code_83 : decode method_4_code 83 = .ok (.iload_n 1, 1) := by decide +kernel
theorem d_method_4_code_84 : decode method_4_code 84 = .ok (.bipush 6, 2) := by decide +kernel
theorem d_method_4_code_86 : decode method_4_code 86 = .ok (.iadd, 1) := by decide +kernel
theorem d_method_4_code_87 : decode method_4_code 87 = .ok (.lload_n 2, 1) := by decide +kernel
theorem d_method_4_code_88 : decode method_4_code 88 = .ok (.bipush 36, 2) := by decide +kernel
theorem d_method_4_code_90 : decode method_4_code 90 = .ok (.iload 4, 2) := by decide +kernel
theorem d_method_4_code_92 : decode method_4_code 92 = .ok (.bipush 6, 2) := by decide +kernel
theorem d_method_4_code_94 : decode method_4_code 94 = .ok (.invokestatic 36, 3) := by decide +kernel
theorem d_method_4_code_97 : decode method_4_code 97 = .ok (.castore, 1) := by decide +kernel
theorem d_method_4_code_98 : decode method_4_code 98 = .ok (.aload_n 0, 1) := by decide +kernel
theorem d_method_4_code_99 : decode method_4_code 99 = .ok (.iload_n 1, 1) := by decide +kernel
theorem d_method_4_code_100 : decode method_4_code 100 = .ok (.bipush 7, 2) := by decide +kernel
theorem d_method_4_code_102 : decode method_4_code 102 = .ok (.iadd, 1) := by decide +kernel
theorem d_method_4_code_103 : decode method_4_code 103 = .ok (.lload_n 2, 1) := by decide +kernel
theorem d_method_4_code_104 : decode method_4_code 104 = .ok (.bipush 32, 2) := by decide +kernel
theorem d_method_4_code_106 : decode method_4_code 106 = .ok (.iload 4, 2) := by decide +kernel
theorem d_method_4_code_108 : decode method_4_code 108 = .ok (.bipush 7, 2) := by decide +kernel
theorem d_method_4_code_110 : decode method_4_code 110 = .ok (.invokestatic 36, 3) := by decide +kernel
theorem d_method_4_code_113 : decode method_4_code 113 = .ok (.castore, 1) := by decide +kernel
theorem d_method_4_code_114 : decode method_4_code 114 = .ok (.aload_n 0, 1) := by decide +kernel
theorem d_method_4_code_115 : decode method_4_code 115 = .ok (.iload_n 1, 1) := by decide +kernel
theorem d_method_4_code_116 : decode method_4_code 116 = .ok (.bipush 8, 2) := by decide +kernel
theorem d_method_4_code_118 : decode method_4_code 118 = .ok (.iadd, 1) := by decide +kernel
theorem d_method_4_code_119 : decode method_4_code 119 = .ok (.lload_n 2, 1) := by decide +kernel
theorem d_method_4_code_120 : decode method_4_code 120 = .ok (.bipush 28, 2) := by decide +kernel
theorem d_method_4_code_122 : decode method_4_code 122 = .ok (.iload 4, 2) := by decide +kernel
theorem d_method_4_code_124 : decode method_4_code 124 = .ok (.bipush 8, 2) := by decide +kernel
theorem d_method_4_code_126 : decode method_4_code 126 = .ok (.invokestatic 36, 3) := by decide +kernel
theorem d_method_4_code_129 : decode method_4_code 129 = .ok (.castore, 1) := by decide +kernel
theorem d_method_4_code_130 : decode method_4_code 130 = .ok (.aload_n 0, 1) := by decide +kernel
theorem d_method_4_code_131 : decode method_4_code 131 = .ok (.iload_n 1, 1) := by decide +kernel
theorem d_method_4_code_132 : decode method_4_code 132 = .ok (.bipush 9, 2) := by decide +kernel
theorem d_method_4_code_134 : decode method_4_code 134 = .ok (.iadd, 1) := by decide +kernel
theorem d_method_4_code_135 : decode method_4_code 135 = .ok (.lload_n 2, 1) := by decide +kernel
theorem d_method_4_code_136 : decode method_4_code 136 = .ok (.bipush 24, 2) := by decide +kernel
theorem d_method_4_code_138 : decode method_4_code 138 = .ok (.iload 4, 2) := by decide +kernel
theorem d_method_4_code_140 : decode method_4_code 140 = .ok (.bipush 9, 2) := by decide +kernel
theorem d_method_4_code_142 : decode method_4_code 142 = .ok (.invokestatic 36, 3) := by decide +kernel
theorem d_method_4_code_145 : decode method_4_code 145 = .ok (.castore, 1) := by decide +kernel
theorem d_method_4_code_146 : decode method_4_code 146 = .ok (.aload_n 0, 1) := by decide +kernel
theorem d_method_4_code_147 : decode method_4_code 147 = .ok (.iload_n 1, 1) := by decide +kernel
theorem d_method_4_code_148 : decode method_4_code 148 = .ok (.bipush 10, 2) := by decide +kernel
theorem d_method_4_code_150 : decode method_4_code 150 = .ok (.iadd, 1) := by decide +kernel
theorem d_method_4_code_151 : decode method_4_code 151 = .ok (.lload_n 2, 1) := by decide +kernel
theorem d_method_4_code_152 : decode method_4_code 152 = .ok (.bipush 20, 2) := by decide +kernel
theorem d_method_4_code_154 : decode method_4_code 154 = .ok (.iload 4, 2) := by decide +kernel
theorem d_method_4_code_156 : decode method_4_code 156 = .ok (.bipush 10, 2) := by decide +kernel
theorem d_method_4_code_158 : decode method_4_code 158 = .ok (.invokestatic 36, 3) := by decide +kernel
theorem d_method_4_code_161 : decode method_4_code 161 = .ok (.castore, 1) := by decide +kernel
theorem d_method_4_code_162 : decode method_4_code 162 = .ok (.aload_n 0, 1) := by decide +kernel
theorem d_method_4_code_163 : decode method_4_code 163 = .ok (.iload_n 1, 1) := by decide +kernel
theorem d_method_4_code_164 : decode method_4_code 164 = .ok (.bipush 11, 2) := by decide +kernel
theorem d_method_4_code_166 : decode method_4_code 166 = .ok (.iadd, 1) := by decide +kernel
theorem d_method_4_code_167 : decode method_4_code 167 = .ok (.lload_n 2, 1) := by decide +kernel
theorem d_method_4_code_168 : decode method_4_code 168 = .ok (.bipush 16, 2) := by decide +kernel
theorem d_method_4_code_170 : decode method_4_code 170 = .ok (.iload 4, 2) := by decide +kernel
theorem d_method_4_code_172 : decode method_4_code 172 = .ok (.bipush 11, 2) := by decide +kernel
theorem d_method_4_code_174 : decode method_4_code 174 = .ok (.invokestatic 36, 3) := by decide +kernel
theorem d_method_4_code_177 : decode method_4_code 177 = .ok (.castore, 1) := by decide +kernel
theorem d_method_4_code_178 : decode method_4_code 178 = .ok (.aload_n 0, 1) := by decide +kernel
theorem d_method_4_code_179 : decode method_4_code 179 = .ok (.iload_n 1, 1) := by decide +kernel
theorem d_method_4_code_180 : decode method_4_code 180 = .ok (.bipush 12, 2) := by decide +kernel
theorem d_method_4_code_182 : decode method_4_code 182 = .ok (.iadd, 1) := by decide +kernel
theorem d_method_4_code_183 : decode method_4_code 183 = .ok (.lload_n 2, 1) := by decide +kernel
theorem d_method_4_code_184 : decode method_4_code 184 = .ok (.bipush 12, 2) := by decide +kernel
theorem d_method_4_code_186 : decode method_4_code 186 = .ok (.iload 4, 2) := by decide +kernel
theorem d_method_4_code_188 : decode method_4_code 188 = .ok (.bipush 12, 2) := by decide +kernel
theorem d_method_4_code_190 : decode method_4_code 190 = .ok (.invokestatic 36, 3) := by decide +kernel
theorem d_method_4_code_193 : decode method_4_code 193 = .ok (.castore, 1) := by decide +kernel
theorem d_method_4_code_194 : decode method_4_code 194 = .ok (.aload_n 0, 1) := by decide +kernel
theorem d_method_4_code_195 : decode method_4_code 195 = .ok (.iload_n 1, 1) := by decide +kernel
theorem d_method_4_code_196 : decode method_4_code 196 = .ok (.bipush 13, 2) := by decide +kernel
theorem d_method_4_code_198 : decode method_4_code 198 = .ok (.iadd, 1) := by decide +kernel
theorem d_method_4_code_199 : decode method_4_code 199 = .ok (.lload_n 2, 1) := by decide +kernel
theorem d_method_4_code_200 : decode method_4_code 200 = .ok (.bipush 8, 2) := by decide +kernel
theorem d_method_4_code_202 : decode method_4_code 202 = .ok (.iload 4, 2) := by decide +kernel
theorem d_method_4_code_204 : decode method_4_code 204 = .ok (.bipush 13, 2) := by decide +kernel
theorem d_method_4_code_206 : decode method_4_code 206 = .ok (.invokestatic 36, 3) := by decide +kernel
theorem d_method_4_code_209 : decode method_4_code 209 = .ok (.castore, 1) := by decide +kernel
theorem d_method_4_code_210 : decode method_4_code 210 = .ok (.aload_n 0, 1) := by decide +kernel
theorem d_method_4_code_211 : decode method_4_code 211 = .ok (.iload_n 1, 1) := by decide +kernel
theorem d_method_4_code_212 : decode method_4_code 212 = .ok (.bipush 14, 2) := by decide +kernel
theorem d_method_4_code_214 : decode method_4_code 214 = .ok (.iadd, 1) := by decide +kernel
theorem d_method_4_code_215 : decode method_4_code 215 = .ok (.lload_n 2, 1) := by decide +kernel
theorem d_method_4_code_216 : decode method_4_code 216 = .ok (.iconst 4, 1) := by decide +kernel
theorem d_method_4_code_217 : decode method_4_code 217 = .ok (.iload 4, 2) := by decide +kernel
theorem d_method_4_code_219 : decode method_4_code 219 = .ok (.bipush 14, 2) := by decide +kernel
theorem d_method_4_code_221 : decode method_4_code 221 = .ok (.invokestatic 36, 3) := by decide +kernel
theorem d_method_4_code_224 : decode method_4_code 224 = .ok (.castore, 1) := by decide +kernel
theorem d_method_4_code_225 : decode method_4_code 225 = .ok (.aload_n 0, 1) := by decide +kernel
theorem d_method_4_code_226 : decode method_4_code 226 = .ok (.iload_n 1, 1) := by decide +kernel
theorem d_method_4_code_227 : decode method_4_code 227 = .ok (.bipush 15, 2) := by decide +kernel
theorem d_method_4_code_229 : decode method_4_code 229 = .ok (.iadd, 1) := by decide +kernel
theorem d_method_4_code_230 : decode method_4_code 230 = .ok (.lload_n 2, 1) := by decide +kernel
theorem d_method_4_code_231 : decode method_4_code 231 = .ok (.iconst 0, 1) := by decide +kernel
theorem d_method_4_code_232 : decode method_4_code 232 = .ok (.iload 4, 2) := by decide +kernel
theorem d_method_4_code_234 : decode method_4_code 234 = .ok (.bipush 15, 2) := by decide +kernel
theorem d_method_4_code_236 : decode method_4_code 236 = .ok (.invokestatic 36, 3) := by decide +kernel
theorem d_method_4_code_239 : decode method_4_code 239 = .ok (.castore, 1) := by decide +kernel
theorem d_method_4_code_240 : decode method_4_code 240 = .ok (.return_, 1) := by decide +kernel
theorem ef_1 (m : MethodId) (x0 : Addr) (x1 : Int32) (x2 : Int64) (x3 : Int32) : entryFrame m #[(.ref x0), (.int x1), (.long x2), (.int x3)] 5 = mkF m 0 #[.val (.ref x0), .val (.int x1), .val (.long x2), .second, .val (.int x3)] [] := by first | (simp [entryFrame, mkF, argsToLocals, Value.category]; done) | rfl
def Q_put16 (Z : State) (ca : Addr) (oo : Nat) (xj : Int64) (ub : Int32) (kc : ClassId) (cs : List Int32) (h0 : Heap) (n0 : Nat) (v : Option Value) (h : Heap) (L : List Loc) : Prop := ∃ (r0 : Int32) (r1 : Int32) (r2 : Int32) (r3 : Int32) (r4 : Int32) (r5 : Int32) (r6 : Int32) (r7 : Int32) (r8 : Int32) (r9 : Int32) (r10 : Int32) (r11 : Int32) (r12 : Int32) (r13 : Int32) (r14 : Int32) (r15 : Int32), (v = none) ∧ (Fr n0 L) ∧ (Keep h0 h ([ca] : List Addr)) ∧ (Arv Z h ca kc .char (64 : Int32) (((((((((((((((((cs.set oo r0).set (oo + 1) r1).set (oo + 2) r2).set (oo + 3) r3).set (oo + 4) r4).set (oo + 5) r5).set (oo + 6) r6).set (oo + 7) r7).set (oo + 8) r8).set (oo + 9) r9).set (oo + 10) r10).set (oo + 11) r11).set (oo + 12) r12).set (oo + 13) r13).set (oo + 14) r14).set (oo + 15) r15).map Value.int) (.int (0 : Int32))) ∧ (own_H r0 (own_nib xj (60 : Int32))) ∧ (own_H r1 (own_nib xj (56 : Int32))) ∧ (own_H r2 (own_nib xj (52 : Int32))) ∧ (own_H r3 (own_nib xj (48 : Int32))) ∧ (own_H r4 (own_nib xj (44 : Int32))) ∧ (own_H r5 (own_nib xj (40 : Int32))) ∧ (own_H r6 (own_nib xj (36 : Int32))) ∧ (own_H r7 (own_nib xj (32 : Int32))) ∧ (own_H r8 (own_nib xj (28 : Int32))) ∧ (own_H r9 (own_nib xj (24 : Int32))) ∧ (own_H r10 (own_nib xj (20 : Int32))) ∧ (own_H r11 (own_nib xj (16 : Int32))) ∧ (own_H r12 (own_nib xj (12 : Int32))) ∧ (own_H r13 (own_nib xj (8 : Int32))) ∧ (own_H r14 (own_nib xj (4 : Int32))) ∧ (own_H r15 (own_nib xj (0 : Int32)))
set_option maxRecDepth 65536 in
set_option maxHeartbeats 40000000 in
theorem rm_put16 (l : Launch) (Z : State) (a0 : Array Value) (hw : ∀ d ∈ tables_1, d.before a0 Z = true) (ws : List Jvm.Cond) (ca : Addr) (oo : Nat) (xj : Int64) (ub : Int32) (kc : ClassId) (cs : List Int32) (h0 : Heap) (n0 : Nat) (Z0 : n0 ≤ h0.size) (q0 : Arv Z h0 ca kc .char (64 : Int32) (cs.map Value.int) (.int (0 : Int32))) (q1 : n0 ≤ ca) (hcl : cs.length = 64) (hoo : oo + 16 ≤ 64) :
    MetFree l (⟨"com/example/lungfish/lungfish/message/MessageHashParsePinLaw", "put16", "([CIJI)V"⟩ : MethodName) (head1 (Jvm.Cond.code (⟨"com/example/lungfish/lungfish/message/MessageHashParsePinLaw", "put16", "([CIJI)V"⟩ : MethodName) method_4_code 5 none :: ws) ({ frames := 1, cells := 0, slots := 0, locals := 19 } : Room)) (fun a₁ U₁ => a₁ = #[(.ref ca), (.int (Int32.ofNat oo)), (.long xj), (.int ub)] ∧ Z.Warmed39 U₁.vm ∧ U₁.heap = h0) (fun _ _ _ _ _ => True) (fun _ U₁ o₁ U₂ => ∃ v₁ L₁, o₁ = .returned v₁ ∧ Q_put16 Z ca oo xj ub kc cs h0 n0 v₁ U₂.heap L₁ ∧ FrameEnd U₁ o₁ U₂ L₁ ({ frames := 1, cells := 0, slots := 0, locals := 19 } : Room).cells ({ frames := 1, cells := 0, slots := 0, locals := 19 } : Room).slots) := by
  refine MetFree.of_bodySF (plainFor_of_name pn_0) hisR ?_
  intro p e s m args below meth c s₁ Bd hml0 hP hK
  obtain ⟨rfl, hZ, hh⟩ := hP
  have hx := Bd.exec
  have hby := Bd.bytes
  have hml : c.maxLocals = 5 := hml0
  have hown : s.vm.findClass "com/example/lungfish/lungfish/message/MessageHashParsePinLaw" = some m.cls := findClass_of_methodNamed Bd.named
  have hnm := (name_of_methodNamed Bd.named Bd.method).1
  have X0 : Stand p l e ({ frames := 1, cells := 0, slots := 0, locals := 19 } : Room) s m #[(.ref ca), (.int (Int32.ofNat oo)), (.long xj), (.int ub)] below meth c s₁ [] 0 0 := Stand.of_body Bd
  have e0 : s₁.heap = h0 := by rw [← hh, Bd.state]; rfl
  have N0 := Fr.nil n0
  have pre0 : ∀ t, Steps p.tables e below (s₁.setTop (mkF m 0 #[.val (.ref ca), .val (.int (Int32.ofNat oo)), .val (.long xj), .second, .val (.int ub)] [])) t → Steps p.tables e below (s₁.setTop (entryFrame m #[(.ref ca), (.int (Int32.ofNat oo)), (.long xj), (.int ub)] 5)) t := fun t k => castTop (ef_1 m ca (Int32.ofNat oo) xj ub) k
  obtain ⟨_, _, ⟨T301, L301, k301, n301⟩, -, X301, ⟨Lc301, hQ301, l301, y301, z301⟩, st301⟩ := Jvm.LawKit.callS X0 hx (y := (⟨"com/example/lungfish/lungfish/message/MessageHashParsePinLaw", "digit", "(JIII)C"⟩ : MethodName)) hown (mvT hZ (hw _ (List.mem_of_getElem? (i := 6) rfl))) (mvT hZ (hw _ (List.mem_of_getElem? (i := 7) rfl))) (mvT hZ (hw _ (List.mem_of_getElem? (i := 4) rfl))) (mvT hZ (hw _ (List.mem_of_getElem? (i := 8) rfl))) (by decide) (backOf (W := 2) (rm_digit l Z a0 hw [] xj (60 : Int32) ub (0 : Int32) h0 n0 Z0 ) hZ (hw _ (List.mem_of_getElem? (i := 8) rfl)) (hw _ (List.mem_of_getElem? (i := 4) rfl)) (by decide) (by decide)) (g := (mkF m 8 #[.val (.ref ca), .val (.int (Int32.ofNat oo)), .val (.long xj), .second, .val (.int ub)] [(.int (0 : Int32)), (.int ub), (.int (60 : Int32)), (.long xj), (.int (Int32.ofNat oo)), (.ref ca)])) rfl (by rw [hml]; rfl) (argsL := [(.long xj), (.int (60 : Int32)), (.int ub), (.int (0 : Int32))]) (rest := [(.int (Int32.ofNat oo)), (.ref ca)]) (lenOf pd_0 rfl) rfl (by show 2 * 0 + _ ≤ _; exact Nat.le_of_eq rfl) (hb hby d_method_4_code_8) (fun _ _ => ⟨rfl, e0, (by decide : 0 + 0 ≤ _), (by decide : 0 + 0 ≤ _)⟩)
  dsimp only [Pt.U, Pt.locs, Pt.cells, Pt.slots] at X301 l301 y301 z301 st301 hQ301
  replace l301 := l301.symm
  replace y301 := y301.symm
  replace z301 := z301.symm
  subst l301 y301 z301
  obtain ⟨rv_301, rfl, Nq301, e301, f301_0⟩ := hQ301
  have N301 := Fr.app N0 Nq301
  obtain ⟨cl302, Ar302, qq302, S302, M302, Hh302, U302⟩ := id q0
  obtain ⟨T302, h302, X302, e302, W302, st302⟩ := stC X301 hx hZ e301 Ar302 (j := (Int32.ofNat oo)) (inb_of S302 (own_inb (n := 64) (by omega) (by omega))) (g := (mkF m 11 #[.val (.ref ca), .val (.int (Int32.ofNat oo)), .val (.long xj), .second, .val (.int ub)] [(.int rv_301), (.int (Int32.ofNat oo)), (.ref ca)])) rfl rfl (hb hby d_method_4_code_11)
  have N302 := Fr.snoc X302 N301 q1
  have V302 : Arv Z h302 ca kc .char (64 : Int32) ((cs.map Value.int).set oo (.int (nar .char rv_301))) (.int (0 : Int32)) := Arv.set Ar302 qq302 S302 M302 Hh302 U302 (fits_nar_char _) W302 oo (own_clamp (by omega)) (by rw [List.length_map, hcl]; omega)
  have VR302 : Arv Z h302 ca kc .char (64 : Int32) ((cs.map Value.int).set oo (.int rv_301)) (.int (0 : Int32)) := by have q := V302; rw [f301_0.1] at q; exact q
  obtain ⟨u0_, hu0_⟩ : ∃ z : List Int32, z = cs.set oo rv_301 := ⟨_, rfl⟩
  have hlu0_ : u0_.length = 64 := by rw [hu0_, List.length_set]; exact hcl
  have R303 : Arv Z h302 ca kc .char (64 : Int32) (u0_.map Value.int) (.int (0 : Int32)) := by have q := VR302; rw [hu0_, List.map_set]; exact q
  obtain ⟨_, _, ⟨T304, L304, k304, n304⟩, -, X304, ⟨Lc304, hQ304, l304, y304, z304⟩, st304⟩ := Jvm.LawKit.callS X302 hx (y := (⟨"com/example/lungfish/lungfish/message/MessageHashParsePinLaw", "digit", "(JIII)C"⟩ : MethodName)) hown (mvT hZ (hw _ (List.mem_of_getElem? (i := 6) rfl))) (mvT hZ (hw _ (List.mem_of_getElem? (i := 7) rfl))) (mvT hZ (hw _ (List.mem_of_getElem? (i := 4) rfl))) (mvT hZ (hw _ (List.mem_of_getElem? (i := 8) rfl))) (by decide) (backOf (W := 2) (rm_digit l Z a0 hw [] xj (56 : Int32) ub (1 : Int32) h302 n0 (Nat.le_trans Z0 (Keep.of_wr W302).1) ) hZ (hw _ (List.mem_of_getElem? (i := 8) rfl)) (hw _ (List.mem_of_getElem? (i := 4) rfl)) (by decide) (by decide)) (g := (mkF m 22 #[.val (.ref ca), .val (.int (Int32.ofNat oo)), .val (.long xj), .second, .val (.int ub)] [(.int (1 : Int32)), (.int ub), (.int (56 : Int32)), (.long xj), (.int (Int32.ofNat (oo + 1))), (.ref ca)])) rfl (by rw [hml]; rfl) (argsL := [(.long xj), (.int (56 : Int32)), (.int ub), (.int (1 : Int32))]) (rest := [(.int (Int32.ofNat (oo + 1))), (.ref ca)]) (lenOf pd_0 rfl) rfl (by show 2 * 0 + _ ≤ _; exact Nat.le_of_eq rfl) (hb hby d_method_4_code_22) (fun _ _ => ⟨rfl, e302, (by decide : 0 + 0 ≤ _), (by decide : 0 + 0 ≤ _)⟩)
  dsimp only [Pt.U, Pt.locs, Pt.cells, Pt.slots] at X304 l304 y304 z304 st304 hQ304
  replace l304 := l304.symm
  replace y304 := y304.symm
  replace z304 := z304.symm
  subst l304 y304 z304
  obtain ⟨rv_304, rfl, Nq304, e304, f304_0⟩ := hQ304
  have N304 := Fr.app N302 Nq304
  obtain ⟨cl305, Ar305, qq305, S305, M305, Hh305, U305⟩ := id R303
  obtain ⟨T305, h305, X305, e305, W305, st305⟩ := stC X304 hx hZ e304 Ar305 (j := (Int32.ofNat (oo + 1))) (inb_of S305 (own_inb (n := 64) (by omega) (by omega))) (g := (mkF m 25 #[.val (.ref ca), .val (.int (Int32.ofNat oo)), .val (.long xj), .second, .val (.int ub)] [(.int rv_304), (.int (Int32.ofNat (oo + 1))), (.ref ca)])) rfl rfl (hb hby d_method_4_code_25)
  have N305 := Fr.snoc X305 N304 q1
  have V305 : Arv Z h305 ca kc .char (64 : Int32) ((u0_.map Value.int).set (oo + 1) (.int (nar .char rv_304))) (.int (0 : Int32)) := Arv.set Ar305 qq305 S305 M305 Hh305 U305 (fits_nar_char _) W305 (oo + 1) (own_clamp (by omega)) (by rw [List.length_map, hlu0_]; omega)
  have VR305 : Arv Z h305 ca kc .char (64 : Int32) ((u0_.map Value.int).set (oo + 1) (.int rv_304)) (.int (0 : Int32)) := by have q := V305; rw [f304_0.1] at q; exact q
  obtain ⟨u1_, hu1_⟩ : ∃ z : List Int32, z = u0_.set (oo + 1) rv_304 := ⟨_, rfl⟩
  have hlu1_ : u1_.length = 64 := by rw [hu1_, List.length_set]; exact hlu0_
  have R306 : Arv Z h305 ca kc .char (64 : Int32) (u1_.map Value.int) (.int (0 : Int32)) := by have q := VR305; rw [hu1_, List.map_set]; exact q
  obtain ⟨_, _, ⟨T307, L307, k307, n307⟩, -, X307, ⟨Lc307, hQ307, l307, y307, z307⟩, st307⟩ := Jvm.LawKit.callS X305 hx (y := (⟨"com/example/lungfish/lungfish/message/MessageHashParsePinLaw", "digit", "(JIII)C"⟩ : MethodName)) hown (mvT hZ (hw _ (List.mem_of_getElem? (i := 6) rfl))) (mvT hZ (hw _ (List.mem_of_getElem? (i := 7) rfl))) (mvT hZ (hw _ (List.mem_of_getElem? (i := 4) rfl))) (mvT hZ (hw _ (List.mem_of_getElem? (i := 8) rfl))) (by decide) (backOf (W := 2) (rm_digit l Z a0 hw [] xj (52 : Int32) ub (2 : Int32) h305 n0 (Nat.le_trans Z0 (Nat.le_trans (Keep.of_wr W302).1 (Keep.of_wr W305).1)) ) hZ (hw _ (List.mem_of_getElem? (i := 8) rfl)) (hw _ (List.mem_of_getElem? (i := 4) rfl)) (by decide) (by decide)) (g := (mkF m 36 #[.val (.ref ca), .val (.int (Int32.ofNat oo)), .val (.long xj), .second, .val (.int ub)] [(.int (2 : Int32)), (.int ub), (.int (52 : Int32)), (.long xj), (.int (Int32.ofNat (oo + 2))), (.ref ca)])) rfl (by rw [hml]; rfl) (argsL := [(.long xj), (.int (52 : Int32)), (.int ub), (.int (2 : Int32))]) (rest := [(.int (Int32.ofNat (oo + 2))), (.ref ca)]) (lenOf pd_0 rfl) rfl (by show 2 * 0 + _ ≤ _; exact Nat.le_of_eq rfl) (hb hby d_method_4_code_36) (fun _ _ => ⟨rfl, e305, (by decide : 0 + 0 ≤ _), (by decide : 0 + 0 ≤ _)⟩)
  dsimp only [Pt.U, Pt.locs, Pt.cells, Pt.slots] at X307 l307 y307 z307 st307 hQ307
  replace l307 := l307.symm
  replace y307 := y307.symm
  replace z307 := z307.symm
  subst l307 y307 z307
  obtain ⟨rv_307, rfl, Nq307, e307, f307_0⟩ := hQ307
  have N307 := Fr.app N305 Nq307
  obtain ⟨cl308, Ar308, qq308, S308, M308, Hh308, U308⟩ := id R306
  obtain ⟨T308, h308, X308, e308, W308, st308⟩ := stC X307 hx hZ e307 Ar308 (j := (Int32.ofNat (oo + 2))) (inb_of S308 (own_inb (n := 64) (by omega) (by omega))) (g := (mkF m 39 #[.val (.ref ca), .val (.int (Int32.ofNat oo)), .val (.long xj), .second, .val (.int ub)] [(.int rv_307), (.int (Int32.ofNat (oo + 2))), (.ref ca)])) rfl rfl (hb hby d_method_4_code_39)
  have N308 := Fr.snoc X308 N307 q1
  have V308 : Arv Z h308 ca kc .char (64 : Int32) ((u1_.map Value.int).set (oo + 2) (.int (nar .char rv_307))) (.int (0 : Int32)) := Arv.set Ar308 qq308 S308 M308 Hh308 U308 (fits_nar_char _) W308 (oo + 2) (own_clamp (by omega)) (by rw [List.length_map, hlu1_]; omega)
  have VR308 : Arv Z h308 ca kc .char (64 : Int32) ((u1_.map Value.int).set (oo + 2) (.int rv_307)) (.int (0 : Int32)) := by have q := V308; rw [f307_0.1] at q; exact q
  obtain ⟨u2_, hu2_⟩ : ∃ z : List Int32, z = u1_.set (oo + 2) rv_307 := ⟨_, rfl⟩
  have hlu2_ : u2_.length = 64 := by rw [hu2_, List.length_set]; exact hlu1_
  have R309 : Arv Z h308 ca kc .char (64 : Int32) (u2_.map Value.int) (.int (0 : Int32)) := by have q := VR308; rw [hu2_, List.map_set]; exact q
  obtain ⟨_, _, ⟨T310, L310, k310, n310⟩, -, X310, ⟨Lc310, hQ310, l310, y310, z310⟩, st310⟩ := Jvm.LawKit.callS X308 hx (y := (⟨"com/example/lungfish/lungfish/message/MessageHashParsePinLaw", "digit", "(JIII)C"⟩ : MethodName)) hown (mvT hZ (hw _ (List.mem_of_getElem? (i := 6) rfl))) (mvT hZ (hw _ (List.mem_of_getElem? (i := 7) rfl))) (mvT hZ (hw _ (List.mem_of_getElem? (i := 4) rfl))) (mvT hZ (hw _ (List.mem_of_getElem? (i := 8) rfl))) (by decide) (backOf (W := 2) (rm_digit l Z a0 hw [] xj (48 : Int32) ub (3 : Int32) h308 n0 (Nat.le_trans Z0 (Nat.le_trans (Nat.le_trans (Keep.of_wr W302).1 (Keep.of_wr W305).1) (Keep.of_wr W308).1)) ) hZ (hw _ (List.mem_of_getElem? (i := 8) rfl)) (hw _ (List.mem_of_getElem? (i := 4) rfl)) (by decide) (by decide)) (g := (mkF m 50 #[.val (.ref ca), .val (.int (Int32.ofNat oo)), .val (.long xj), .second, .val (.int ub)] [(.int (3 : Int32)), (.int ub), (.int (48 : Int32)), (.long xj), (.int (Int32.ofNat (oo + 3))), (.ref ca)])) rfl (by rw [hml]; rfl) (argsL := [(.long xj), (.int (48 : Int32)), (.int ub), (.int (3 : Int32))]) (rest := [(.int (Int32.ofNat (oo + 3))), (.ref ca)]) (lenOf pd_0 rfl) rfl (by show 2 * 0 + _ ≤ _; exact Nat.le_of_eq rfl) (hb hby d_method_4_code_50) (fun _ _ => ⟨rfl, e308, (by decide : 0 + 0 ≤ _), (by decide : 0 + 0 ≤ _)⟩)
  dsimp only [Pt.U, Pt.locs, Pt.cells, Pt.slots] at X310 l310 y310 z310 st310 hQ310
  replace l310 := l310.symm
  replace y310 := y310.symm
  replace z310 := z310.symm
  subst l310 y310 z310
  obtain ⟨rv_310, rfl, Nq310, e310, f310_0⟩ := hQ310
  have N310 := Fr.app N308 Nq310
  obtain ⟨cl311, Ar311, qq311, S311, M311, Hh311, U311⟩ := id R309
  obtain ⟨T311, h311, X311, e311, W311, st311⟩ := stC X310 hx hZ e310 Ar311 (j := (Int32.ofNat (oo + 3))) (inb_of S311 (own_inb (n := 64) (by omega) (by omega))) (g := (mkF m 53 #[.val (.ref ca), .val (.int (Int32.ofNat oo)), .val (.long xj), .second, .val (.int ub)] [(.int rv_310), (.int (Int32.ofNat (oo + 3))), (.ref ca)])) rfl rfl (hb hby d_method_4_code_53)
  have N311 := Fr.snoc X311 N310 q1
  have V311 : Arv Z h311 ca kc .char (64 : Int32) ((u2_.map Value.int).set (oo + 3) (.int (nar .char rv_310))) (.int (0 : Int32)) := Arv.set Ar311 qq311 S311 M311 Hh311 U311 (fits_nar_char _) W311 (oo + 3) (own_clamp (by omega)) (by rw [List.length_map, hlu2_]; omega)
  have VR311 : Arv Z h311 ca kc .char (64 : Int32) ((u2_.map Value.int).set (oo + 3) (.int rv_310)) (.int (0 : Int32)) := by have q := V311; rw [f310_0.1] at q; exact q
  obtain ⟨u3_, hu3_⟩ : ∃ z : List Int32, z = u2_.set (oo + 3) rv_310 := ⟨_, rfl⟩
  have hlu3_ : u3_.length = 64 := by rw [hu3_, List.length_set]; exact hlu2_
  have R312 : Arv Z h311 ca kc .char (64 : Int32) (u3_.map Value.int) (.int (0 : Int32)) := by have q := VR311; rw [hu3_, List.map_set]; exact q
  obtain ⟨_, _, ⟨T313, L313, k313, n313⟩, -, X313, ⟨Lc313, hQ313, l313, y313, z313⟩, st313⟩ := Jvm.LawKit.callS X311 hx (y := (⟨"com/example/lungfish/lungfish/message/MessageHashParsePinLaw", "digit", "(JIII)C"⟩ : MethodName)) hown (mvT hZ (hw _ (List.mem_of_getElem? (i := 6) rfl))) (mvT hZ (hw _ (List.mem_of_getElem? (i := 7) rfl))) (mvT hZ (hw _ (List.mem_of_getElem? (i := 4) rfl))) (mvT hZ (hw _ (List.mem_of_getElem? (i := 8) rfl))) (by decide) (backOf (W := 2) (rm_digit l Z a0 hw [] xj (44 : Int32) ub (4 : Int32) h311 n0 (Nat.le_trans Z0 (Nat.le_trans (Nat.le_trans (Nat.le_trans (Keep.of_wr W302).1 (Keep.of_wr W305).1) (Keep.of_wr W308).1) (Keep.of_wr W311).1)) ) hZ (hw _ (List.mem_of_getElem? (i := 8) rfl)) (hw _ (List.mem_of_getElem? (i := 4) rfl)) (by decide) (by decide)) (g := (mkF m 64 #[.val (.ref ca), .val (.int (Int32.ofNat oo)), .val (.long xj), .second, .val (.int ub)] [(.int (4 : Int32)), (.int ub), (.int (44 : Int32)), (.long xj), (.int (Int32.ofNat (oo + 4))), (.ref ca)])) rfl (by rw [hml]; rfl) (argsL := [(.long xj), (.int (44 : Int32)), (.int ub), (.int (4 : Int32))]) (rest := [(.int (Int32.ofNat (oo + 4))), (.ref ca)]) (lenOf pd_0 rfl) rfl (by show 2 * 0 + _ ≤ _; exact Nat.le_of_eq rfl) (hb hby d_method_4_code_64) (fun _ _ => ⟨rfl, e311, (by decide : 0 + 0 ≤ _), (by decide : 0 + 0 ≤ _)⟩)
  dsimp only [Pt.U, Pt.locs, Pt.cells, Pt.slots] at X313 l313 y313 z313 st313 hQ313
  replace l313 := l313.symm
  replace y313 := y313.symm
  replace z313 := z313.symm
  subst l313 y313 z313
  obtain ⟨rv_313, rfl, Nq313, e313, f313_0⟩ := hQ313
  have N313 := Fr.app N311 Nq313
  obtain ⟨cl314, Ar314, qq314, S314, M314, Hh314, U314⟩ := id R312
  obtain ⟨T314, h314, X314, e314, W314, st314⟩ := stC X313 hx hZ e313 Ar314 (j := (Int32.ofNat (oo + 4))) (inb_of S314 (own_inb (n := 64) (by omega) (by omega))) (g := (mkF m 67 #[.val (.ref ca), .val (.int (Int32.ofNat oo)), .val (.long xj), .second, .val (.int ub)] [(.int rv_313), (.int (Int32.ofNat (oo + 4))), (.ref ca)])) rfl rfl (hb hby d_method_4_code_67)
  have N314 := Fr.snoc X314 N313 q1
  have V314 : Arv Z h314 ca kc .char (64 : Int32) ((u3_.map Value.int).set (oo + 4) (.int (nar .char rv_313))) (.int (0 : Int32)) := Arv.set Ar314 qq314 S314 M314 Hh314 U314 (fits_nar_char _) W314 (oo + 4) (own_clamp (by omega)) (by rw [List.length_map, hlu3_]; omega)
  have VR314 : Arv Z h314 ca kc .char (64 : Int32) ((u3_.map Value.int).set (oo + 4) (.int rv_313)) (.int (0 : Int32)) := by have q := V314; rw [f313_0.1] at q; exact q
  obtain ⟨u4_, hu4_⟩ : ∃ z : List Int32, z = u3_.set (oo + 4) rv_313 := ⟨_, rfl⟩
  have hlu4_ : u4_.length = 64 := by rw [hu4_, List.length_set]; exact hlu3_
  have R315 : Arv Z h314 ca kc .char (64 : Int32) (u4_.map Value.int) (.int (0 : Int32)) := by have q := VR314; rw [hu4_, List.map_set]; exact q
  obtain ⟨_, _, ⟨T316, L316, k316, n316⟩, -, X316, ⟨Lc316, hQ316, l316, y316, z316⟩, st316⟩ := Jvm.LawKit.callS X314 hx (y := (⟨"com/example/lungfish/lungfish/message/MessageHashParsePinLaw", "digit", "(JIII)C"⟩ : MethodName)) hown (mvT hZ (hw _ (List.mem_of_getElem? (i := 6) rfl))) (mvT hZ (hw _ (List.mem_of_getElem? (i := 7) rfl))) (mvT hZ (hw _ (List.mem_of_getElem? (i := 4) rfl))) (mvT hZ (hw _ (List.mem_of_getElem? (i := 8) rfl))) (by decide) (backOf (W := 2) (rm_digit l Z a0 hw [] xj (40 : Int32) ub (5 : Int32) h314 n0 (Nat.le_trans Z0 (Nat.le_trans (Nat.le_trans (Nat.le_trans (Nat.le_trans (Keep.of_wr W302).1 (Keep.of_wr W305).1) (Keep.of_wr W308).1) (Keep.of_wr W311).1) (Keep.of_wr W314).1)) ) hZ (hw _ (List.mem_of_getElem? (i := 8) rfl)) (hw _ (List.mem_of_getElem? (i := 4) rfl)) (by decide) (by decide)) (g := (mkF m 78 #[.val (.ref ca), .val (.int (Int32.ofNat oo)), .val (.long xj), .second, .val (.int ub)] [(.int (5 : Int32)), (.int ub), (.int (40 : Int32)), (.long xj), (.int (Int32.ofNat (oo + 5))), (.ref ca)])) rfl (by rw [hml]; rfl) (argsL := [(.long xj), (.int (40 : Int32)), (.int ub), (.int (5 : Int32))]) (rest := [(.int (Int32.ofNat (oo + 5))), (.ref ca)]) (lenOf pd_0 rfl) rfl (by show 2 * 0 + _ ≤ _; exact Nat.le_of_eq rfl) (hb hby d_method_4_code_78) (fun _ _ => ⟨rfl, e314, (by decide : 0 + 0 ≤ _), (by decide : 0 + 0 ≤ _)⟩)
  dsimp only [Pt.U, Pt.locs, Pt.cells, Pt.slots] at X316 l316 y316 z316 st316 hQ316
  replace l316 := l316.symm
  replace y316 := y316.symm
  replace z316 := z316.symm
  subst l316 y316 z316
  obtain ⟨rv_316, rfl, Nq316, e316, f316_0⟩ := hQ316
  have N316 := Fr.app N314 Nq316
  obtain ⟨cl317, Ar317, qq317, S317, M317, Hh317, U317⟩ := id R315
  obtain ⟨T317, h317, X317, e317, W317, st317⟩ := stC X316 hx hZ e316 Ar317 (j := (Int32.ofNat (oo + 5))) (inb_of S317 (own_inb (n := 64) (by omega) (by omega))) (g := (mkF m 81 #[.val (.ref ca), .val (.int (Int32.ofNat oo)), .val (.long xj), .second, .val (.int ub)] [(.int rv_316), (.int (Int32.ofNat (oo + 5))), (.ref ca)])) rfl rfl (hb hby d_method_4_code_81)
  have N317 := Fr.snoc X317 N316 q1
  have V317 : Arv Z h317 ca kc .char (64 : Int32) ((u4_.map Value.int).set (oo + 5) (.int (nar .char rv_316))) (.int (0 : Int32)) := Arv.set Ar317 qq317 S317 M317 Hh317 U317 (fits_nar_char _) W317 (oo + 5) (own_clamp (by omega)) (by rw [List.length_map, hlu4_]; omega)
  have VR317 : Arv Z h317 ca kc .char (64 : Int32) ((u4_.map Value.int).set (oo + 5) (.int rv_316)) (.int (0 : Int32)) := by have q := V317; rw [f316_0.1] at q; exact q
  obtain ⟨u5_, hu5_⟩ : ∃ z : List Int32, z = u4_.set (oo + 5) rv_316 := ⟨_, rfl⟩
  have hlu5_ : u5_.length = 64 := by rw [hu5_, List.length_set]; exact hlu4_
  have R318 : Arv Z h317 ca kc .char (64 : Int32) (u5_.map Value.int) (.int (0 : Int32)) := by have q := VR317; rw [hu5_, List.map_set]; exact q
  obtain ⟨_, _, ⟨T319, L319, k319, n319⟩, -, X319, ⟨Lc319, hQ319, l319, y319, z319⟩, st319⟩ := Jvm.LawKit.callS X317 hx (y := (⟨"com/example/lungfish/lungfish/message/MessageHashParsePinLaw", "digit", "(JIII)C"⟩ : MethodName)) hown (mvT hZ (hw _ (List.mem_of_getElem? (i := 6) rfl))) (mvT hZ (hw _ (List.mem_of_getElem? (i := 7) rfl))) (mvT hZ (hw _ (List.mem_of_getElem? (i := 4) rfl))) (mvT hZ (hw _ (List.mem_of_getElem? (i := 8) rfl))) (by decide) (backOf (W := 2) (rm_digit l Z a0 hw [] xj (36 : Int32) ub (6 : Int32) h317 n0 (Nat.le_trans Z0 (Nat.le_trans (Nat.le_trans (Nat.le_trans (Nat.le_trans (Nat.le_trans (Keep.of_wr W302).1 (Keep.of_wr W305).1) (Keep.of_wr W308).1) (Keep.of_wr W311).1) (Keep.of_wr W314).1) (Keep.of_wr W317).1)) ) hZ (hw _ (List.mem_of_getElem? (i := 8) rfl)) (hw _ (List.mem_of_getElem? (i := 4) rfl)) (by decide) (by decide)) (g := (mkF m 94 #[.val (.ref ca), .val (.int (Int32.ofNat oo)), .val (.long xj), .second, .val (.int ub)] [(.int (6 : Int32)), (.int ub), (.int (36 : Int32)), (.long xj), (.int (Int32.ofNat (oo + 6))), (.ref ca)])) rfl (by rw [hml]; rfl) (argsL := [(.long xj), (.int (36 : Int32)), (.int ub), (.int (6 : Int32))]) (rest := [(.int (Int32.ofNat (oo + 6))), (.ref ca)]) (lenOf pd_0 rfl) rfl (by show 2 * 0 + _ ≤ _; exact Nat.le_of_eq rfl) (hb hby d_method_4_code_94) (fun _ _ => ⟨rfl, e317, (by decide : 0 + 0 ≤ _), (by decide : 0 + 0 ≤ _)⟩)
  dsimp only [Pt.U, Pt.locs, Pt.cells, Pt.slots] at X319 l319 y319 z319 st319 hQ319
  replace l319 := l319.symm
  replace y319 := y319.symm
  replace z319 := z319.symm
  subst l319 y319 z319
  obtain ⟨rv_319, rfl, Nq319, e319, f319_0⟩ := hQ319
  have N319 := Fr.app N317 Nq319
  obtain ⟨cl320, Ar320, qq320, S320, M320, Hh320, U320⟩ := id R318
  obtain ⟨T320, h320, X320, e320, W320, st320⟩ := stC X319 hx hZ e319 Ar320 (j := (Int32.ofNat (oo + 6))) (inb_of S320 (own_inb (n := 64) (by omega) (by omega))) (g := (mkF m 97 #[.val (.ref ca), .val (.int (Int32.ofNat oo)), .val (.long xj), .second, .val (.int ub)] [(.int rv_319), (.int (Int32.ofNat (oo + 6))), (.ref ca)])) rfl rfl (hb hby d_method_4_code_97)
  have N320 := Fr.snoc X320 N319 q1
  have V320 : Arv Z h320 ca kc .char (64 : Int32) ((u5_.map Value.int).set (oo + 6) (.int (nar .char rv_319))) (.int (0 : Int32)) := Arv.set Ar320 qq320 S320 M320 Hh320 U320 (fits_nar_char _) W320 (oo + 6) (own_clamp (by omega)) (by rw [List.length_map, hlu5_]; omega)
  have VR320 : Arv Z h320 ca kc .char (64 : Int32) ((u5_.map Value.int).set (oo + 6) (.int rv_319)) (.int (0 : Int32)) := by have q := V320; rw [f319_0.1] at q; exact q
  obtain ⟨u6_, hu6_⟩ : ∃ z : List Int32, z = u5_.set (oo + 6) rv_319 := ⟨_, rfl⟩
  have hlu6_ : u6_.length = 64 := by rw [hu6_, List.length_set]; exact hlu5_
  have R321 : Arv Z h320 ca kc .char (64 : Int32) (u6_.map Value.int) (.int (0 : Int32)) := by have q := VR320; rw [hu6_, List.map_set]; exact q
  obtain ⟨_, _, ⟨T322, L322, k322, n322⟩, -, X322, ⟨Lc322, hQ322, l322, y322, z322⟩, st322⟩ := Jvm.LawKit.callS X320 hx (y := (⟨"com/example/lungfish/lungfish/message/MessageHashParsePinLaw", "digit", "(JIII)C"⟩ : MethodName)) hown (mvT hZ (hw _ (List.mem_of_getElem? (i := 6) rfl))) (mvT hZ (hw _ (List.mem_of_getElem? (i := 7) rfl))) (mvT hZ (hw _ (List.mem_of_getElem? (i := 4) rfl))) (mvT hZ (hw _ (List.mem_of_getElem? (i := 8) rfl))) (by decide) (backOf (W := 2) (rm_digit l Z a0 hw [] xj (32 : Int32) ub (7 : Int32) h320 n0 (Nat.le_trans Z0 (Nat.le_trans (Nat.le_trans (Nat.le_trans (Nat.le_trans (Nat.le_trans (Nat.le_trans (Keep.of_wr W302).1 (Keep.of_wr W305).1) (Keep.of_wr W308).1) (Keep.of_wr W311).1) (Keep.of_wr W314).1) (Keep.of_wr W317).1) (Keep.of_wr W320).1)) ) hZ (hw _ (List.mem_of_getElem? (i := 8) rfl)) (hw _ (List.mem_of_getElem? (i := 4) rfl)) (by decide) (by decide)) (g := (mkF m 110 #[.val (.ref ca), .val (.int (Int32.ofNat oo)), .val (.long xj), .second, .val (.int ub)] [(.int (7 : Int32)), (.int ub), (.int (32 : Int32)), (.long xj), (.int (Int32.ofNat (oo + 7))), (.ref ca)])) rfl (by rw [hml]; rfl) (argsL := [(.long xj), (.int (32 : Int32)), (.int ub), (.int (7 : Int32))]) (rest := [(.int (Int32.ofNat (oo + 7))), (.ref ca)]) (lenOf pd_0 rfl) rfl (by show 2 * 0 + _ ≤ _; exact Nat.le_of_eq rfl) (hb hby d_method_4_code_110) (fun _ _ => ⟨rfl, e320, (by decide : 0 + 0 ≤ _), (by decide : 0 + 0 ≤ _)⟩)
  dsimp only [Pt.U, Pt.locs, Pt.cells, Pt.slots] at X322 l322 y322 z322 st322 hQ322
  replace l322 := l322.symm
  replace y322 := y322.symm
  replace z322 := z322.symm
  subst l322 y322 z322
  obtain ⟨rv_322, rfl, Nq322, e322, f322_0⟩ := hQ322
  have N322 := Fr.app N320 Nq322
  obtain ⟨cl323, Ar323, qq323, S323, M323, Hh323, U323⟩ := id R321
  obtain ⟨T323, h323, X323, e323, W323, st323⟩ := stC X322 hx hZ e322 Ar323 (j := (Int32.ofNat (oo + 7))) (inb_of S323 (own_inb (n := 64) (by omega) (by omega))) (g := (mkF m 113 #[.val (.ref ca), .val (.int (Int32.ofNat oo)), .val (.long xj), .second, .val (.int ub)] [(.int rv_322), (.int (Int32.ofNat (oo + 7))), (.ref ca)])) rfl rfl (hb hby d_method_4_code_113)
  have N323 := Fr.snoc X323 N322 q1
  have V323 : Arv Z h323 ca kc .char (64 : Int32) ((u6_.map Value.int).set (oo + 7) (.int (nar .char rv_322))) (.int (0 : Int32)) := Arv.set Ar323 qq323 S323 M323 Hh323 U323 (fits_nar_char _) W323 (oo + 7) (own_clamp (by omega)) (by rw [List.length_map, hlu6_]; omega)
  have VR323 : Arv Z h323 ca kc .char (64 : Int32) ((u6_.map Value.int).set (oo + 7) (.int rv_322)) (.int (0 : Int32)) := by have q := V323; rw [f322_0.1] at q; exact q
  obtain ⟨u7_, hu7_⟩ : ∃ z : List Int32, z = u6_.set (oo + 7) rv_322 := ⟨_, rfl⟩
  have hlu7_ : u7_.length = 64 := by rw [hu7_, List.length_set]; exact hlu6_
  have R324 : Arv Z h323 ca kc .char (64 : Int32) (u7_.map Value.int) (.int (0 : Int32)) := by have q := VR323; rw [hu7_, List.map_set]; exact q
  obtain ⟨_, _, ⟨T325, L325, k325, n325⟩, -, X325, ⟨Lc325, hQ325, l325, y325, z325⟩, st325⟩ := Jvm.LawKit.callS X323 hx (y := (⟨"com/example/lungfish/lungfish/message/MessageHashParsePinLaw", "digit", "(JIII)C"⟩ : MethodName)) hown (mvT hZ (hw _ (List.mem_of_getElem? (i := 6) rfl))) (mvT hZ (hw _ (List.mem_of_getElem? (i := 7) rfl))) (mvT hZ (hw _ (List.mem_of_getElem? (i := 4) rfl))) (mvT hZ (hw _ (List.mem_of_getElem? (i := 8) rfl))) (by decide) (backOf (W := 2) (rm_digit l Z a0 hw [] xj (28 : Int32) ub (8 : Int32) h323 n0 (Nat.le_trans Z0 (Nat.le_trans (Nat.le_trans (Nat.le_trans (Nat.le_trans (Nat.le_trans (Nat.le_trans (Nat.le_trans (Keep.of_wr W302).1 (Keep.of_wr W305).1) (Keep.of_wr W308).1) (Keep.of_wr W311).1) (Keep.of_wr W314).1) (Keep.of_wr W317).1) (Keep.of_wr W320).1) (Keep.of_wr W323).1)) ) hZ (hw _ (List.mem_of_getElem? (i := 8) rfl)) (hw _ (List.mem_of_getElem? (i := 4) rfl)) (by decide) (by decide)) (g := (mkF m 126 #[.val (.ref ca), .val (.int (Int32.ofNat oo)), .val (.long xj), .second, .val (.int ub)] [(.int (8 : Int32)), (.int ub), (.int (28 : Int32)), (.long xj), (.int (Int32.ofNat (oo + 8))), (.ref ca)])) rfl (by rw [hml]; rfl) (argsL := [(.long xj), (.int (28 : Int32)), (.int ub), (.int (8 : Int32))]) (rest := [(.int (Int32.ofNat (oo + 8))), (.ref ca)]) (lenOf pd_0 rfl) rfl (by show 2 * 0 + _ ≤ _; exact Nat.le_of_eq rfl) (hb hby d_method_4_code_126) (fun _ _ => ⟨rfl, e323, (by decide : 0 + 0 ≤ _), (by decide : 0 + 0 ≤ _)⟩)
  dsimp only [Pt.U, Pt.locs, Pt.cells, Pt.slots] at X325 l325 y325 z325 st325 hQ325
  replace l325 := l325.symm
  replace y325 := y325.symm
  replace z325 := z325.symm
  subst l325 y325 z325
  obtain ⟨rv_325, rfl, Nq325, e325, f325_0⟩ := hQ325
  have N325 := Fr.app N323 Nq325
  obtain ⟨cl326, Ar326, qq326, S326, M326, Hh326, U326⟩ := id R324
  obtain ⟨T326, h326, X326, e326, W326, st326⟩ := stC X325 hx hZ e325 Ar326 (j := (Int32.ofNat (oo + 8))) (inb_of S326 (own_inb (n := 64) (by omega) (by omega))) (g := (mkF m 129 #[.val (.ref ca), .val (.int (Int32.ofNat oo)), .val (.long xj), .second, .val (.int ub)] [(.int rv_325), (.int (Int32.ofNat (oo + 8))), (.ref ca)])) rfl rfl (hb hby d_method_4_code_129)
  have N326 := Fr.snoc X326 N325 q1
  have V326 : Arv Z h326 ca kc .char (64 : Int32) ((u7_.map Value.int).set (oo + 8) (.int (nar .char rv_325))) (.int (0 : Int32)) := Arv.set Ar326 qq326 S326 M326 Hh326 U326 (fits_nar_char _) W326 (oo + 8) (own_clamp (by omega)) (by rw [List.length_map, hlu7_]; omega)
  have VR326 : Arv Z h326 ca kc .char (64 : Int32) ((u7_.map Value.int).set (oo + 8) (.int rv_325)) (.int (0 : Int32)) := by have q := V326; rw [f325_0.1] at q; exact q
  obtain ⟨u8_, hu8_⟩ : ∃ z : List Int32, z = u7_.set (oo + 8) rv_325 := ⟨_, rfl⟩
  have hlu8_ : u8_.length = 64 := by rw [hu8_, List.length_set]; exact hlu7_
  have R327 : Arv Z h326 ca kc .char (64 : Int32) (u8_.map Value.int) (.int (0 : Int32)) := by have q := VR326; rw [hu8_, List.map_set]; exact q
  obtain ⟨_, _, ⟨T328, L328, k328, n328⟩, -, X328, ⟨Lc328, hQ328, l328, y328, z328⟩, st328⟩ := Jvm.LawKit.callS X326 hx (y := (⟨"com/example/lungfish/lungfish/message/MessageHashParsePinLaw", "digit", "(JIII)C"⟩ : MethodName)) hown (mvT hZ (hw _ (List.mem_of_getElem? (i := 6) rfl))) (mvT hZ (hw _ (List.mem_of_getElem? (i := 7) rfl))) (mvT hZ (hw _ (List.mem_of_getElem? (i := 4) rfl))) (mvT hZ (hw _ (List.mem_of_getElem? (i := 8) rfl))) (by decide) (backOf (W := 2) (rm_digit l Z a0 hw [] xj (24 : Int32) ub (9 : Int32) h326 n0 (Nat.le_trans Z0 (Nat.le_trans (Nat.le_trans (Nat.le_trans (Nat.le_trans (Nat.le_trans (Nat.le_trans (Nat.le_trans (Nat.le_trans (Keep.of_wr W302).1 (Keep.of_wr W305).1) (Keep.of_wr W308).1) (Keep.of_wr W311).1) (Keep.of_wr W314).1) (Keep.of_wr W317).1) (Keep.of_wr W320).1) (Keep.of_wr W323).1) (Keep.of_wr W326).1)) ) hZ (hw _ (List.mem_of_getElem? (i := 8) rfl)) (hw _ (List.mem_of_getElem? (i := 4) rfl)) (by decide) (by decide)) (g := (mkF m 142 #[.val (.ref ca), .val (.int (Int32.ofNat oo)), .val (.long xj), .second, .val (.int ub)] [(.int (9 : Int32)), (.int ub), (.int (24 : Int32)), (.long xj), (.int (Int32.ofNat (oo + 9))), (.ref ca)])) rfl (by rw [hml]; rfl) (argsL := [(.long xj), (.int (24 : Int32)), (.int ub), (.int (9 : Int32))]) (rest := [(.int (Int32.ofNat (oo + 9))), (.ref ca)]) (lenOf pd_0 rfl) rfl (by show 2 * 0 + _ ≤ _; exact Nat.le_of_eq rfl) (hb hby d_method_4_code_142) (fun _ _ => ⟨rfl, e326, (by decide : 0 + 0 ≤ _), (by decide : 0 + 0 ≤ _)⟩)
  dsimp only [Pt.U, Pt.locs, Pt.cells, Pt.slots] at X328 l328 y328 z328 st328 hQ328
  replace l328 := l328.symm
  replace y328 := y328.symm
  replace z328 := z328.symm
  subst l328 y328 z328
  obtain ⟨rv_328, rfl, Nq328, e328, f328_0⟩ := hQ328
  have N328 := Fr.app N326 Nq328
  obtain ⟨cl329, Ar329, qq329, S329, M329, Hh329, U329⟩ := id R327
  obtain ⟨T329, h329, X329, e329, W329, st329⟩ := stC X328 hx hZ e328 Ar329 (j := (Int32.ofNat (oo + 9))) (inb_of S329 (own_inb (n := 64) (by omega) (by omega))) (g := (mkF m 145 #[.val (.ref ca), .val (.int (Int32.ofNat oo)), .val (.long xj), .second, .val (.int ub)] [(.int rv_328), (.int (Int32.ofNat (oo + 9))), (.ref ca)])) rfl rfl (hb hby d_method_4_code_145)
  have N329 := Fr.snoc X329 N328 q1
  have V329 : Arv Z h329 ca kc .char (64 : Int32) ((u8_.map Value.int).set (oo + 9) (.int (nar .char rv_328))) (.int (0 : Int32)) := Arv.set Ar329 qq329 S329 M329 Hh329 U329 (fits_nar_char _) W329 (oo + 9) (own_clamp (by omega)) (by rw [List.length_map, hlu8_]; omega)
  have VR329 : Arv Z h329 ca kc .char (64 : Int32) ((u8_.map Value.int).set (oo + 9) (.int rv_328)) (.int (0 : Int32)) := by have q := V329; rw [f328_0.1] at q; exact q
  obtain ⟨u9_, hu9_⟩ : ∃ z : List Int32, z = u8_.set (oo + 9) rv_328 := ⟨_, rfl⟩
  have hlu9_ : u9_.length = 64 := by rw [hu9_, List.length_set]; exact hlu8_
  have R330 : Arv Z h329 ca kc .char (64 : Int32) (u9_.map Value.int) (.int (0 : Int32)) := by have q := VR329; rw [hu9_, List.map_set]; exact q
  obtain ⟨_, _, ⟨T331, L331, k331, n331⟩, -, X331, ⟨Lc331, hQ331, l331, y331, z331⟩, st331⟩ := Jvm.LawKit.callS X329 hx (y := (⟨"com/example/lungfish/lungfish/message/MessageHashParsePinLaw", "digit", "(JIII)C"⟩ : MethodName)) hown (mvT hZ (hw _ (List.mem_of_getElem? (i := 6) rfl))) (mvT hZ (hw _ (List.mem_of_getElem? (i := 7) rfl))) (mvT hZ (hw _ (List.mem_of_getElem? (i := 4) rfl))) (mvT hZ (hw _ (List.mem_of_getElem? (i := 8) rfl))) (by decide) (backOf (W := 2) (rm_digit l Z a0 hw [] xj (20 : Int32) ub (10 : Int32) h329 n0 (Nat.le_trans Z0 (Nat.le_trans (Nat.le_trans (Nat.le_trans (Nat.le_trans (Nat.le_trans (Nat.le_trans (Nat.le_trans (Nat.le_trans (Nat.le_trans (Keep.of_wr W302).1 (Keep.of_wr W305).1) (Keep.of_wr W308).1) (Keep.of_wr W311).1) (Keep.of_wr W314).1) (Keep.of_wr W317).1) (Keep.of_wr W320).1) (Keep.of_wr W323).1) (Keep.of_wr W326).1) (Keep.of_wr W329).1)) ) hZ (hw _ (List.mem_of_getElem? (i := 8) rfl)) (hw _ (List.mem_of_getElem? (i := 4) rfl)) (by decide) (by decide)) (g := (mkF m 158 #[.val (.ref ca), .val (.int (Int32.ofNat oo)), .val (.long xj), .second, .val (.int ub)] [(.int (10 : Int32)), (.int ub), (.int (20 : Int32)), (.long xj), (.int (Int32.ofNat (oo + 10))), (.ref ca)])) rfl (by rw [hml]; rfl) (argsL := [(.long xj), (.int (20 : Int32)), (.int ub), (.int (10 : Int32))]) (rest := [(.int (Int32.ofNat (oo + 10))), (.ref ca)]) (lenOf pd_0 rfl) rfl (by show 2 * 0 + _ ≤ _; exact Nat.le_of_eq rfl) (hb hby d_method_4_code_158) (fun _ _ => ⟨rfl, e329, (by decide : 0 + 0 ≤ _), (by decide : 0 + 0 ≤ _)⟩)
  dsimp only [Pt.U, Pt.locs, Pt.cells, Pt.slots] at X331 l331 y331 z331 st331 hQ331
  replace l331 := l331.symm
  replace y331 := y331.symm
  replace z331 := z331.symm
  subst l331 y331 z331
  obtain ⟨rv_331, rfl, Nq331, e331, f331_0⟩ := hQ331
  have N331 := Fr.app N329 Nq331
  obtain ⟨cl332, Ar332, qq332, S332, M332, Hh332, U332⟩ := id R330
  obtain ⟨T332, h332, X332, e332, W332, st332⟩ := stC X331 hx hZ e331 Ar332 (j := (Int32.ofNat (oo + 10))) (inb_of S332 (own_inb (n := 64) (by omega) (by omega))) (g := (mkF m 161 #[.val (.ref ca), .val (.int (Int32.ofNat oo)), .val (.long xj), .second, .val (.int ub)] [(.int rv_331), (.int (Int32.ofNat (oo + 10))), (.ref ca)])) rfl rfl (hb hby d_method_4_code_161)
  have N332 := Fr.snoc X332 N331 q1
  have V332 : Arv Z h332 ca kc .char (64 : Int32) ((u9_.map Value.int).set (oo + 10) (.int (nar .char rv_331))) (.int (0 : Int32)) := Arv.set Ar332 qq332 S332 M332 Hh332 U332 (fits_nar_char _) W332 (oo + 10) (own_clamp (by omega)) (by rw [List.length_map, hlu9_]; omega)
  have VR332 : Arv Z h332 ca kc .char (64 : Int32) ((u9_.map Value.int).set (oo + 10) (.int rv_331)) (.int (0 : Int32)) := by have q := V332; rw [f331_0.1] at q; exact q
  obtain ⟨u10_, hu10_⟩ : ∃ z : List Int32, z = u9_.set (oo + 10) rv_331 := ⟨_, rfl⟩
  have hlu10_ : u10_.length = 64 := by rw [hu10_, List.length_set]; exact hlu9_
  have R333 : Arv Z h332 ca kc .char (64 : Int32) (u10_.map Value.int) (.int (0 : Int32)) := by have q := VR332; rw [hu10_, List.map_set]; exact q
  obtain ⟨_, _, ⟨T334, L334, k334, n334⟩, -, X334, ⟨Lc334, hQ334, l334, y334, z334⟩, st334⟩ := Jvm.LawKit.callS X332 hx (y := (⟨"com/example/lungfish/lungfish/message/MessageHashParsePinLaw", "digit", "(JIII)C"⟩ : MethodName)) hown (mvT hZ (hw _ (List.mem_of_getElem? (i := 6) rfl))) (mvT hZ (hw _ (List.mem_of_getElem? (i := 7) rfl))) (mvT hZ (hw _ (List.mem_of_getElem? (i := 4) rfl))) (mvT hZ (hw _ (List.mem_of_getElem? (i := 8) rfl))) (by decide) (backOf (W := 2) (rm_digit l Z a0 hw [] xj (16 : Int32) ub (11 : Int32) h332 n0 (Nat.le_trans Z0 (Nat.le_trans (Nat.le_trans (Nat.le_trans (Nat.le_trans (Nat.le_trans (Nat.le_trans (Nat.le_trans (Nat.le_trans (Nat.le_trans (Nat.le_trans (Keep.of_wr W302).1 (Keep.of_wr W305).1) (Keep.of_wr W308).1) (Keep.of_wr W311).1) (Keep.of_wr W314).1) (Keep.of_wr W317).1) (Keep.of_wr W320).1) (Keep.of_wr W323).1) (Keep.of_wr W326).1) (Keep.of_wr W329).1) (Keep.of_wr W332).1)) ) hZ (hw _ (List.mem_of_getElem? (i := 8) rfl)) (hw _ (List.mem_of_getElem? (i := 4) rfl)) (by decide) (by decide)) (g := (mkF m 174 #[.val (.ref ca), .val (.int (Int32.ofNat oo)), .val (.long xj), .second, .val (.int ub)] [(.int (11 : Int32)), (.int ub), (.int (16 : Int32)), (.long xj), (.int (Int32.ofNat (oo + 11))), (.ref ca)])) rfl (by rw [hml]; rfl) (argsL := [(.long xj), (.int (16 : Int32)), (.int ub), (.int (11 : Int32))]) (rest := [(.int (Int32.ofNat (oo + 11))), (.ref ca)]) (lenOf pd_0 rfl) rfl (by show 2 * 0 + _ ≤ _; exact Nat.le_of_eq rfl) (hb hby d_method_4_code_174) (fun _ _ => ⟨rfl, e332, (by decide : 0 + 0 ≤ _), (by decide : 0 + 0 ≤ _)⟩)
  dsimp only [Pt.U, Pt.locs, Pt.cells, Pt.slots] at X334 l334 y334 z334 st334 hQ334
  replace l334 := l334.symm
  replace y334 := y334.symm
  replace z334 := z334.symm
  subst l334 y334 z334
  obtain ⟨rv_334, rfl, Nq334, e334, f334_0⟩ := hQ334
  have N334 := Fr.app N332 Nq334
  obtain ⟨cl335, Ar335, qq335, S335, M335, Hh335, U335⟩ := id R333
  obtain ⟨T335, h335, X335, e335, W335, st335⟩ := stC X334 hx hZ e334 Ar335 (j := (Int32.ofNat (oo + 11))) (inb_of S335 (own_inb (n := 64) (by omega) (by omega))) (g := (mkF m 177 #[.val (.ref ca), .val (.int (Int32.ofNat oo)), .val (.long xj), .second, .val (.int ub)] [(.int rv_334), (.int (Int32.ofNat (oo + 11))), (.ref ca)])) rfl rfl (hb hby d_method_4_code_177)
  have N335 := Fr.snoc X335 N334 q1
  have V335 : Arv Z h335 ca kc .char (64 : Int32) ((u10_.map Value.int).set (oo + 11) (.int (nar .char rv_334))) (.int (0 : Int32)) := Arv.set Ar335 qq335 S335 M335 Hh335 U335 (fits_nar_char _) W335 (oo + 11) (own_clamp (by omega)) (by rw [List.length_map, hlu10_]; omega)
  have VR335 : Arv Z h335 ca kc .char (64 : Int32) ((u10_.map Value.int).set (oo + 11) (.int rv_334)) (.int (0 : Int32)) := by have q := V335; rw [f334_0.1] at q; exact q
  obtain ⟨u11_, hu11_⟩ : ∃ z : List Int32, z = u10_.set (oo + 11) rv_334 := ⟨_, rfl⟩
  have hlu11_ : u11_.length = 64 := by rw [hu11_, List.length_set]; exact hlu10_
  have R336 : Arv Z h335 ca kc .char (64 : Int32) (u11_.map Value.int) (.int (0 : Int32)) := by have q := VR335; rw [hu11_, List.map_set]; exact q
  obtain ⟨_, _, ⟨T337, L337, k337, n337⟩, -, X337, ⟨Lc337, hQ337, l337, y337, z337⟩, st337⟩ := Jvm.LawKit.callS X335 hx (y := (⟨"com/example/lungfish/lungfish/message/MessageHashParsePinLaw", "digit", "(JIII)C"⟩ : MethodName)) hown (mvT hZ (hw _ (List.mem_of_getElem? (i := 6) rfl))) (mvT hZ (hw _ (List.mem_of_getElem? (i := 7) rfl))) (mvT hZ (hw _ (List.mem_of_getElem? (i := 4) rfl))) (mvT hZ (hw _ (List.mem_of_getElem? (i := 8) rfl))) (by decide) (backOf (W := 2) (rm_digit l Z a0 hw [] xj (12 : Int32) ub (12 : Int32) h335 n0 (Nat.le_trans Z0 (Nat.le_trans (Nat.le_trans (Nat.le_trans (Nat.le_trans (Nat.le_trans (Nat.le_trans (Nat.le_trans (Nat.le_trans (Nat.le_trans (Nat.le_trans (Nat.le_trans (Keep.of_wr W302).1 (Keep.of_wr W305).1) (Keep.of_wr W308).1) (Keep.of_wr W311).1) (Keep.of_wr W314).1) (Keep.of_wr W317).1) (Keep.of_wr W320).1) (Keep.of_wr W323).1) (Keep.of_wr W326).1) (Keep.of_wr W329).1) (Keep.of_wr W332).1) (Keep.of_wr W335).1)) ) hZ (hw _ (List.mem_of_getElem? (i := 8) rfl)) (hw _ (List.mem_of_getElem? (i := 4) rfl)) (by decide) (by decide)) (g := (mkF m 190 #[.val (.ref ca), .val (.int (Int32.ofNat oo)), .val (.long xj), .second, .val (.int ub)] [(.int (12 : Int32)), (.int ub), (.int (12 : Int32)), (.long xj), (.int (Int32.ofNat (oo + 12))), (.ref ca)])) rfl (by rw [hml]; rfl) (argsL := [(.long xj), (.int (12 : Int32)), (.int ub), (.int (12 : Int32))]) (rest := [(.int (Int32.ofNat (oo + 12))), (.ref ca)]) (lenOf pd_0 rfl) rfl (by show 2 * 0 + _ ≤ _; exact Nat.le_of_eq rfl) (hb hby d_method_4_code_190) (fun _ _ => ⟨rfl, e335, (by decide : 0 + 0 ≤ _), (by decide : 0 + 0 ≤ _)⟩)
  dsimp only [Pt.U, Pt.locs, Pt.cells, Pt.slots] at X337 l337 y337 z337 st337 hQ337
  replace l337 := l337.symm
  replace y337 := y337.symm
  replace z337 := z337.symm
  subst l337 y337 z337
  obtain ⟨rv_337, rfl, Nq337, e337, f337_0⟩ := hQ337
  have N337 := Fr.app N335 Nq337
  obtain ⟨cl338, Ar338, qq338, S338, M338, Hh338, U338⟩ := id R336
  obtain ⟨T338, h338, X338, e338, W338, st338⟩ := stC X337 hx hZ e337 Ar338 (j := (Int32.ofNat (oo + 12))) (inb_of S338 (own_inb (n := 64) (by omega) (by omega))) (g := (mkF m 193 #[.val (.ref ca), .val (.int (Int32.ofNat oo)), .val (.long xj), .second, .val (.int ub)] [(.int rv_337), (.int (Int32.ofNat (oo + 12))), (.ref ca)])) rfl rfl (hb hby d_method_4_code_193)
  have N338 := Fr.snoc X338 N337 q1
  have V338 : Arv Z h338 ca kc .char (64 : Int32) ((u11_.map Value.int).set (oo + 12) (.int (nar .char rv_337))) (.int (0 : Int32)) := Arv.set Ar338 qq338 S338 M338 Hh338 U338 (fits_nar_char _) W338 (oo + 12) (own_clamp (by omega)) (by rw [List.length_map, hlu11_]; omega)
  have VR338 : Arv Z h338 ca kc .char (64 : Int32) ((u11_.map Value.int).set (oo + 12) (.int rv_337)) (.int (0 : Int32)) := by have q := V338; rw [f337_0.1] at q; exact q
  obtain ⟨u12_, hu12_⟩ : ∃ z : List Int32, z = u11_.set (oo + 12) rv_337 := ⟨_, rfl⟩
  have hlu12_ : u12_.length = 64 := by rw [hu12_, List.length_set]; exact hlu11_
  have R339 : Arv Z h338 ca kc .char (64 : Int32) (u12_.map Value.int) (.int (0 : Int32)) := by have q := VR338; rw [hu12_, List.map_set]; exact q
  obtain ⟨_, _, ⟨T340, L340, k340, n340⟩, -, X340, ⟨Lc340, hQ340, l340, y340, z340⟩, st340⟩ := Jvm.LawKit.callS X338 hx (y := (⟨"com/example/lungfish/lungfish/message/MessageHashParsePinLaw", "digit", "(JIII)C"⟩ : MethodName)) hown (mvT hZ (hw _ (List.mem_of_getElem? (i := 6) rfl))) (mvT hZ (hw _ (List.mem_of_getElem? (i := 7) rfl))) (mvT hZ (hw _ (List.mem_of_getElem? (i := 4) rfl))) (mvT hZ (hw _ (List.mem_of_getElem? (i := 8) rfl))) (by decide) (backOf (W := 2) (rm_digit l Z a0 hw [] xj (8 : Int32) ub (13 : Int32) h338 n0 (Nat.le_trans Z0 (Nat.le_trans (Nat.le_trans (Nat.le_trans (Nat.le_trans (Nat.le_trans (Nat.le_trans (Nat.le_trans (Nat.le_trans (Nat.le_trans (Nat.le_trans (Nat.le_trans (Nat.le_trans (Keep.of_wr W302).1 (Keep.of_wr W305).1) (Keep.of_wr W308).1) (Keep.of_wr W311).1) (Keep.of_wr W314).1) (Keep.of_wr W317).1) (Keep.of_wr W320).1) (Keep.of_wr W323).1) (Keep.of_wr W326).1) (Keep.of_wr W329).1) (Keep.of_wr W332).1) (Keep.of_wr W335).1) (Keep.of_wr W338).1)) ) hZ (hw _ (List.mem_of_getElem? (i := 8) rfl)) (hw _ (List.mem_of_getElem? (i := 4) rfl)) (by decide) (by decide)) (g := (mkF m 206 #[.val (.ref ca), .val (.int (Int32.ofNat oo)), .val (.long xj), .second, .val (.int ub)] [(.int (13 : Int32)), (.int ub), (.int (8 : Int32)), (.long xj), (.int (Int32.ofNat (oo + 13))), (.ref ca)])) rfl (by rw [hml]; rfl) (argsL := [(.long xj), (.int (8 : Int32)), (.int ub), (.int (13 : Int32))]) (rest := [(.int (Int32.ofNat (oo + 13))), (.ref ca)]) (lenOf pd_0 rfl) rfl (by show 2 * 0 + _ ≤ _; exact Nat.le_of_eq rfl) (hb hby d_method_4_code_206) (fun _ _ => ⟨rfl, e338, (by decide : 0 + 0 ≤ _), (by decide : 0 + 0 ≤ _)⟩)
  dsimp only [Pt.U, Pt.locs, Pt.cells, Pt.slots] at X340 l340 y340 z340 st340 hQ340
  replace l340 := l340.symm
  replace y340 := y340.symm
  replace z340 := z340.symm
  subst l340 y340 z340
  obtain ⟨rv_340, rfl, Nq340, e340, f340_0⟩ := hQ340
  have N340 := Fr.app N338 Nq340
  obtain ⟨cl341, Ar341, qq341, S341, M341, Hh341, U341⟩ := id R339
  obtain ⟨T341, h341, X341, e341, W341, st341⟩ := stC X340 hx hZ e340 Ar341 (j := (Int32.ofNat (oo + 13))) (inb_of S341 (own_inb (n := 64) (by omega) (by omega))) (g := (mkF m 209 #[.val (.ref ca), .val (.int (Int32.ofNat oo)), .val (.long xj), .second, .val (.int ub)] [(.int rv_340), (.int (Int32.ofNat (oo + 13))), (.ref ca)])) rfl rfl (hb hby d_method_4_code_209)
  have N341 := Fr.snoc X341 N340 q1
  have V341 : Arv Z h341 ca kc .char (64 : Int32) ((u12_.map Value.int).set (oo + 13) (.int (nar .char rv_340))) (.int (0 : Int32)) := Arv.set Ar341 qq341 S341 M341 Hh341 U341 (fits_nar_char _) W341 (oo + 13) (own_clamp (by omega)) (by rw [List.length_map, hlu12_]; omega)
  have VR341 : Arv Z h341 ca kc .char (64 : Int32) ((u12_.map Value.int).set (oo + 13) (.int rv_340)) (.int (0 : Int32)) := by have q := V341; rw [f340_0.1] at q; exact q
  obtain ⟨u13_, hu13_⟩ : ∃ z : List Int32, z = u12_.set (oo + 13) rv_340 := ⟨_, rfl⟩
  have hlu13_ : u13_.length = 64 := by rw [hu13_, List.length_set]; exact hlu12_
  have R342 : Arv Z h341 ca kc .char (64 : Int32) (u13_.map Value.int) (.int (0 : Int32)) := by have q := VR341; rw [hu13_, List.map_set]; exact q
  obtain ⟨_, _, ⟨T343, L343, k343, n343⟩, -, X343, ⟨Lc343, hQ343, l343, y343, z343⟩, st343⟩ := Jvm.LawKit.callS X341 hx (y := (⟨"com/example/lungfish/lungfish/message/MessageHashParsePinLaw", "digit", "(JIII)C"⟩ : MethodName)) hown (mvT hZ (hw _ (List.mem_of_getElem? (i := 6) rfl))) (mvT hZ (hw _ (List.mem_of_getElem? (i := 7) rfl))) (mvT hZ (hw _ (List.mem_of_getElem? (i := 4) rfl))) (mvT hZ (hw _ (List.mem_of_getElem? (i := 8) rfl))) (by decide) (backOf (W := 2) (rm_digit l Z a0 hw [] xj (4 : Int32) ub (14 : Int32) h341 n0 (Nat.le_trans Z0 (Nat.le_trans (Nat.le_trans (Nat.le_trans (Nat.le_trans (Nat.le_trans (Nat.le_trans (Nat.le_trans (Nat.le_trans (Nat.le_trans (Nat.le_trans (Nat.le_trans (Nat.le_trans (Nat.le_trans (Keep.of_wr W302).1 (Keep.of_wr W305).1) (Keep.of_wr W308).1) (Keep.of_wr W311).1) (Keep.of_wr W314).1) (Keep.of_wr W317).1) (Keep.of_wr W320).1) (Keep.of_wr W323).1) (Keep.of_wr W326).1) (Keep.of_wr W329).1) (Keep.of_wr W332).1) (Keep.of_wr W335).1) (Keep.of_wr W338).1) (Keep.of_wr W341).1)) ) hZ (hw _ (List.mem_of_getElem? (i := 8) rfl)) (hw _ (List.mem_of_getElem? (i := 4) rfl)) (by decide) (by decide)) (g := (mkF m 221 #[.val (.ref ca), .val (.int (Int32.ofNat oo)), .val (.long xj), .second, .val (.int ub)] [(.int (14 : Int32)), (.int ub), (.int (4 : Int32)), (.long xj), (.int (Int32.ofNat (oo + 14))), (.ref ca)])) rfl (by rw [hml]; rfl) (argsL := [(.long xj), (.int (4 : Int32)), (.int ub), (.int (14 : Int32))]) (rest := [(.int (Int32.ofNat (oo + 14))), (.ref ca)]) (lenOf pd_0 rfl) rfl (by show 2 * 0 + _ ≤ _; exact Nat.le_of_eq rfl) (hb hby d_method_4_code_221) (fun _ _ => ⟨rfl, e341, (by decide : 0 + 0 ≤ _), (by decide : 0 + 0 ≤ _)⟩)
  dsimp only [Pt.U, Pt.locs, Pt.cells, Pt.slots] at X343 l343 y343 z343 st343 hQ343
  replace l343 := l343.symm
  replace y343 := y343.symm
  replace z343 := z343.symm
  subst l343 y343 z343
  obtain ⟨rv_343, rfl, Nq343, e343, f343_0⟩ := hQ343
  have N343 := Fr.app N341 Nq343
  obtain ⟨cl344, Ar344, qq344, S344, M344, Hh344, U344⟩ := id R342
  obtain ⟨T344, h344, X344, e344, W344, st344⟩ := stC X343 hx hZ e343 Ar344 (j := (Int32.ofNat (oo + 14))) (inb_of S344 (own_inb (n := 64) (by omega) (by omega))) (g := (mkF m 224 #[.val (.ref ca), .val (.int (Int32.ofNat oo)), .val (.long xj), .second, .val (.int ub)] [(.int rv_343), (.int (Int32.ofNat (oo + 14))), (.ref ca)])) rfl rfl (hb hby d_method_4_code_224)
  have N344 := Fr.snoc X344 N343 q1
  have V344 : Arv Z h344 ca kc .char (64 : Int32) ((u13_.map Value.int).set (oo + 14) (.int (nar .char rv_343))) (.int (0 : Int32)) := Arv.set Ar344 qq344 S344 M344 Hh344 U344 (fits_nar_char _) W344 (oo + 14) (own_clamp (by omega)) (by rw [List.length_map, hlu13_]; omega)
  have VR344 : Arv Z h344 ca kc .char (64 : Int32) ((u13_.map Value.int).set (oo + 14) (.int rv_343)) (.int (0 : Int32)) := by have q := V344; rw [f343_0.1] at q; exact q
  obtain ⟨u14_, hu14_⟩ : ∃ z : List Int32, z = u13_.set (oo + 14) rv_343 := ⟨_, rfl⟩
  have hlu14_ : u14_.length = 64 := by rw [hu14_, List.length_set]; exact hlu13_
  have R345 : Arv Z h344 ca kc .char (64 : Int32) (u14_.map Value.int) (.int (0 : Int32)) := by have q := VR344; rw [hu14_, List.map_set]; exact q
  obtain ⟨_, _, ⟨T346, L346, k346, n346⟩, -, X346, ⟨Lc346, hQ346, l346, y346, z346⟩, st346⟩ := Jvm.LawKit.callS X344 hx (y := (⟨"com/example/lungfish/lungfish/message/MessageHashParsePinLaw", "digit", "(JIII)C"⟩ : MethodName)) hown (mvT hZ (hw _ (List.mem_of_getElem? (i := 6) rfl))) (mvT hZ (hw _ (List.mem_of_getElem? (i := 7) rfl))) (mvT hZ (hw _ (List.mem_of_getElem? (i := 4) rfl))) (mvT hZ (hw _ (List.mem_of_getElem? (i := 8) rfl))) (by decide) (backOf (W := 2) (rm_digit l Z a0 hw [] xj (0 : Int32) ub (15 : Int32) h344 n0 (Nat.le_trans Z0 (Nat.le_trans (Nat.le_trans (Nat.le_trans (Nat.le_trans (Nat.le_trans (Nat.le_trans (Nat.le_trans (Nat.le_trans (Nat.le_trans (Nat.le_trans (Nat.le_trans (Nat.le_trans (Nat.le_trans (Nat.le_trans (Keep.of_wr W302).1 (Keep.of_wr W305).1) (Keep.of_wr W308).1) (Keep.of_wr W311).1) (Keep.of_wr W314).1) (Keep.of_wr W317).1) (Keep.of_wr W320).1) (Keep.of_wr W323).1) (Keep.of_wr W326).1) (Keep.of_wr W329).1) (Keep.of_wr W332).1) (Keep.of_wr W335).1) (Keep.of_wr W338).1) (Keep.of_wr W341).1) (Keep.of_wr W344).1)) ) hZ (hw _ (List.mem_of_getElem? (i := 8) rfl)) (hw _ (List.mem_of_getElem? (i := 4) rfl)) (by decide) (by decide)) (g := (mkF m 236 #[.val (.ref ca), .val (.int (Int32.ofNat oo)), .val (.long xj), .second, .val (.int ub)] [(.int (15 : Int32)), (.int ub), (.int (0 : Int32)), (.long xj), (.int (Int32.ofNat (oo + 15))), (.ref ca)])) rfl (by rw [hml]; rfl) (argsL := [(.long xj), (.int (0 : Int32)), (.int ub), (.int (15 : Int32))]) (rest := [(.int (Int32.ofNat (oo + 15))), (.ref ca)]) (lenOf pd_0 rfl) rfl (by show 2 * 0 + _ ≤ _; exact Nat.le_of_eq rfl) (hb hby d_method_4_code_236) (fun _ _ => ⟨rfl, e344, (by decide : 0 + 0 ≤ _), (by decide : 0 + 0 ≤ _)⟩)
  dsimp only [Pt.U, Pt.locs, Pt.cells, Pt.slots] at X346 l346 y346 z346 st346 hQ346
  replace l346 := l346.symm
  replace y346 := y346.symm
  replace z346 := z346.symm
  subst l346 y346 z346
  obtain ⟨rv_346, rfl, Nq346, e346, f346_0⟩ := hQ346
  have N346 := Fr.app N344 Nq346
  obtain ⟨cl347, Ar347, qq347, S347, M347, Hh347, U347⟩ := id R345
  obtain ⟨T347, h347, X347, e347, W347, st347⟩ := stC X346 hx hZ e346 Ar347 (j := (Int32.ofNat (oo + 15))) (inb_of S347 (own_inb (n := 64) (by omega) (by omega))) (g := (mkF m 239 #[.val (.ref ca), .val (.int (Int32.ofNat oo)), .val (.long xj), .second, .val (.int ub)] [(.int rv_346), (.int (Int32.ofNat (oo + 15))), (.ref ca)])) rfl rfl (hb hby d_method_4_code_239)
  have N347 := Fr.snoc X347 N346 q1
  have V347 : Arv Z h347 ca kc .char (64 : Int32) ((u14_.map Value.int).set (oo + 15) (.int (nar .char rv_346))) (.int (0 : Int32)) := Arv.set Ar347 qq347 S347 M347 Hh347 U347 (fits_nar_char _) W347 (oo + 15) (own_clamp (by omega)) (by rw [List.length_map, hlu14_]; omega)
  have VR347 : Arv Z h347 ca kc .char (64 : Int32) ((u14_.map Value.int).set (oo + 15) (.int rv_346)) (.int (0 : Int32)) := by have q := V347; rw [f346_0.1] at q; exact q
  obtain ⟨u15_, hu15_⟩ : ∃ z : List Int32, z = u14_.set (oo + 15) rv_346 := ⟨_, rfl⟩
  have hlu15_ : u15_.length = 64 := by rw [hu15_, List.length_set]; exact hlu14_
  have R348 : Arv Z h347 ca kc .char (64 : Int32) (u15_.map Value.int) (.int (0 : Int32)) := by have q := VR347; rw [hu15_, List.map_set]; exact q
  have R349 : Arv Z h347 ca kc .char (64 : Int32) (((((((((((((((((cs.set oo rv_301).set (oo + 1) rv_304).set (oo + 2) rv_307).set (oo + 3) rv_310).set (oo + 4) rv_313).set (oo + 5) rv_316).set (oo + 6) rv_319).set (oo + 7) rv_322).set (oo + 8) rv_325).set (oo + 9) rv_328).set (oo + 10) rv_331).set (oo + 11) rv_334).set (oo + 12) rv_337).set (oo + 13) rv_340).set (oo + 14) rv_343).set (oo + 15) rv_346).map Value.int) (.int (0 : Int32)) := by have q := R348; rw [hu15_, hu14_, hu13_, hu12_, hu11_, hu10_, hu9_, hu8_, hu7_, hu6_, hu5_, hu4_, hu3_, hu2_, hu1_, hu0_] at q; exact q
  obtain ⟨fs, hr, hrun, hended, hW, hsame⟩ := X347.leave (v := none) (fun _ => rfl)
  refine ⟨_, _, pre0 _ ?_, hrun, hended, _, _, rfl, ?_, ⟨_, rfl⟩, hW, hsame.mono (by decide) (by decide)⟩
  · refine XS.aloadN X0.here hx rfl (hb hby d_method_4_code_0) rfl rfl ?_
    show Steps p.tables e below (s₁.setTop (mkF m 1 #[.val (.ref ca), .val (.int (Int32.ofNat oo)), .val (.long xj), .second, .val (.int ub)] [(.ref ca)])) _
    refine XS.iloadN X0.here hx rfl (hb hby d_method_4_code_1) rfl ?_
    show Steps p.tables e below (s₁.setTop (mkF m 2 #[.val (.ref ca), .val (.int (Int32.ofNat oo)), .val (.long xj), .second, .val (.int ub)] [(.int (Int32.ofNat oo)), (.ref ca)])) _
    refine XS.lloadN X0.here hx rfl (hb hby d_method_4_code_2) rfl ?_
    show Steps p.tables e below (s₁.setTop (mkF m 3 #[.val (.ref ca), .val (.int (Int32.ofNat oo)), .val (.long xj), .second, .val (.int ub)] [(.long xj), (.int (Int32.ofNat oo)), (.ref ca)])) _
    refine XS.bipush X0.here hx rfl (hb hby d_method_4_code_3) ?_
    show Steps p.tables e below (s₁.setTop (mkF m 5 #[.val (.ref ca), .val (.int (Int32.ofNat oo)), .val (.long xj), .second, .val (.int ub)] [(.int (60 : Int32)), (.long xj), (.int (Int32.ofNat oo)), (.ref ca)])) _
    refine XS.iload X0.here hx rfl (hb hby d_method_4_code_5) rfl ?_
    show Steps p.tables e below (s₁.setTop (mkF m 7 #[.val (.ref ca), .val (.int (Int32.ofNat oo)), .val (.long xj), .second, .val (.int ub)] [(.int ub), (.int (60 : Int32)), (.long xj), (.int (Int32.ofNat oo)), (.ref ca)])) _
    refine XS.iconst X0.here hx rfl (hb hby d_method_4_code_7) ?_
    show Steps p.tables e below (s₁.setTop (mkF m 8 #[.val (.ref ca), .val (.int (Int32.ofNat oo)), .val (.long xj), .second, .val (.int ub)] [(.int (0 : Int32)), (.int ub), (.int (60 : Int32)), (.long xj), (.int (Int32.ofNat oo)), (.ref ca)])) _
    refine st301 _ ?_
    show Steps p.tables e below (T301.setTop (mkF m 11 #[.val (.ref ca), .val (.int (Int32.ofNat oo)), .val (.long xj), .second, .val (.int ub)] [(.int rv_301), (.int (Int32.ofNat oo)), (.ref ca)])) _
    refine st302 _ ?_
    show Steps p.tables e below (T302.setTop (mkF m 12 #[.val (.ref ca), .val (.int (Int32.ofNat oo)), .val (.long xj), .second, .val (.int ub)] [])) _
    refine XS.aloadN X302.here hx rfl (hb hby d_method_4_code_12) rfl rfl ?_
    show Steps p.tables e below (T302.setTop (mkF m 13 #[.val (.ref ca), .val (.int (Int32.ofNat oo)), .val (.long xj), .second, .val (.int ub)] [(.ref ca)])) _
    refine XS.iloadN X302.here hx rfl (hb hby d_method_4_code_13) rfl ?_
    show Steps p.tables e below (T302.setTop (mkF m 14 #[.val (.ref ca), .val (.int (Int32.ofNat oo)), .val (.long xj), .second, .val (.int ub)] [(.int (Int32.ofNat oo)), (.ref ca)])) _
    refine XS.iconst X302.here hx rfl (hb hby d_method_4_code_14) ?_
    show Steps p.tables e below (T302.setTop (mkF m 15 #[.val (.ref ca), .val (.int (Int32.ofNat oo)), .val (.long xj), .second, .val (.int ub)] [(.int (1 : Int32)), (.int (Int32.ofNat oo)), (.ref ca)])) _
    refine XS.iadd X302.here hx rfl (hb hby d_method_4_code_15) rfl ?_
    show Steps p.tables e below (T302.setTop (mkF m 16 #[.val (.ref ca), .val (.int (Int32.ofNat oo)), .val (.long xj), .second, .val (.int ub)] [(.int ((Int32.ofNat oo) + (1 : Int32))), (.ref ca)])) _
    rw [(show Int32.ofNat oo + (1 : Int32) = Int32.ofNat (oo + 1) from own_addn oo 1)]
    show Steps p.tables e below (T302.setTop (mkF m 16 #[.val (.ref ca), .val (.int (Int32.ofNat oo)), .val (.long xj), .second, .val (.int ub)] [(.int (Int32.ofNat (oo + 1))), (.ref ca)])) _
    refine XS.lloadN X302.here hx rfl (hb hby d_method_4_code_16) rfl ?_
    show Steps p.tables e below (T302.setTop (mkF m 17 #[.val (.ref ca), .val (.int (Int32.ofNat oo)), .val (.long xj), .second, .val (.int ub)] [(.long xj), (.int (Int32.ofNat (oo + 1))), (.ref ca)])) _
    refine XS.bipush X302.here hx rfl (hb hby d_method_4_code_17) ?_
    show Steps p.tables e below (T302.setTop (mkF m 19 #[.val (.ref ca), .val (.int (Int32.ofNat oo)), .val (.long xj), .second, .val (.int ub)] [(.int (56 : Int32)), (.long xj), (.int (Int32.ofNat (oo + 1))), (.ref ca)])) _
    refine XS.iload X302.here hx rfl (hb hby d_method_4_code_19) rfl ?_
    show Steps p.tables e below (T302.setTop (mkF m 21 #[.val (.ref ca), .val (.int (Int32.ofNat oo)), .val (.long xj), .second, .val (.int ub)] [(.int ub), (.int (56 : Int32)), (.long xj), (.int (Int32.ofNat (oo + 1))), (.ref ca)])) _
    refine XS.iconst X302.here hx rfl (hb hby d_method_4_code_21) ?_
    show Steps p.tables e below (T302.setTop (mkF m 22 #[.val (.ref ca), .val (.int (Int32.ofNat oo)), .val (.long xj), .second, .val (.int ub)] [(.int (1 : Int32)), (.int ub), (.int (56 : Int32)), (.long xj), (.int (Int32.ofNat (oo + 1))), (.ref ca)])) _
    refine st304 _ ?_
    show Steps p.tables e below (T304.setTop (mkF m 25 #[.val (.ref ca), .val (.int (Int32.ofNat oo)), .val (.long xj), .second, .val (.int ub)] [(.int rv_304), (.int (Int32.ofNat (oo + 1))), (.ref ca)])) _
    refine st305 _ ?_
    show Steps p.tables e below (T305.setTop (mkF m 26 #[.val (.ref ca), .val (.int (Int32.ofNat oo)), .val (.long xj), .second, .val (.int ub)] [])) _
    refine XS.aloadN X305.here hx rfl (hb hby d_method_4_code_26) rfl rfl ?_
    show Steps p.tables e below (T305.setTop (mkF m 27 #[.val (.ref ca), .val (.int (Int32.ofNat oo)), .val (.long xj), .second, .val (.int ub)] [(.ref ca)])) _
    refine XS.iloadN X305.here hx rfl (hb hby d_method_4_code_27) rfl ?_
    show Steps p.tables e below (T305.setTop (mkF m 28 #[.val (.ref ca), .val (.int (Int32.ofNat oo)), .val (.long xj), .second, .val (.int ub)] [(.int (Int32.ofNat oo)), (.ref ca)])) _
    refine XS.iconst X305.here hx rfl (hb hby d_method_4_code_28) ?_
    show Steps p.tables e below (T305.setTop (mkF m 29 #[.val (.ref ca), .val (.int (Int32.ofNat oo)), .val (.long xj), .second, .val (.int ub)] [(.int (2 : Int32)), (.int (Int32.ofNat oo)), (.ref ca)])) _
    refine XS.iadd X305.here hx rfl (hb hby d_method_4_code_29) rfl ?_
    show Steps p.tables e below (T305.setTop (mkF m 30 #[.val (.ref ca), .val (.int (Int32.ofNat oo)), .val (.long xj), .second, .val (.int ub)] [(.int ((Int32.ofNat oo) + (2 : Int32))), (.ref ca)])) _
    rw [(show Int32.ofNat oo + (2 : Int32) = Int32.ofNat (oo + 2) from own_addn oo 2)]
    show Steps p.tables e below (T305.setTop (mkF m 30 #[.val (.ref ca), .val (.int (Int32.ofNat oo)), .val (.long xj), .second, .val (.int ub)] [(.int (Int32.ofNat (oo + 2))), (.ref ca)])) _
    refine XS.lloadN X305.here hx rfl (hb hby d_method_4_code_30) rfl ?_
    show Steps p.tables e below (T305.setTop (mkF m 31 #[.val (.ref ca), .val (.int (Int32.ofNat oo)), .val (.long xj), .second, .val (.int ub)] [(.long xj), (.int (Int32.ofNat (oo + 2))), (.ref ca)])) _
    refine XS.bipush X305.here hx rfl (hb hby d_method_4_code_31) ?_
    show Steps p.tables e below (T305.setTop (mkF m 33 #[.val (.ref ca), .val (.int (Int32.ofNat oo)), .val (.long xj), .second, .val (.int ub)] [(.int (52 : Int32)), (.long xj), (.int (Int32.ofNat (oo + 2))), (.ref ca)])) _
    refine XS.iload X305.here hx rfl (hb hby d_method_4_code_33) rfl ?_
    show Steps p.tables e below (T305.setTop (mkF m 35 #[.val (.ref ca), .val (.int (Int32.ofNat oo)), .val (.long xj), .second, .val (.int ub)] [(.int ub), (.int (52 : Int32)), (.long xj), (.int (Int32.ofNat (oo + 2))), (.ref ca)])) _
    refine XS.iconst X305.here hx rfl (hb hby d_method_4_code_35) ?_
    show Steps p.tables e below (T305.setTop (mkF m 36 #[.val (.ref ca), .val (.int (Int32.ofNat oo)), .val (.long xj), .second, .val (.int ub)] [(.int (2 : Int32)), (.int ub), (.int (52 : Int32)), (.long xj), (.int (Int32.ofNat (oo + 2))), (.ref ca)])) _
    refine st307 _ ?_
    show Steps p.tables e below (T307.setTop (mkF m 39 #[.val (.ref ca), .val (.int (Int32.ofNat oo)), .val (.long xj), .second, .val (.int ub)] [(.int rv_307), (.int (Int32.ofNat (oo + 2))), (.ref ca)])) _
    refine st308 _ ?_
    show Steps p.tables e below (T308.setTop (mkF m 40 #[.val (.ref ca), .val (.int (Int32.ofNat oo)), .val (.long xj), .second, .val (.int ub)] [])) _
    refine XS.aloadN X308.here hx rfl (hb hby d_method_4_code_40) rfl rfl ?_
    show Steps p.tables e below (T308.setTop (mkF m 41 #[.val (.ref ca), .val (.int (Int32.ofNat oo)), .val (.long xj), .second, .val (.int ub)] [(.ref ca)])) _
    refine XS.iloadN X308.here hx rfl (hb hby d_method_4_code_41) rfl ?_
    show Steps p.tables e below (T308.setTop (mkF m 42 #[.val (.ref ca), .val (.int (Int32.ofNat oo)), .val (.long xj), .second, .val (.int ub)] [(.int (Int32.ofNat oo)), (.ref ca)])) _
    refine XS.iconst X308.here hx rfl (hb hby d_method_4_code_42) ?_
    show Steps p.tables e below (T308.setTop (mkF m 43 #[.val (.ref ca), .val (.int (Int32.ofNat oo)), .val (.long xj), .second, .val (.int ub)] [(.int (3 : Int32)), (.int (Int32.ofNat oo)), (.ref ca)])) _
    refine XS.iadd X308.here hx rfl (hb hby d_method_4_code_43) rfl ?_
    show Steps p.tables e below (T308.setTop (mkF m 44 #[.val (.ref ca), .val (.int (Int32.ofNat oo)), .val (.long xj), .second, .val (.int ub)] [(.int ((Int32.ofNat oo) + (3 : Int32))), (.ref ca)])) _
    rw [(show Int32.ofNat oo + (3 : Int32) = Int32.ofNat (oo + 3) from own_addn oo 3)]
    show Steps p.tables e below (T308.setTop (mkF m 44 #[.val (.ref ca), .val (.int (Int32.ofNat oo)), .val (.long xj), .second, .val (.int ub)] [(.int (Int32.ofNat (oo + 3))), (.ref ca)])) _
    refine XS.lloadN X308.here hx rfl (hb hby d_method_4_code_44) rfl ?_
    show Steps p.tables e below (T308.setTop (mkF m 45 #[.val (.ref ca), .val (.int (Int32.ofNat oo)), .val (.long xj), .second, .val (.int ub)] [(.long xj), (.int (Int32.ofNat (oo + 3))), (.ref ca)])) _
    refine XS.bipush X308.here hx rfl (hb hby d_method_4_code_45) ?_
    show Steps p.tables e below (T308.setTop (mkF m 47 #[.val (.ref ca), .val (.int (Int32.ofNat oo)), .val (.long xj), .second, .val (.int ub)] [(.int (48 : Int32)), (.long xj), (.int (Int32.ofNat (oo + 3))), (.ref ca)])) _
    refine XS.iload X308.here hx rfl (hb hby d_method_4_code_47) rfl ?_
    show Steps p.tables e below (T308.setTop (mkF m 49 #[.val (.ref ca), .val (.int (Int32.ofNat oo)), .val (.long xj), .second, .val (.int ub)] [(.int ub), (.int (48 : Int32)), (.long xj), (.int (Int32.ofNat (oo + 3))), (.ref ca)])) _
    refine XS.iconst X308.here hx rfl (hb hby d_method_4_code_49) ?_
    show Steps p.tables e below (T308.setTop (mkF m 50 #[.val (.ref ca), .val (.int (Int32.ofNat oo)), .val (.long xj), .second, .val (.int ub)] [(.int (3 : Int32)), (.int ub), (.int (48 : Int32)), (.long xj), (.int (Int32.ofNat (oo + 3))), (.ref ca)])) _
    refine st310 _ ?_
    show Steps p.tables e below (T310.setTop (mkF m 53 #[.val (.ref ca), .val (.int (Int32.ofNat oo)), .val (.long xj), .second, .val (.int ub)] [(.int rv_310), (.int (Int32.ofNat (oo + 3))), (.ref ca)])) _
    refine st311 _ ?_
    show Steps p.tables e below (T311.setTop (mkF m 54 #[.val (.ref ca), .val (.int (Int32.ofNat oo)), .val (.long xj), .second, .val (.int ub)] [])) _
    refine XS.aloadN X311.here hx rfl (hb hby d_method_4_code_54) rfl rfl ?_
    show Steps p.tables e below (T311.setTop (mkF m 55 #[.val (.ref ca), .val (.int (Int32.ofNat oo)), .val (.long xj), .second, .val (.int ub)] [(.ref ca)])) _
    refine XS.iloadN X311.here hx rfl (hb hby d_method_4_code_55) rfl ?_
    show Steps p.tables e below (T311.setTop (mkF m 56 #[.val (.ref ca), .val (.int (Int32.ofNat oo)), .val (.long xj), .second, .val (.int ub)] [(.int (Int32.ofNat oo)), (.ref ca)])) _
    refine XS.iconst X311.here hx rfl (hb hby d_method_4_code_56) ?_
    show Steps p.tables e below (T311.setTop (mkF m 57 #[.val (.ref ca), .val (.int (Int32.ofNat oo)), .val (.long xj), .second, .val (.int ub)] [(.int (4 : Int32)), (.int (Int32.ofNat oo)), (.ref ca)])) _
    refine XS.iadd X311.here hx rfl (hb hby d_method_4_code_57) rfl ?_
    show Steps p.tables e below (T311.setTop (mkF m 58 #[.val (.ref ca), .val (.int (Int32.ofNat oo)), .val (.long xj), .second, .val (.int ub)] [(.int ((Int32.ofNat oo) + (4 : Int32))), (.ref ca)])) _
    rw [(show Int32.ofNat oo + (4 : Int32) = Int32.ofNat (oo + 4) from own_addn oo 4)]
    show Steps p.tables e below (T311.setTop (mkF m 58 #[.val (.ref ca), .val (.int (Int32.ofNat oo)), .val (.long xj), .second, .val (.int ub)] [(.int (Int32.ofNat (oo + 4))), (.ref ca)])) _
    refine XS.lloadN X311.here hx rfl (hb hby d_method_4_code_58) rfl ?_
    show Steps p.tables e below (T311.setTop (mkF m 59 #[.val (.ref ca), .val (.int (Int32.ofNat oo)), .val (.long xj), .second, .val (.int ub)] [(.long xj), (.int (Int32.ofNat (oo + 4))), (.ref ca)])) _
    refine XS.bipush X311.here hx rfl (hb hby d_method_4_code_59) ?_
    show Steps p.tables e below (T311.setTop (mkF m 61 #[.val (.ref ca), .val (.int (Int32.ofNat oo)), .val (.long xj), .second, .val (.int ub)] [(.int (44 : Int32)), (.long xj), (.int (Int32.ofNat (oo + 4))), (.ref ca)])) _
    refine XS.iload X311.here hx rfl (hb hby d_method_4_code_61) rfl ?_
    show Steps p.tables e below (T311.setTop (mkF m 63 #[.val (.ref ca), .val (.int (Int32.ofNat oo)), .val (.long xj), .second, .val (.int ub)] [(.int ub), (.int (44 : Int32)), (.long xj), (.int (Int32.ofNat (oo + 4))), (.ref ca)])) _
    refine XS.iconst X311.here hx rfl (hb hby d_method_4_code_63) ?_
    show Steps p.tables e below (T311.setTop (mkF m 64 #[.val (.ref ca), .val (.int (Int32.ofNat oo)), .val (.long xj), .second, .val (.int ub)] [(.int (4 : Int32)), (.int ub), (.int (44 : Int32)), (.long xj), (.int (Int32.ofNat (oo + 4))), (.ref ca)])) _
    refine st313 _ ?_
    show Steps p.tables e below (T313.setTop (mkF m 67 #[.val (.ref ca), .val (.int (Int32.ofNat oo)), .val (.long xj), .second, .val (.int ub)] [(.int rv_313), (.int (Int32.ofNat (oo + 4))), (.ref ca)])) _
    refine st314 _ ?_
    show Steps p.tables e below (T314.setTop (mkF m 68 #[.val (.ref ca), .val (.int (Int32.ofNat oo)), .val (.long xj), .second, .val (.int ub)] [])) _
    refine XS.aloadN X314.here hx rfl (hb hby d_method_4_code_68) rfl rfl ?_
    show Steps p.tables e below (T314.setTop (mkF m 69 #[.val (.ref ca), .val (.int (Int32.ofNat oo)), .val (.long xj), .second, .val (.int ub)] [(.ref ca)])) _
    refine XS.iloadN X314.here hx rfl (hb hby d_method_4_code_69) rfl ?_
    show Steps p.tables e below (T314.setTop (mkF m 70 #[.val (.ref ca), .val (.int (Int32.ofNat oo)), .val (.long xj), .second, .val (.int ub)] [(.int (Int32.ofNat oo)), (.ref ca)])) _
    refine XS.iconst X314.here hx rfl (hb hby d_method_4_code_70) ?_
    show Steps p.tables e below (T314.setTop (mkF m 71 #[.val (.ref ca), .val (.int (Int32.ofNat oo)), .val (.long xj), .second, .val (.int ub)] [(.int (5 : Int32)), (.int (Int32.ofNat oo)), (.ref ca)])) _
    refine XS.iadd X314.here hx rfl (hb hby d_method_4_code_71) rfl ?_
    show Steps p.tables e below (T314.setTop (mkF m 72 #[.val (.ref ca), .val (.int (Int32.ofNat oo)), .val (.long xj), .second, .val (.int ub)] [(.int ((Int32.ofNat oo) + (5 : Int32))), (.ref ca)])) _
    rw [(show Int32.ofNat oo + (5 : Int32) = Int32.ofNat (oo + 5) from own_addn oo 5)]
    show Steps p.tables e below (T314.setTop (mkF m 72 #[.val (.ref ca), .val (.int (Int32.ofNat oo)), .val (.long xj), .second, .val (.int ub)] [(.int (Int32.ofNat (oo + 5))), (.ref ca)])) _
    refine XS.lloadN X314.here hx rfl (hb hby d_method_4_code_72) rfl ?_
    show Steps p.tables e below (T314.setTop (mkF m 73 #[.val (.ref ca), .val (.int (Int32.ofNat oo)), .val (.long xj), .second, .val (.int ub)] [(.long xj), (.int (Int32.ofNat (oo + 5))), (.ref ca)])) _
    refine XS.bipush X314.here hx rfl (hb hby d_method_4_code_73) ?_
    show Steps p.tables e below (T314.setTop (mkF m 75 #[.val (.ref ca), .val (.int (Int32.ofNat oo)), .val (.long xj), .second, .val (.int ub)] [(.int (40 : Int32)), (.long xj), (.int (Int32.ofNat (oo + 5))), (.ref ca)])) _
    refine XS.iload X314.here hx rfl (hb hby d_method_4_code_75) rfl ?_
    show Steps p.tables e below (T314.setTop (mkF m 77 #[.val (.ref ca), .val (.int (Int32.ofNat oo)), .val (.long xj), .second, .val (.int ub)] [(.int ub), (.int (40 : Int32)), (.long xj), (.int (Int32.ofNat (oo + 5))), (.ref ca)])) _
    refine XS.iconst X314.here hx rfl (hb hby d_method_4_code_77) ?_
    show Steps p.tables e below (T314.setTop (mkF m 78 #[.val (.ref ca), .val (.int (Int32.ofNat oo)), .val (.long xj), .second, .val (.int ub)] [(.int (5 : Int32)), (.int ub), (.int (40 : Int32)), (.long xj), (.int (Int32.ofNat (oo + 5))), (.ref ca)])) _
    refine st316 _ ?_
    show Steps p.tables e below (T316.setTop (mkF m 81 #[.val (.ref ca), .val (.int (Int32.ofNat oo)), .val (.long xj), .second, .val (.int ub)] [(.int rv_316), (.int (Int32.ofNat (oo + 5))), (.ref ca)])) _
    refine st317 _ ?_
    show Steps p.tables e below (T317.setTop (mkF m 82 #[.val (.ref ca), .val (.int (Int32.ofNat oo)), .val (.long xj), .second, .val (.int ub)] [])) _
    refine XS.aloadN X317.here hx rfl (hb hby d_method_4_code_82) rfl rfl ?_
    show Steps p.tables e below (T317.setTop (mkF m 83 #[.val (.ref ca), .val (.int (Int32.ofNat oo)), .val (.long xj), .second, .val (.int ub)] [(.ref ca)])) _
    refine XS.iloadN X317.here hx rfl (hb hby d_method_4_code_83) rfl ?_
    show Steps p.tables e below (T317.setTop (mkF m 84 #[.val (.ref ca), .val (.int (Int32.ofNat oo)), .val (.long xj), .second, .val (.int ub)] [(.int (Int32.ofNat oo)), (.ref ca)])) _
    refine XS.bipush X317.here hx rfl (hb hby d_method_4_code_84) ?_
    show Steps p.tables e below (T317.setTop (mkF m 86 #[.val (.ref ca), .val (.int (Int32.ofNat oo)), .val (.long xj), .second, .val (.int ub)] [(.int (6 : Int32)), (.int (Int32.ofNat oo)), (.ref ca)])) _
    refine XS.iadd X317.here hx rfl (hb hby d_method_4_code_86) rfl ?_
    show Steps p.tables e below (T317.setTop (mkF m 87 #[.val (.ref ca), .val (.int (Int32.ofNat oo)), .val (.long xj), .second, .val (.int ub)] [(.int ((Int32.ofNat oo) + (6 : Int32))), (.ref ca)])) _
    rw [(show Int32.ofNat oo + (6 : Int32) = Int32.ofNat (oo + 6) from own_addn oo 6)]
    show Steps p.tables e below (T317.setTop (mkF m 87 #[.val (.ref ca), .val (.int (Int32.ofNat oo)), .val (.long xj), .second, .val (.int ub)] [(.int (Int32.ofNat (oo + 6))), (.ref ca)])) _
    refine XS.lloadN X317.here hx rfl (hb hby d_method_4_code_87) rfl ?_
    show Steps p.tables e below (T317.setTop (mkF m 88 #[.val (.ref ca), .val (.int (Int32.ofNat oo)), .val (.long xj), .second, .val (.int ub)] [(.long xj), (.int (Int32.ofNat (oo + 6))), (.ref ca)])) _
    refine XS.bipush X317.here hx rfl (hb hby d_method_4_code_88) ?_
    show Steps p.tables e below (T317.setTop (mkF m 90 #[.val (.ref ca), .val (.int (Int32.ofNat oo)), .val (.long xj), .second, .val (.int ub)] [(.int (36 : Int32)), (.long xj), (.int (Int32.ofNat (oo + 6))), (.ref ca)])) _
    refine XS.iload X317.here hx rfl (hb hby d_method_4_code_90) rfl ?_
    show Steps p.tables e below (T317.setTop (mkF m 92 #[.val (.ref ca), .val (.int (Int32.ofNat oo)), .val (.long xj), .second, .val (.int ub)] [(.int ub), (.int (36 : Int32)), (.long xj), (.int (Int32.ofNat (oo + 6))), (.ref ca)])) _
    refine XS.bipush X317.here hx rfl (hb hby d_method_4_code_92) ?_
    show Steps p.tables e below (T317.setTop (mkF m 94 #[.val (.ref ca), .val (.int (Int32.ofNat oo)), .val (.long xj), .second, .val (.int ub)] [(.int (6 : Int32)), (.int ub), (.int (36 : Int32)), (.long xj), (.int (Int32.ofNat (oo + 6))), (.ref ca)])) _
    refine st319 _ ?_
    show Steps p.tables e below (T319.setTop (mkF m 97 #[.val (.ref ca), .val (.int (Int32.ofNat oo)), .val (.long xj), .second, .val (.int ub)] [(.int rv_319), (.int (Int32.ofNat (oo + 6))), (.ref ca)])) _
    refine st320 _ ?_
    show Steps p.tables e below (T320.setTop (mkF m 98 #[.val (.ref ca), .val (.int (Int32.ofNat oo)), .val (.long xj), .second, .val (.int ub)] [])) _
    refine XS.aloadN X320.here hx rfl (hb hby d_method_4_code_98) rfl rfl ?_
    show Steps p.tables e below (T320.setTop (mkF m 99 #[.val (.ref ca), .val (.int (Int32.ofNat oo)), .val (.long xj), .second, .val (.int ub)] [(.ref ca)])) _
    refine XS.iloadN X320.here hx rfl (hb hby d_method_4_code_99) rfl ?_
    show Steps p.tables e below (T320.setTop (mkF m 100 #[.val (.ref ca), .val (.int (Int32.ofNat oo)), .val (.long xj), .second, .val (.int ub)] [(.int (Int32.ofNat oo)), (.ref ca)])) _
    refine XS.bipush X320.here hx rfl (hb hby d_method_4_code_100) ?_
    show Steps p.tables e below (T320.setTop (mkF m 102 #[.val (.ref ca), .val (.int (Int32.ofNat oo)), .val (.long xj), .second, .val (.int ub)] [(.int (7 : Int32)), (.int (Int32.ofNat oo)), (.ref ca)])) _
    refine XS.iadd X320.here hx rfl (hb hby d_method_4_code_102) rfl ?_
    show Steps p.tables e below (T320.setTop (mkF m 103 #[.val (.ref ca), .val (.int (Int32.ofNat oo)), .val (.long xj), .second, .val (.int ub)] [(.int ((Int32.ofNat oo) + (7 : Int32))), (.ref ca)])) _
    rw [(show Int32.ofNat oo + (7 : Int32) = Int32.ofNat (oo + 7) from own_addn oo 7)]
    show Steps p.tables e below (T320.setTop (mkF m 103 #[.val (.ref ca), .val (.int (Int32.ofNat oo)), .val (.long xj), .second, .val (.int ub)] [(.int (Int32.ofNat (oo + 7))), (.ref ca)])) _
    refine XS.lloadN X320.here hx rfl (hb hby d_method_4_code_103) rfl ?_
    show Steps p.tables e below (T320.setTop (mkF m 104 #[.val (.ref ca), .val (.int (Int32.ofNat oo)), .val (.long xj), .second, .val (.int ub)] [(.long xj), (.int (Int32.ofNat (oo + 7))), (.ref ca)])) _
    refine XS.bipush X320.here hx rfl (hb hby d_method_4_code_104) ?_
    show Steps p.tables e below (T320.setTop (mkF m 106 #[.val (.ref ca), .val (.int (Int32.ofNat oo)), .val (.long xj), .second, .val (.int ub)] [(.int (32 : Int32)), (.long xj), (.int (Int32.ofNat (oo + 7))), (.ref ca)])) _
    refine XS.iload X320.here hx rfl (hb hby d_method_4_code_106) rfl ?_
    show Steps p.tables e below (T320.setTop (mkF m 108 #[.val (.ref ca), .val (.int (Int32.ofNat oo)), .val (.long xj), .second, .val (.int ub)] [(.int ub), (.int (32 : Int32)), (.long xj), (.int (Int32.ofNat (oo + 7))), (.ref ca)])) _
    refine XS.bipush X320.here hx rfl (hb hby d_method_4_code_108) ?_
    show Steps p.tables e below (T320.setTop (mkF m 110 #[.val (.ref ca), .val (.int (Int32.ofNat oo)), .val (.long xj), .second, .val (.int ub)] [(.int (7 : Int32)), (.int ub), (.int (32 : Int32)), (.long xj), (.int (Int32.ofNat (oo + 7))), (.ref ca)])) _
    refine st322 _ ?_
    show Steps p.tables e below (T322.setTop (mkF m 113 #[.val (.ref ca), .val (.int (Int32.ofNat oo)), .val (.long xj), .second, .val (.int ub)] [(.int rv_322), (.int (Int32.ofNat (oo + 7))), (.ref ca)])) _
    refine st323 _ ?_
    show Steps p.tables e below (T323.setTop (mkF m 114 #[.val (.ref ca), .val (.int (Int32.ofNat oo)), .val (.long xj), .second, .val (.int ub)] [])) _
    refine XS.aloadN X323.here hx rfl (hb hby d_method_4_code_114) rfl rfl ?_
    show Steps p.tables e below (T323.setTop (mkF m 115 #[.val (.ref ca), .val (.int (Int32.ofNat oo)), .val (.long xj), .second, .val (.int ub)] [(.ref ca)])) _
    refine XS.iloadN X323.here hx rfl (hb hby d_method_4_code_115) rfl ?_
    show Steps p.tables e below (T323.setTop (mkF m 116 #[.val (.ref ca), .val (.int (Int32.ofNat oo)), .val (.long xj), .second, .val (.int ub)] [(.int (Int32.ofNat oo)), (.ref ca)])) _
    refine XS.bipush X323.here hx rfl (hb hby d_method_4_code_116) ?_
    show Steps p.tables e below (T323.setTop (mkF m 118 #[.val (.ref ca), .val (.int (Int32.ofNat oo)), .val (.long xj), .second, .val (.int ub)] [(.int (8 : Int32)), (.int (Int32.ofNat oo)), (.ref ca)])) _
    refine XS.iadd X323.here hx rfl (hb hby d_method_4_code_118) rfl ?_
    show Steps p.tables e below (T323.setTop (mkF m 119 #[.val (.ref ca), .val (.int (Int32.ofNat oo)), .val (.long xj), .second, .val (.int ub)] [(.int ((Int32.ofNat oo) + (8 : Int32))), (.ref ca)])) _
    rw [(show Int32.ofNat oo + (8 : Int32) = Int32.ofNat (oo + 8) from own_addn oo 8)]
    show Steps p.tables e below (T323.setTop (mkF m 119 #[.val (.ref ca), .val (.int (Int32.ofNat oo)), .val (.long xj), .second, .val (.int ub)] [(.int (Int32.ofNat (oo + 8))), (.ref ca)])) _
    refine XS.lloadN X323.here hx rfl (hb hby d_method_4_code_119) rfl ?_
    show Steps p.tables e below (T323.setTop (mkF m 120 #[.val (.ref ca), .val (.int (Int32.ofNat oo)), .val (.long xj), .second, .val (.int ub)] [(.long xj), (.int (Int32.ofNat (oo + 8))), (.ref ca)])) _
    refine XS.bipush X323.here hx rfl (hb hby d_method_4_code_120) ?_
    show Steps p.tables e below (T323.setTop (mkF m 122 #[.val (.ref ca), .val (.int (Int32.ofNat oo)), .val (.long xj), .second, .val (.int ub)] [(.int (28 : Int32)), (.long xj), (.int (Int32.ofNat (oo + 8))), (.ref ca)])) _
    refine XS.iload X323.here hx rfl (hb hby d_method_4_code_122) rfl ?_
    show Steps p.tables e below (T323.setTop (mkF m 124 #[.val (.ref ca), .val (.int (Int32.ofNat oo)), .val (.long xj), .second, .val (.int ub)] [(.int ub), (.int (28 : Int32)), (.long xj), (.int (Int32.ofNat (oo + 8))), (.ref ca)])) _
    refine XS.bipush X323.here hx rfl (hb hby d_method_4_code_124) ?_
    show Steps p.tables e below (T323.setTop (mkF m 126 #[.val (.ref ca), .val (.int (Int32.ofNat oo)), .val (.long xj), .second, .val (.int ub)] [(.int (8 : Int32)), (.int ub), (.int (28 : Int32)), (.long xj), (.int (Int32.ofNat (oo + 8))), (.ref ca)])) _
    refine st325 _ ?_
    show Steps p.tables e below (T325.setTop (mkF m 129 #[.val (.ref ca), .val (.int (Int32.ofNat oo)), .val (.long xj), .second, .val (.int ub)] [(.int rv_325), (.int (Int32.ofNat (oo + 8))), (.ref ca)])) _
    refine st326 _ ?_
    show Steps p.tables e below (T326.setTop (mkF m 130 #[.val (.ref ca), .val (.int (Int32.ofNat oo)), .val (.long xj), .second, .val (.int ub)] [])) _
    refine XS.aloadN X326.here hx rfl (hb hby d_method_4_code_130) rfl rfl ?_
    show Steps p.tables e below (T326.setTop (mkF m 131 #[.val (.ref ca), .val (.int (Int32.ofNat oo)), .val (.long xj), .second, .val (.int ub)] [(.ref ca)])) _
    refine XS.iloadN X326.here hx rfl (hb hby d_method_4_code_131) rfl ?_
    show Steps p.tables e below (T326.setTop (mkF m 132 #[.val (.ref ca), .val (.int (Int32.ofNat oo)), .val (.long xj), .second, .val (.int ub)] [(.int (Int32.ofNat oo)), (.ref ca)])) _
    refine XS.bipush X326.here hx rfl (hb hby d_method_4_code_132) ?_
    show Steps p.tables e below (T326.setTop (mkF m 134 #[.val (.ref ca), .val (.int (Int32.ofNat oo)), .val (.long xj), .second, .val (.int ub)] [(.int (9 : Int32)), (.int (Int32.ofNat oo)), (.ref ca)])) _
    refine XS.iadd X326.here hx rfl (hb hby d_method_4_code_134) rfl ?_
    show Steps p.tables e below (T326.setTop (mkF m 135 #[.val (.ref ca), .val (.int (Int32.ofNat oo)), .val (.long xj), .second, .val (.int ub)] [(.int ((Int32.ofNat oo) + (9 : Int32))), (.ref ca)])) _
    rw [(show Int32.ofNat oo + (9 : Int32) = Int32.ofNat (oo + 9) from own_addn oo 9)]
    show Steps p.tables e below (T326.setTop (mkF m 135 #[.val (.ref ca), .val (.int (Int32.ofNat oo)), .val (.long xj), .second, .val (.int ub)] [(.int (Int32.ofNat (oo + 9))), (.ref ca)])) _
    refine XS.lloadN X326.here hx rfl (hb hby d_method_4_code_135) rfl ?_
    show Steps p.tables e below (T326.setTop (mkF m 136 #[.val (.ref ca), .val (.int (Int32.ofNat oo)), .val (.long xj), .second, .val (.int ub)] [(.long xj), (.int (Int32.ofNat (oo + 9))), (.ref ca)])) _
    refine XS.bipush X326.here hx rfl (hb hby d_method_4_code_136) ?_
    show Steps p.tables e below (T326.setTop (mkF m 138 #[.val (.ref ca), .val (.int (Int32.ofNat oo)), .val (.long xj), .second, .val (.int ub)] [(.int (24 : Int32)), (.long xj), (.int (Int32.ofNat (oo + 9))), (.ref ca)])) _
    refine XS.iload X326.here hx rfl (hb hby d_method_4_code_138) rfl ?_
    show Steps p.tables e below (T326.setTop (mkF m 140 #[.val (.ref ca), .val (.int (Int32.ofNat oo)), .val (.long xj), .second, .val (.int ub)] [(.int ub), (.int (24 : Int32)), (.long xj), (.int (Int32.ofNat (oo + 9))), (.ref ca)])) _
    refine XS.bipush X326.here hx rfl (hb hby d_method_4_code_140) ?_
    show Steps p.tables e below (T326.setTop (mkF m 142 #[.val (.ref ca), .val (.int (Int32.ofNat oo)), .val (.long xj), .second, .val (.int ub)] [(.int (9 : Int32)), (.int ub), (.int (24 : Int32)), (.long xj), (.int (Int32.ofNat (oo + 9))), (.ref ca)])) _
    refine st328 _ ?_
    show Steps p.tables e below (T328.setTop (mkF m 145 #[.val (.ref ca), .val (.int (Int32.ofNat oo)), .val (.long xj), .second, .val (.int ub)] [(.int rv_328), (.int (Int32.ofNat (oo + 9))), (.ref ca)])) _
    refine st329 _ ?_
    show Steps p.tables e below (T329.setTop (mkF m 146 #[.val (.ref ca), .val (.int (Int32.ofNat oo)), .val (.long xj), .second, .val (.int ub)] [])) _
    refine XS.aloadN X329.here hx rfl (hb hby d_method_4_code_146) rfl rfl ?_
    show Steps p.tables e below (T329.setTop (mkF m 147 #[.val (.ref ca), .val (.int (Int32.ofNat oo)), .val (.long xj), .second, .val (.int ub)] [(.ref ca)])) _
    refine XS.iloadN X329.here hx rfl (hb hby d_method_4_code_147) rfl ?_
    show Steps p.tables e below (T329.setTop (mkF m 148 #[.val (.ref ca), .val (.int (Int32.ofNat oo)), .val (.long xj), .second, .val (.int ub)] [(.int (Int32.ofNat oo)), (.ref ca)])) _
    refine XS.bipush X329.here hx rfl (hb hby d_method_4_code_148) ?_
    show Steps p.tables e below (T329.setTop (mkF m 150 #[.val (.ref ca), .val (.int (Int32.ofNat oo)), .val (.long xj), .second, .val (.int ub)] [(.int (10 : Int32)), (.int (Int32.ofNat oo)), (.ref ca)])) _
    refine XS.iadd X329.here hx rfl (hb hby d_method_4_code_150) rfl ?_
    show Steps p.tables e below (T329.setTop (mkF m 151 #[.val (.ref ca), .val (.int (Int32.ofNat oo)), .val (.long xj), .second, .val (.int ub)] [(.int ((Int32.ofNat oo) + (10 : Int32))), (.ref ca)])) _
    rw [(show Int32.ofNat oo + (10 : Int32) = Int32.ofNat (oo + 10) from own_addn oo 10)]
    show Steps p.tables e below (T329.setTop (mkF m 151 #[.val (.ref ca), .val (.int (Int32.ofNat oo)), .val (.long xj), .second, .val (.int ub)] [(.int (Int32.ofNat (oo + 10))), (.ref ca)])) _
    refine XS.lloadN X329.here hx rfl (hb hby d_method_4_code_151) rfl ?_
    show Steps p.tables e below (T329.setTop (mkF m 152 #[.val (.ref ca), .val (.int (Int32.ofNat oo)), .val (.long xj), .second, .val (.int ub)] [(.long xj), (.int (Int32.ofNat (oo + 10))), (.ref ca)])) _
    refine XS.bipush X329.here hx rfl (hb hby d_method_4_code_152) ?_
    show Steps p.tables e below (T329.setTop (mkF m 154 #[.val (.ref ca), .val (.int (Int32.ofNat oo)), .val (.long xj), .second, .val (.int ub)] [(.int (20 : Int32)), (.long xj), (.int (Int32.ofNat (oo + 10))), (.ref ca)])) _
    refine XS.iload X329.here hx rfl (hb hby d_method_4_code_154) rfl ?_
    show Steps p.tables e below (T329.setTop (mkF m 156 #[.val (.ref ca), .val (.int (Int32.ofNat oo)), .val (.long xj), .second, .val (.int ub)] [(.int ub), (.int (20 : Int32)), (.long xj), (.int (Int32.ofNat (oo + 10))), (.ref ca)])) _
    refine XS.bipush X329.here hx rfl (hb hby d_method_4_code_156) ?_
    show Steps p.tables e below (T329.setTop (mkF m 158 #[.val (.ref ca), .val (.int (Int32.ofNat oo)), .val (.long xj), .second, .val (.int ub)] [(.int (10 : Int32)), (.int ub), (.int (20 : Int32)), (.long xj), (.int (Int32.ofNat (oo + 10))), (.ref ca)])) _
    refine st331 _ ?_
    show Steps p.tables e below (T331.setTop (mkF m 161 #[.val (.ref ca), .val (.int (Int32.ofNat oo)), .val (.long xj), .second, .val (.int ub)] [(.int rv_331), (.int (Int32.ofNat (oo + 10))), (.ref ca)])) _
    refine st332 _ ?_
    show Steps p.tables e below (T332.setTop (mkF m 162 #[.val (.ref ca), .val (.int (Int32.ofNat oo)), .val (.long xj), .second, .val (.int ub)] [])) _
    refine XS.aloadN X332.here hx rfl (hb hby d_method_4_code_162) rfl rfl ?_
    show Steps p.tables e below (T332.setTop (mkF m 163 #[.val (.ref ca), .val (.int (Int32.ofNat oo)), .val (.long xj), .second, .val (.int ub)] [(.ref ca)])) _
    refine XS.iloadN X332.here hx rfl (hb hby d_method_4_code_163) rfl ?_
    show Steps p.tables e below (T332.setTop (mkF m 164 #[.val (.ref ca), .val (.int (Int32.ofNat oo)), .val (.long xj), .second, .val (.int ub)] [(.int (Int32.ofNat oo)), (.ref ca)])) _
    refine XS.bipush X332.here hx rfl (hb hby d_method_4_code_164) ?_
    show Steps p.tables e below (T332.setTop (mkF m 166 #[.val (.ref ca), .val (.int (Int32.ofNat oo)), .val (.long xj), .second, .val (.int ub)] [(.int (11 : Int32)), (.int (Int32.ofNat oo)), (.ref ca)])) _
    refine XS.iadd X332.here hx rfl (hb hby d_method_4_code_166) rfl ?_
    show Steps p.tables e below (T332.setTop (mkF m 167 #[.val (.ref ca), .val (.int (Int32.ofNat oo)), .val (.long xj), .second, .val (.int ub)] [(.int ((Int32.ofNat oo) + (11 : Int32))), (.ref ca)])) _
    rw [(show Int32.ofNat oo + (11 : Int32) = Int32.ofNat (oo + 11) from own_addn oo 11)]
    show Steps p.tables e below (T332.setTop (mkF m 167 #[.val (.ref ca), .val (.int (Int32.ofNat oo)), .val (.long xj), .second, .val (.int ub)] [(.int (Int32.ofNat (oo + 11))), (.ref ca)])) _
    refine XS.lloadN X332.here hx rfl (hb hby d_method_4_code_167) rfl ?_
    show Steps p.tables e below (T332.setTop (mkF m 168 #[.val (.ref ca), .val (.int (Int32.ofNat oo)), .val (.long xj), .second, .val (.int ub)] [(.long xj), (.int (Int32.ofNat (oo + 11))), (.ref ca)])) _
    refine XS.bipush X332.here hx rfl (hb hby d_method_4_code_168) ?_
    show Steps p.tables e below (T332.setTop (mkF m 170 #[.val (.ref ca), .val (.int (Int32.ofNat oo)), .val (.long xj), .second, .val (.int ub)] [(.int (16 : Int32)), (.long xj), (.int (Int32.ofNat (oo + 11))), (.ref ca)])) _
    refine XS.iload X332.here hx rfl (hb hby d_method_4_code_170) rfl ?_
    show Steps p.tables e below (T332.setTop (mkF m 172 #[.val (.ref ca), .val (.int (Int32.ofNat oo)), .val (.long xj), .second, .val (.int ub)] [(.int ub), (.int (16 : Int32)), (.long xj), (.int (Int32.ofNat (oo + 11))), (.ref ca)])) _
    refine XS.bipush X332.here hx rfl (hb hby d_method_4_code_172) ?_
    show Steps p.tables e below (T332.setTop (mkF m 174 #[.val (.ref ca), .val (.int (Int32.ofNat oo)), .val (.long xj), .second, .val (.int ub)] [(.int (11 : Int32)), (.int ub), (.int (16 : Int32)), (.long xj), (.int (Int32.ofNat (oo + 11))), (.ref ca)])) _
    refine st334 _ ?_
    show Steps p.tables e below (T334.setTop (mkF m 177 #[.val (.ref ca), .val (.int (Int32.ofNat oo)), .val (.long xj), .second, .val (.int ub)] [(.int rv_334), (.int (Int32.ofNat (oo + 11))), (.ref ca)])) _
    refine st335 _ ?_
    show Steps p.tables e below (T335.setTop (mkF m 178 #[.val (.ref ca), .val (.int (Int32.ofNat oo)), .val (.long xj), .second, .val (.int ub)] [])) _
    refine XS.aloadN X335.here hx rfl (hb hby d_method_4_code_178) rfl rfl ?_
    show Steps p.tables e below (T335.setTop (mkF m 179 #[.val (.ref ca), .val (.int (Int32.ofNat oo)), .val (.long xj), .second, .val (.int ub)] [(.ref ca)])) _
    refine XS.iloadN X335.here hx rfl (hb hby d_method_4_code_179) rfl ?_
    show Steps p.tables e below (T335.setTop (mkF m 180 #[.val (.ref ca), .val (.int (Int32.ofNat oo)), .val (.long xj), .second, .val (.int ub)] [(.int (Int32.ofNat oo)), (.ref ca)])) _
    refine XS.bipush X335.here hx rfl (hb hby d_method_4_code_180) ?_
    show Steps p.tables e below (T335.setTop (mkF m 182 #[.val (.ref ca), .val (.int (Int32.ofNat oo)), .val (.long xj), .second, .val (.int ub)] [(.int (12 : Int32)), (.int (Int32.ofNat oo)), (.ref ca)])) _
    refine XS.iadd X335.here hx rfl (hb hby d_method_4_code_182) rfl ?_
    show Steps p.tables e below (T335.setTop (mkF m 183 #[.val (.ref ca), .val (.int (Int32.ofNat oo)), .val (.long xj), .second, .val (.int ub)] [(.int ((Int32.ofNat oo) + (12 : Int32))), (.ref ca)])) _
    rw [(show Int32.ofNat oo + (12 : Int32) = Int32.ofNat (oo + 12) from own_addn oo 12)]
    show Steps p.tables e below (T335.setTop (mkF m 183 #[.val (.ref ca), .val (.int (Int32.ofNat oo)), .val (.long xj), .second, .val (.int ub)] [(.int (Int32.ofNat (oo + 12))), (.ref ca)])) _
    refine XS.lloadN X335.here hx rfl (hb hby d_method_4_code_183) rfl ?_
    show Steps p.tables e below (T335.setTop (mkF m 184 #[.val (.ref ca), .val (.int (Int32.ofNat oo)), .val (.long xj), .second, .val (.int ub)] [(.long xj), (.int (Int32.ofNat (oo + 12))), (.ref ca)])) _
    refine XS.bipush X335.here hx rfl (hb hby d_method_4_code_184) ?_
    show Steps p.tables e below (T335.setTop (mkF m 186 #[.val (.ref ca), .val (.int (Int32.ofNat oo)), .val (.long xj), .second, .val (.int ub)] [(.int (12 : Int32)), (.long xj), (.int (Int32.ofNat (oo + 12))), (.ref ca)])) _
    refine XS.iload X335.here hx rfl (hb hby d_method_4_code_186) rfl ?_
    show Steps p.tables e below (T335.setTop (mkF m 188 #[.val (.ref ca), .val (.int (Int32.ofNat oo)), .val (.long xj), .second, .val (.int ub)] [(.int ub), (.int (12 : Int32)), (.long xj), (.int (Int32.ofNat (oo + 12))), (.ref ca)])) _
    refine XS.bipush X335.here hx rfl (hb hby d_method_4_code_188) ?_
    show Steps p.tables e below (T335.setTop (mkF m 190 #[.val (.ref ca), .val (.int (Int32.ofNat oo)), .val (.long xj), .second, .val (.int ub)] [(.int (12 : Int32)), (.int ub), (.int (12 : Int32)), (.long xj), (.int (Int32.ofNat (oo + 12))), (.ref ca)])) _
    refine st337 _ ?_
    show Steps p.tables e below (T337.setTop (mkF m 193 #[.val (.ref ca), .val (.int (Int32.ofNat oo)), .val (.long xj), .second, .val (.int ub)] [(.int rv_337), (.int (Int32.ofNat (oo + 12))), (.ref ca)])) _
    refine st338 _ ?_
    show Steps p.tables e below (T338.setTop (mkF m 194 #[.val (.ref ca), .val (.int (Int32.ofNat oo)), .val (.long xj), .second, .val (.int ub)] [])) _
    refine XS.aloadN X338.here hx rfl (hb hby d_method_4_code_194) rfl rfl ?_
    show Steps p.tables e below (T338.setTop (mkF m 195 #[.val (.ref ca), .val (.int (Int32.ofNat oo)), .val (.long xj), .second, .val (.int ub)] [(.ref ca)])) _
    refine XS.iloadN X338.here hx rfl (hb hby d_method_4_code_195) rfl ?_
    show Steps p.tables e below (T338.setTop (mkF m 196 #[.val (.ref ca), .val (.int (Int32.ofNat oo)), .val (.long xj), .second, .val (.int ub)] [(.int (Int32.ofNat oo)), (.ref ca)])) _
    refine XS.bipush X338.here hx rfl (hb hby d_method_4_code_196) ?_
    show Steps p.tables e below (T338.setTop (mkF m 198 #[.val (.ref ca), .val (.int (Int32.ofNat oo)), .val (.long xj), .second, .val (.int ub)] [(.int (13 : Int32)), (.int (Int32.ofNat oo)), (.ref ca)])) _
    refine XS.iadd X338.here hx rfl (hb hby d_method_4_code_198) rfl ?_
    show Steps p.tables e below (T338.setTop (mkF m 199 #[.val (.ref ca), .val (.int (Int32.ofNat oo)), .val (.long xj), .second, .val (.int ub)] [(.int ((Int32.ofNat oo) + (13 : Int32))), (.ref ca)])) _
    rw [(show Int32.ofNat oo + (13 : Int32) = Int32.ofNat (oo + 13) from own_addn oo 13)]
    show Steps p.tables e below (T338.setTop (mkF m 199 #[.val (.ref ca), .val (.int (Int32.ofNat oo)), .val (.long xj), .second, .val (.int ub)] [(.int (Int32.ofNat (oo + 13))), (.ref ca)])) _
    refine XS.lloadN X338.here hx rfl (hb hby d_method_4_code_199) rfl ?_
    show Steps p.tables e below (T338.setTop (mkF m 200 #[.val (.ref ca), .val (.int (Int32.ofNat oo)), .val (.long xj), .second, .val (.int ub)] [(.long xj), (.int (Int32.ofNat (oo + 13))), (.ref ca)])) _
    refine XS.bipush X338.here hx rfl (hb hby d_method_4_code_200) ?_
    show Steps p.tables e below (T338.setTop (mkF m 202 #[.val (.ref ca), .val (.int (Int32.ofNat oo)), .val (.long xj), .second, .val (.int ub)] [(.int (8 : Int32)), (.long xj), (.int (Int32.ofNat (oo + 13))), (.ref ca)])) _
    refine XS.iload X338.here hx rfl (hb hby d_method_4_code_202) rfl ?_
    show Steps p.tables e below (T338.setTop (mkF m 204 #[.val (.ref ca), .val (.int (Int32.ofNat oo)), .val (.long xj), .second, .val (.int ub)] [(.int ub), (.int (8 : Int32)), (.long xj), (.int (Int32.ofNat (oo + 13))), (.ref ca)])) _
    refine XS.bipush X338.here hx rfl (hb hby d_method_4_code_204) ?_
    show Steps p.tables e below (T338.setTop (mkF m 206 #[.val (.ref ca), .val (.int (Int32.ofNat oo)), .val (.long xj), .second, .val (.int ub)] [(.int (13 : Int32)), (.int ub), (.int (8 : Int32)), (.long xj), (.int (Int32.ofNat (oo + 13))), (.ref ca)])) _
    refine st340 _ ?_
    show Steps p.tables e below (T340.setTop (mkF m 209 #[.val (.ref ca), .val (.int (Int32.ofNat oo)), .val (.long xj), .second, .val (.int ub)] [(.int rv_340), (.int (Int32.ofNat (oo + 13))), (.ref ca)])) _
    refine st341 _ ?_
    show Steps p.tables e below (T341.setTop (mkF m 210 #[.val (.ref ca), .val (.int (Int32.ofNat oo)), .val (.long xj), .second, .val (.int ub)] [])) _
    refine XS.aloadN X341.here hx rfl (hb hby d_method_4_code_210) rfl rfl ?_
    show Steps p.tables e below (T341.setTop (mkF m 211 #[.val (.ref ca), .val (.int (Int32.ofNat oo)), .val (.long xj), .second, .val (.int ub)] [(.ref ca)])) _
    refine XS.iloadN X341.here hx rfl (hb hby d_method_4_code_211) rfl ?_
    show Steps p.tables e below (T341.setTop (mkF m 212 #[.val (.ref ca), .val (.int (Int32.ofNat oo)), .val (.long xj), .second, .val (.int ub)] [(.int (Int32.ofNat oo)), (.ref ca)])) _
    refine XS.bipush X341.here hx rfl (hb hby d_method_4_code_212) ?_
    show Steps p.tables e below (T341.setTop (mkF m 214 #[.val (.ref ca), .val (.int (Int32.ofNat oo)), .val (.long xj), .second, .val (.int ub)] [(.int (14 : Int32)), (.int (Int32.ofNat oo)), (.ref ca)])) _
    refine XS.iadd X341.here hx rfl (hb hby d_method_4_code_214) rfl ?_
    show Steps p.tables e below (T341.setTop (mkF m 215 #[.val (.ref ca), .val (.int (Int32.ofNat oo)), .val (.long xj), .second, .val (.int ub)] [(.int ((Int32.ofNat oo) + (14 : Int32))), (.ref ca)])) _
    rw [(show Int32.ofNat oo + (14 : Int32) = Int32.ofNat (oo + 14) from own_addn oo 14)]
    show Steps p.tables e below (T341.setTop (mkF m 215 #[.val (.ref ca), .val (.int (Int32.ofNat oo)), .val (.long xj), .second, .val (.int ub)] [(.int (Int32.ofNat (oo + 14))), (.ref ca)])) _
    refine XS.lloadN X341.here hx rfl (hb hby d_method_4_code_215) rfl ?_
    show Steps p.tables e below (T341.setTop (mkF m 216 #[.val (.ref ca), .val (.int (Int32.ofNat oo)), .val (.long xj), .second, .val (.int ub)] [(.long xj), (.int (Int32.ofNat (oo + 14))), (.ref ca)])) _
    refine XS.iconst X341.here hx rfl (hb hby d_method_4_code_216) ?_
    show Steps p.tables e below (T341.setTop (mkF m 217 #[.val (.ref ca), .val (.int (Int32.ofNat oo)), .val (.long xj), .second, .val (.int ub)] [(.int (4 : Int32)), (.long xj), (.int (Int32.ofNat (oo + 14))), (.ref ca)])) _
    refine XS.iload X341.here hx rfl (hb hby d_method_4_code_217) rfl ?_
    show Steps p.tables e below (T341.setTop (mkF m 219 #[.val (.ref ca), .val (.int (Int32.ofNat oo)), .val (.long xj), .second, .val (.int ub)] [(.int ub), (.int (4 : Int32)), (.long xj), (.int (Int32.ofNat (oo + 14))), (.ref ca)])) _
    refine XS.bipush X341.here hx rfl (hb hby d_method_4_code_219) ?_
    show Steps p.tables e below (T341.setTop (mkF m 221 #[.val (.ref ca), .val (.int (Int32.ofNat oo)), .val (.long xj), .second, .val (.int ub)] [(.int (14 : Int32)), (.int ub), (.int (4 : Int32)), (.long xj), (.int (Int32.ofNat (oo + 14))), (.ref ca)])) _
    refine st343 _ ?_
    show Steps p.tables e below (T343.setTop (mkF m 224 #[.val (.ref ca), .val (.int (Int32.ofNat oo)), .val (.long xj), .second, .val (.int ub)] [(.int rv_343), (.int (Int32.ofNat (oo + 14))), (.ref ca)])) _
    refine st344 _ ?_
    show Steps p.tables e below (T344.setTop (mkF m 225 #[.val (.ref ca), .val (.int (Int32.ofNat oo)), .val (.long xj), .second, .val (.int ub)] [])) _
    refine XS.aloadN X344.here hx rfl (hb hby d_method_4_code_225) rfl rfl ?_
    show Steps p.tables e below (T344.setTop (mkF m 226 #[.val (.ref ca), .val (.int (Int32.ofNat oo)), .val (.long xj), .second, .val (.int ub)] [(.ref ca)])) _
    refine XS.iloadN X344.here hx rfl (hb hby d_method_4_code_226) rfl ?_
    show Steps p.tables e below (T344.setTop (mkF m 227 #[.val (.ref ca), .val (.int (Int32.ofNat oo)), .val (.long xj), .second, .val (.int ub)] [(.int (Int32.ofNat oo)), (.ref ca)])) _
    refine XS.bipush X344.here hx rfl (hb hby d_method_4_code_227) ?_
    show Steps p.tables e below (T344.setTop (mkF m 229 #[.val (.ref ca), .val (.int (Int32.ofNat oo)), .val (.long xj), .second, .val (.int ub)] [(.int (15 : Int32)), (.int (Int32.ofNat oo)), (.ref ca)])) _
    refine XS.iadd X344.here hx rfl (hb hby d_method_4_code_229) rfl ?_
    show Steps p.tables e below (T344.setTop (mkF m 230 #[.val (.ref ca), .val (.int (Int32.ofNat oo)), .val (.long xj), .second, .val (.int ub)] [(.int ((Int32.ofNat oo) + (15 : Int32))), (.ref ca)])) _
    rw [(show Int32.ofNat oo + (15 : Int32) = Int32.ofNat (oo + 15) from own_addn oo 15)]
    show Steps p.tables e below (T344.setTop (mkF m 230 #[.val (.ref ca), .val (.int (Int32.ofNat oo)), .val (.long xj), .second, .val (.int ub)] [(.int (Int32.ofNat (oo + 15))), (.ref ca)])) _
    refine XS.lloadN X344.here hx rfl (hb hby d_method_4_code_230) rfl ?_
    show Steps p.tables e below (T344.setTop (mkF m 231 #[.val (.ref ca), .val (.int (Int32.ofNat oo)), .val (.long xj), .second, .val (.int ub)] [(.long xj), (.int (Int32.ofNat (oo + 15))), (.ref ca)])) _
    refine XS.iconst X344.here hx rfl (hb hby d_method_4_code_231) ?_
    show Steps p.tables e below (T344.setTop (mkF m 232 #[.val (.ref ca), .val (.int (Int32.ofNat oo)), .val (.long xj), .second, .val (.int ub)] [(.int (0 : Int32)), (.long xj), (.int (Int32.ofNat (oo + 15))), (.ref ca)])) _
    refine XS.iload X344.here hx rfl (hb hby d_method_4_code_232) rfl ?_
    show Steps p.tables e below (T344.setTop (mkF m 234 #[.val (.ref ca), .val (.int (Int32.ofNat oo)), .val (.long xj), .second, .val (.int ub)] [(.int ub), (.int (0 : Int32)), (.long xj), (.int (Int32.ofNat (oo + 15))), (.ref ca)])) _
    refine XS.bipush X344.here hx rfl (hb hby d_method_4_code_234) ?_
    show Steps p.tables e below (T344.setTop (mkF m 236 #[.val (.ref ca), .val (.int (Int32.ofNat oo)), .val (.long xj), .second, .val (.int ub)] [(.int (15 : Int32)), (.int ub), (.int (0 : Int32)), (.long xj), (.int (Int32.ofNat (oo + 15))), (.ref ca)])) _
    refine st346 _ ?_
    show Steps p.tables e below (T346.setTop (mkF m 239 #[.val (.ref ca), .val (.int (Int32.ofNat oo)), .val (.long xj), .second, .val (.int ub)] [(.int rv_346), (.int (Int32.ofNat (oo + 15))), (.ref ca)])) _
    refine st347 _ ?_
    show Steps p.tables e below (T347.setTop (mkF m 240 #[.val (.ref ca), .val (.int (Int32.ofNat oo)), .val (.long xj), .second, .val (.int ub)] [])) _
    exact X347.returnOut hx Bd.returns (hb hby d_method_4_code_240) hr
  · show Q_put16 Z ca oo xj ub kc cs h0 n0 _ T347.heap _
    rw [e347]
    exact ⟨rv_301, rv_304, rv_307, rv_310, rv_313, rv_316, rv_319, rv_322, rv_325, rv_328, rv_331, rv_334, rv_337, rv_340, rv_343, rv_346, rfl, N347, (((((((((((((((((Keep.refl h0 ([ca] : List Addr)).wr W302 (Or.inl (by simp))).wr W305 (Or.inl (by simp))).wr W308 (Or.inl (by simp))).wr W311 (Or.inl (by simp))).wr W314 (Or.inl (by simp))).wr W317 (Or.inl (by simp))).wr W320 (Or.inl (by simp))).wr W323 (Or.inl (by simp))).wr W326 (Or.inl (by simp))).wr W329 (Or.inl (by simp))).wr W332 (Or.inl (by simp))).wr W335 (Or.inl (by simp))).wr W338 (Or.inl (by simp))).wr W341 (Or.inl (by simp))).wr W344 (Or.inl (by simp))).wr W347 (Or.inl (by simp))), R349, f301_0, f304_0, f307_0, f310_0, f313_0, f316_0, f319_0, f322_0, f325_0, f328_0, f331_0, f334_0, f337_0, f340_0, f343_0, f346_0⟩
theorem d_jdk_2580_method_36_code_0 : decode jdk_2580_method_36_code 0 = .ok (.iload_n 0, 1) := by decide +kernel
theorem d_jdk_2580_method_36_code_1 : decode jdk_2580_method_36_code 1 = .ok (.bipush 8, 2) := by decide +kernel
theorem d_jdk_2580_method_36_code_3 : decode jdk_2580_method_36_code 3 = .ok (.iushr, 1) := by decide +kernel
theorem d_jdk_2580_method_36_code_4 : decode jdk_2580_method_36_code 4 = .ok (.ifCond .ne 15, 3) := by decide +kernel
theorem d_jdk_2580_method_36_code_7 : decode jdk_2580_method_36_code 7 = .ok (.getstatic 267, 3) := by decide +kernel
theorem d_jdk_2580_method_36_code_10 : decode jdk_2580_method_36_code 10 = .ok (.iload_n 0, 1) := by decide +kernel
theorem d_jdk_2580_method_36_code_11 : decode jdk_2580_method_36_code 11 = .ok (.baload, 1) := by decide +kernel
theorem d_jdk_2580_method_36_code_12 : decode jdk_2580_method_36_code 12 = .ok (.dup, 1) := by decide +kernel
theorem d_jdk_2580_method_36_code_13 : decode jdk_2580_method_36_code 13 = .ok (.istore_n 1, 1) := by decide +kernel
theorem d_jdk_2580_method_36_code_14 : decode jdk_2580_method_36_code 14 = .ok (.ifCond .lt 5, 3) := by decide +kernel
theorem d_jdk_2580_method_36_code_17 : decode jdk_2580_method_36_code 17 = .ok (.iload_n 1, 1) := by decide +kernel
theorem d_jdk_2580_method_36_code_18 : decode jdk_2580_method_36_code 18 = .ok (.ireturn, 1) := by decide +kernel
theorem ef_2 (m : MethodId) (x0 : Int32) : entryFrame m #[(.int x0)] 2 = mkF m 0 #[.val (.int x0), .unset] [] := by first | (simp [entryFrame, mkF, argsToLocals, Value.category]; done) | rfl
theorem pn_1 : plainName "java/util/HexFormat" = true := by first | (simp [plainName, overriddenIn]; done) | decide +kernel
def Q_fhd (Z : State) (xc : Int32) (dg : Addr) (kg : ClassId) (h0 : Heap) (n0 : Nat) (v : Option Value) (h : Heap) (L : List Loc) : Prop := (v = some (.int (own_dig xc))) ∧ (Fr n0 L) ∧ (h = h0)
set_option maxRecDepth 65536 in
set_option maxHeartbeats 40000000 in
theorem rm_fhd (l : Launch) (Z : State) (a0 : Array Value) (hw : ∀ d ∈ tables_1, d.before a0 Z = true) (ws : List Jvm.Cond) (xc : Int32) (dg : Addr) (kg : ClassId) (h0 : Heap) (n0 : Nat) (Z0 : n0 ≤ h0.size) (q0 : Sta Z Z.heap "java/util/HexFormat" "DIGITS" "[B" (.ref dg)) (q1 : Arv Z Z.heap dg kg .byte (256 : Int32) (own_D.map Value.int) (.int (0 : Int32))) (q2 : Old Z n0 h0) (hxc : ¬ xc < 0 ∧ ¬ (255 : Int32) < xc ∧ ¬ own_dig xc < 0) :
    MetFree l (⟨"java/util/HexFormat", "fromHexDigit", "(I)I"⟩ : MethodName) (head1 (Jvm.Cond.code (⟨"java/util/HexFormat", "fromHexDigit", "(I)I"⟩ : MethodName) jdk_2580_method_36_code 2 (some .int) :: ws) ({ frames := 0, cells := 0, slots := 0, locals := 0 } : Room)) (fun a₁ U₁ => a₁ = #[(.int xc)] ∧ Z.Warmed39 U₁.vm ∧ U₁.heap = h0) (fun _ _ _ _ _ => True) (fun _ U₁ o₁ U₂ => ∃ v₁ L₁, o₁ = .returned v₁ ∧ Q_fhd Z xc dg kg h0 n0 v₁ U₂.heap L₁ ∧ FrameEnd U₁ o₁ U₂ L₁ ({ frames := 0, cells := 0, slots := 0, locals := 0 } : Room).cells ({ frames := 0, cells := 0, slots := 0, locals := 0 } : Room).slots) := by
  refine MetFree.of_bodySF (plainFor_of_name pn_1) hisR ?_
  intro p e s m args below meth c s₁ Bd hml0 hP hK
  obtain ⟨rfl, hZ, hh⟩ := hP
  have hx := Bd.exec
  have hby := Bd.bytes
  have hml : c.maxLocals = 2 := hml0
  have hown : s.vm.findClass "java/util/HexFormat" = some m.cls := findClass_of_methodNamed Bd.named
  have hnm := (name_of_methodNamed Bd.named Bd.method).1
  have X0 : Stand p l e ({ frames := 0, cells := 0, slots := 0, locals := 0 } : Room) s m #[(.int xc)] below meth c s₁ [] 0 0 := Stand.of_body Bd
  have e0 : s₁.heap = h0 := by rw [← hh, Bd.state]; rfl
  have N0 := Fr.nil n0
  have pre0 : ∀ t, Steps p.tables e below (s₁.setTop (mkF m 0 #[.val (.int xc), .unset] [])) t → Steps p.tables e below (s₁.setTop (entryFrame m #[(.int xc)] 2)) t := fun t k => castTop (ef_2 m xc) k
  obtain ⟨T301, X301, e301, st301⟩ := getS2 X0 hx hZ hown (host := "") (Or.inl (hw _ (List.mem_of_getElem? (i := 139) rfl))) Via.refl e0 (q0.ext q2.2) (g := (mkF m 7 #[.val (.int xc), .unset] [])) rfl (hb hby d_jdk_2580_method_36_code_7)
  obtain ⟨cl302, Ar302, qq302, S302, M302, Hh302, U302⟩ := id (q1.ext q2.2)
  have ib302 : ¬ (xc < 0 ∨ cl302.slots.size ≤ (xc).toNatClampNeg) := inb_of S302 (own_in256 hxc.1 hxc.2.1)
  obtain ⟨fs, hr, hrun, hended, hW, hsame⟩ := X301.leave (v := some (.int (own_dig xc))) (fun h => by rw [Bd.returns] at h; cases h)
  refine ⟨_, _, pre0 _ ?_, hrun, hended, _, _, rfl, ?_, ⟨_, rfl⟩, hW, hsame.mono (by decide) (by decide)⟩
  · refine XS.iloadN X0.here hx rfl (hb hby d_jdk_2580_method_36_code_0) rfl ?_
    show Steps p.tables e below (s₁.setTop (mkF m 1 #[.val (.int xc), .unset] [(.int xc)])) _
    refine XS.bipush X0.here hx rfl (hb hby d_jdk_2580_method_36_code_1) ?_
    show Steps p.tables e below (s₁.setTop (mkF m 3 #[.val (.int xc), .unset] [(.int (8 : Int32)), (.int xc)])) _
    refine XS.iushr X0.here hx rfl (hb hby d_jdk_2580_method_36_code_3) rfl ?_
    show Steps p.tables e below (s₁.setTop (mkF m 4 #[.val (.int xc), .unset] [(.int ((xc.toUInt32 >>> ((8 : Int32) &&& 31).toUInt32).toInt32))])) _
    refine XS.ifNo X0.here hx rfl (hb hby d_jdk_2580_method_36_code_4) rfl ((if0 _ _).trans (teq ((own_ush8 hxc.1 hxc.2.1) : ((xc.toUInt32 >>> ((8 : Int32) &&& 31).toUInt32).toInt32) = (0 : Int32))).2) ?_
    show Steps p.tables e below (s₁.setTop (mkF m 7 #[.val (.int xc), .unset] [])) _
    refine st301 _ ?_
    show Steps p.tables e below (T301.setTop (mkF m 10 #[.val (.int xc), .unset] [(.ref dg)])) _
    refine XS.iloadN X301.here hx rfl (hb hby d_jdk_2580_method_36_code_10) rfl ?_
    show Steps p.tables e below (T301.setTop (mkF m 11 #[.val (.int xc), .unset] [(.int xc), (.ref dg)])) _
    refine X301.baloadBytes hx (j := xc) (v := (.int (own_dig xc))) (by rw [e301]; exact Ar302.1) (State.isArrayOf_alike hZ.alike Ar302.2.1) Ar302.2.2 ib302 (Hh302.at ib302 (own_digat hxc.1 hxc.2.1)) (g := (mkF m 11 #[.val (.int xc), .unset] [(.int xc), (.ref dg)])) rfl rfl (hb hby d_jdk_2580_method_36_code_11) _ ?_
    show Steps p.tables e below (T301.setTop (mkF m 12 #[.val (.int xc), .unset] [(.int (own_dig xc))])) _
    refine XS.dup X301.here hx rfl (hb hby d_jdk_2580_method_36_code_12) rfl rfl ?_
    show Steps p.tables e below (T301.setTop (mkF m 13 #[.val (.int xc), .unset] [(.int (own_dig xc)), (.int (own_dig xc))])) _
    refine XS.istoreN X301.here hx rfl (hb hby d_jdk_2580_method_36_code_13) rfl (l' := #[.val (.int xc), .val (.int (own_dig xc))]) rfl ?_
    show Steps p.tables e below (T301.setTop (mkF m 14 #[.val (.int xc), .val (.int (own_dig xc))] [(.int (own_dig xc))])) _
    refine XS.ifNo X301.here hx rfl (hb hby d_jdk_2580_method_36_code_14) rfl ((if0 _ _).trans (flt (hxc.2.2 : ¬ ((own_dig xc) < (0 : Int32)))).1) ?_
    show Steps p.tables e below (T301.setTop (mkF m 17 #[.val (.int xc), .val (.int (own_dig xc))] [])) _
    refine XS.iloadN X301.here hx rfl (hb hby d_jdk_2580_method_36_code_17) rfl ?_
    show Steps p.tables e below (T301.setTop (mkF m 18 #[.val (.int xc), .val (.int (own_dig xc))] [(.int (own_dig xc))])) _
    exact retI X301 hx Bd.returns (hb hby d_jdk_2580_method_36_code_18) hr
  · show Q_fhd Z xc dg kg h0 n0 _ T301.heap _
    rw [e301]
    exact ⟨rfl, N0, rfl⟩
theorem d_jdk_2580_method_37_code_0 : decode jdk_2580_method_37_code 0 = .ok (.aload_n 0, 1) := by decide +kernel
theorem d_jdk_2580_method_37_code_1 : decode jdk_2580_method_37_code 1 = .ok (.iload_n 1, 1) := by decide +kernel
theorem d_jdk_2580_method_37_code_2 : decode jdk_2580_method_37_code 2 = .ok (.invokeinterface 225 2, 5) := by decide +kernel
theorem pd_1 : parseMethodDescriptor "(I)C" = some ⟨[.int], some .char⟩ := by decide +kernel
theorem d_jdk_2580_method_37_code_7 : decode jdk_2580_method_37_code 7 = .ok (.invokestatic 280, 3) := by decide +kernel
theorem pd_2 : parseMethodDescriptor "(I)I" = some ⟨[.int], some .int⟩ := by decide +kernel
theorem d_jdk_2580_method_37_code_10 : decode jdk_2580_method_37_code 10 = .ok (.istore_n 2, 1) := by decide +kernel
theorem d_jdk_2580_method_37_code_11 : decode jdk_2580_method_37_code 11 = .ok (.aload_n 0, 1) := by decide +kernel
theorem d_jdk_2580_method_37_code_12 : decode jdk_2580_method_37_code 12 = .ok (.iload_n 1, 1) := by decide +kernel
theorem d_jdk_2580_method_37_code_13 : decode jdk_2580_method_37_code 13 = .ok (.iconst 1, 1) := by decide +kernel
theorem d_jdk_2580_method_37_code_14 : decode jdk_2580_method_37_code 14 = .ok (.iadd, 1) := by decide +kernel
theorem d_jdk_2580_method_37_code_15 : decode jdk_2580_method_37_code 15 = .ok (.invokeinterface 225 2, 5) := by decide +kernel
theorem d_jdk_2580_method_37_code_20 : decode jdk_2580_method_37_code 20 = .ok (.invokestatic 280, 3) := by decide +kernel
theorem d_jdk_2580_method_37_code_23 : decode jdk_2580_method_37_code 23 = .ok (.istore_n 3, 1) := by decide +kernel
theorem d_jdk_2580_method_37_code_24 : decode jdk_2580_method_37_code 24 = .ok (.iload_n 2, 1) := by decide +kernel
theorem d_jdk_2580_method_37_code_25 : decode jdk_2580_method_37_code 25 = .ok (.iconst 4, 1) := by decide +kernel
theorem d_jdk_2580_method_37_code_26 : decode jdk_2580_method_37_code 26 = .ok (.ishl, 1) := by decide +kernel
theorem d_jdk_2580_method_37_code_27 : decode jdk_2580_method_37_code 27 = .ok (.iload_n 3, 1) := by decide +kernel
theorem d_jdk_2580_method_37_code_28 : decode jdk_2580_method_37_code 28 = .ok (.ior, 1) := by decide +kernel
theorem d_jdk_2580_method_37_code_29 : decode jdk_2580_method_37_code 29 = .ok (.ireturn, 1) := by decide +kernel
theorem ef_3 (m : MethodId) (x0 : Addr) (x1 : Int32) : entryFrame m #[(.ref x0), (.int x1)] 4 = mkF m 0 #[.val (.ref x0), .val (.int x1), .unset, .unset] [] := by first | (simp [entryFrame, mkF, argsToLocals, Value.category]; done) | rfl
def Q_fhds (Z : State) (xs : Addr) (t1 : Addr) (k1 : ClassId) (nn : Int32) (vs : List Value) (ds : List Int32) (G : Int32) (fm : Value) (dg : Addr) (kg : ClassId) (ii : Nat) (h0 : Heap) (n0 : Nat) (v : Option Value) (h : Heap) (L : List Loc) : Prop := (v = some (.int (((own_dig (ds.getD ii 0)) <<< ((4 : Int32) &&& 31)) ||| (own_dig (ds.getD (ii + 1) 0))))) ∧ (Fr n0 L) ∧ (h = h0)
set_option maxRecDepth 65536 in
set_option maxHeartbeats 40000000 in
theorem rm_fhds (l : Launch) (Z : State) (a0 : Array Value) (hw : ∀ d ∈ tables_1, d.before a0 Z = true) (ws : List Jvm.Cond) (xs : Addr) (t1 : Addr) (k1 : ClassId) (nn : Int32) (vs : List Value) (ds : List Int32) (G : Int32) (fm : Value) (dg : Addr) (kg : ClassId) (ii : Nat) (h0 : Heap) (n0 : Nat) (Z0 : n0 ≤ h0.size) (q0 : Sta Z Z.heap "java/lang/String" "COMPACT_STRINGS" "Z" (.int G)) (hCS : ¬ (G = (0 : Int32))) (q2 : Sta Z Z.heap "jdk/internal/util/Preconditions" "SIOOBE_FORMATTER" "Ljava/util/function/BiFunction;" fm) (hFM : fm.isRef = true) (q4 : Sta Z Z.heap "java/util/HexFormat" "DIGITS" "[B" (.ref dg)) (q5 : Arv Z Z.heap dg kg .byte (256 : Int32) (own_D.map Value.int) (.int (0 : Int32))) (q6 : Old Z n0 h0) (q7 : Exa Z h0 xs "java/lang/String") (q8 : Fld Z h0 xs "java/lang/String" "value" "[B" (.ref t1)) (q9 : Fld Z h0 xs "java/lang/String" "coder" "B" (.int (0 : Int32))) (q10 : Arv Z h0 t1 k1 .byte nn vs (.int 0)) (hcd1 : StrChars.Road.CodA ds 0 nn vs) (hbd1 : ∀ c ∈ ds, ¬ c < 0 ∧ ¬ (65535 : Int32) < c) (hle1 : ds.length ≤ 4000) (hD : ∀ c ∈ ds, ¬ c < 0 ∧ ¬ (255 : Int32) < c ∧ ¬ own_dig c < 0) (hii : ii + 1 < ds.length) :
    MetFree l (⟨"java/util/HexFormat", "fromHexDigits", "(Ljava/lang/CharSequence;I)I"⟩ : MethodName) (head1 (Jvm.Cond.code (⟨"java/util/HexFormat", "fromHexDigits", "(Ljava/lang/CharSequence;I)I"⟩ : MethodName) jdk_2580_method_37_code 4 (some .int) :: ws) ({ frames := 4, cells := 0, slots := 0, locals := 53 } : Room)) (fun a₁ U₁ => a₁ = #[(.ref xs), (.int (Int32.ofNat ii))] ∧ Z.Warmed39 U₁.vm ∧ U₁.heap = h0) (fun _ _ _ _ _ => True) (fun _ U₁ o₁ U₂ => ∃ v₁ L₁, o₁ = .returned v₁ ∧ Q_fhds Z xs t1 k1 nn vs ds G fm dg kg ii h0 n0 v₁ U₂.heap L₁ ∧ FrameEnd U₁ o₁ U₂ L₁ ({ frames := 4, cells := 0, slots := 0, locals := 53 } : Room).cells ({ frames := 4, cells := 0, slots := 0, locals := 53 } : Room).slots) := by
  refine MetFree.of_bodySF (plainFor_of_name pn_1) hisR ?_
  intro p e s m args below meth c s₁ Bd hml0 hP hK
  obtain ⟨rfl, hZ, hh⟩ := hP
  have hx := Bd.exec
  have hby := Bd.bytes
  have hml : c.maxLocals = 4 := hml0
  have hown : s.vm.findClass "java/util/HexFormat" = some m.cls := findClass_of_methodNamed Bd.named
  have hnm := (name_of_methodNamed Bd.named Bd.method).1
  have X0 : Stand p l e ({ frames := 4, cells := 0, slots := 0, locals := 53 } : Room) s m #[(.ref xs), (.int (Int32.ofNat ii))] below meth c s₁ [] 0 0 := Stand.of_body Bd
  have e0 : s₁.heap = h0 := by rw [← hh, Bd.state]; rfl
  have N0 := Fr.nil n0
  have pre0 : ∀ t, Steps p.tables e below (s₁.setTop (mkF m 0 #[.val (.ref xs), .val (.int (Int32.ofNat ii)), .unset, .unset] [])) t → Steps p.tables e below (s₁.setTop (entryFrame m #[(.ref xs), (.int (Int32.ofNat ii))] 4)) t := fun t k => castTop (ef_3 m xs (Int32.ofNat ii)) k
  obtain ⟨cq301, kq301, q301a, q301b, q301c⟩ := isOf hZ e0 q7
  obtain ⟨_, _, ⟨T301, L301, k301, n301⟩, -, X301, ⟨Lc301, hQ301, l301, y301, z301⟩, st301⟩ := X0.interfaceBack hx (xi := (⟨"java/lang/CharSequence", "charAt", "(I)C"⟩ : MethodName)) (y := (⟨"java/lang/String", "charAt", "(I)C"⟩ : MethodName)) hown (mvT hZ (hw _ (List.mem_of_getElem? (i := 112) rfl))) (mvT hZ (hw _ (List.mem_of_getElem? (i := 113) rfl))) (mvT hZ (hw _ (List.mem_of_getElem? (i := 114) rfl))) (mvT hZ (hw _ (List.mem_of_getElem? (i := 115) rfl))) (mvT hZ (hw _ (List.mem_of_getElem? (i := 116) rfl))) (mvT hZ (hw _ (List.mem_of_getElem? (i := 117) rfl))) (mvT hZ (hw _ (List.mem_of_getElem? (i := 118) rfl))) (mvT hZ (hw _ (List.mem_of_getElem? (i := 69) rfl))) (by decide) (StrChars.Road.chN (W := 0) hZ (own_hw_chN hw) (kI := 4) (hw _ (List.mem_of_getElem? (i := 11) rfl)) q7 q8 q9 q10 hcd1 hbd1 (q0.ext q6.2) hCS (q2.ext q6.2) hFM hle1 (i := ii) (by omega) (j := (Int32.ofNat ii)) rfl (by decide) (by decide)) q301a q301b q301c (g := (mkF m 2 #[.val (.ref xs), .val (.int (Int32.ofNat ii)), .unset, .unset] [(.int (Int32.ofNat ii)), (.ref xs)])) rfl (by rw [hml]; rfl) (Steps.refl _) (argsL := [(.int (Int32.ofNat ii))]) (rest := []) (lenOf pd_1 rfl) rfl (by show 2 * 0 + _ ≤ _; exact Nat.le_of_eq rfl) (hb hby d_jdk_2580_method_37_code_2) (fun _ _ => ⟨rfl, e0, (by decide : 0 + 0 ≤ _), (by decide : 0 + 0 ≤ _)⟩)
  dsimp only [Pt.U, Pt.locs, Pt.cells, Pt.slots] at X301 l301 y301 z301 st301 hQ301
  replace l301 := l301.symm
  replace y301 := y301.symm
  replace z301 := z301.symm
  subst l301 y301 z301
  obtain ⟨rfl, rfl, e301⟩ := hQ301
  have N301 := Fr.app N0 (Fr.nil n0)
  obtain ⟨_, _, ⟨T302, L302, k302, n302⟩, -, X302, ⟨Lc302, hQ302, l302, y302, z302⟩, st302⟩ := Jvm.LawKit.callS X301 hx (y := (⟨"java/util/HexFormat", "fromHexDigit", "(I)I"⟩ : MethodName)) hown (mvT hZ (hw _ (List.mem_of_getElem? (i := 136) rfl))) (mvT hZ (hw _ (List.mem_of_getElem? (i := 137) rfl))) (mvT hZ (hw _ (List.mem_of_getElem? (i := 61) rfl))) (mvT hZ (hw _ (List.mem_of_getElem? (i := 138) rfl))) (by decide) (backOf (W := 0) (rm_fhd l Z a0 hw [] ((ds).getD ii 0) dg kg h0 n0 Z0 q4 q5 q6 (hD _ (own_getmem (by omega)))) hZ (hw _ (List.mem_of_getElem? (i := 138) rfl)) (hw _ (List.mem_of_getElem? (i := 61) rfl)) (by decide) (by decide)) (g := (mkF m 7 #[.val (.ref xs), .val (.int (Int32.ofNat ii)), .unset, .unset] [(.int ((ds).getD ii 0))])) rfl (by rw [hml]; rfl) (argsL := [(.int ((ds).getD ii 0))]) (rest := []) (lenOf pd_2 rfl) rfl (by show 2 * 0 + _ ≤ _; exact Nat.le_of_eq rfl) (hb hby d_jdk_2580_method_37_code_7) (fun _ _ => ⟨rfl, e301, (by decide : 0 + 0 ≤ _), (by decide : 0 + 0 ≤ _)⟩)
  dsimp only [Pt.U, Pt.locs, Pt.cells, Pt.slots] at X302 l302 y302 z302 st302 hQ302
  replace l302 := l302.symm
  replace y302 := y302.symm
  replace z302 := z302.symm
  subst l302 y302 z302
  obtain ⟨rfl, Nq302, e302⟩ := hQ302
  have N302 := Fr.app N301 Nq302
  obtain ⟨cq303, kq303, q303a, q303b, q303c⟩ := isOf hZ e302 q7
  obtain ⟨_, _, ⟨T303, L303, k303, n303⟩, -, X303, ⟨Lc303, hQ303, l303, y303, z303⟩, st303⟩ := X302.interfaceBack hx (xi := (⟨"java/lang/CharSequence", "charAt", "(I)C"⟩ : MethodName)) (y := (⟨"java/lang/String", "charAt", "(I)C"⟩ : MethodName)) hown (mvT hZ (hw _ (List.mem_of_getElem? (i := 112) rfl))) (mvT hZ (hw _ (List.mem_of_getElem? (i := 113) rfl))) (mvT hZ (hw _ (List.mem_of_getElem? (i := 114) rfl))) (mvT hZ (hw _ (List.mem_of_getElem? (i := 115) rfl))) (mvT hZ (hw _ (List.mem_of_getElem? (i := 116) rfl))) (mvT hZ (hw _ (List.mem_of_getElem? (i := 117) rfl))) (mvT hZ (hw _ (List.mem_of_getElem? (i := 118) rfl))) (mvT hZ (hw _ (List.mem_of_getElem? (i := 69) rfl))) (by decide) (StrChars.Road.chN (W := 0) hZ (own_hw_chN hw) (kI := 4) (hw _ (List.mem_of_getElem? (i := 11) rfl)) q7 q8 q9 q10 hcd1 hbd1 (q0.ext q6.2) hCS (q2.ext q6.2) hFM hle1 (i := (ii + 1)) hii (j := (Int32.ofNat (ii + 1))) rfl (by decide) (by decide)) q303a q303b q303c (g := (mkF m 15 #[.val (.ref xs), .val (.int (Int32.ofNat ii)), .val (.int (own_dig ((ds).getD ii 0))), .unset] [(.int (Int32.ofNat (ii + 1))), (.ref xs)])) rfl (by rw [hml]; rfl) (Steps.refl _) (argsL := [(.int (Int32.ofNat (ii + 1)))]) (rest := []) (lenOf pd_1 rfl) rfl (by show 2 * 0 + _ ≤ _; exact Nat.le_of_eq rfl) (hb hby d_jdk_2580_method_37_code_15) (fun _ _ => ⟨rfl, e302, (by decide : 0 + 0 ≤ _), (by decide : 0 + 0 ≤ _)⟩)
  dsimp only [Pt.U, Pt.locs, Pt.cells, Pt.slots] at X303 l303 y303 z303 st303 hQ303
  replace l303 := l303.symm
  replace y303 := y303.symm
  replace z303 := z303.symm
  subst l303 y303 z303
  obtain ⟨rfl, rfl, e303⟩ := hQ303
  have N303 := Fr.app N302 (Fr.nil n0)
  obtain ⟨_, _, ⟨T304, L304, k304, n304⟩, -, X304, ⟨Lc304, hQ304, l304, y304, z304⟩, st304⟩ := Jvm.LawKit.callS X303 hx (y := (⟨"java/util/HexFormat", "fromHexDigit", "(I)I"⟩ : MethodName)) hown (mvT hZ (hw _ (List.mem_of_getElem? (i := 136) rfl))) (mvT hZ (hw _ (List.mem_of_getElem? (i := 137) rfl))) (mvT hZ (hw _ (List.mem_of_getElem? (i := 61) rfl))) (mvT hZ (hw _ (List.mem_of_getElem? (i := 138) rfl))) (by decide) (backOf (W := 0) (rm_fhd l Z a0 hw [] ((ds).getD (ii + 1) 0) dg kg h0 n0 Z0 q4 q5 q6 (hD _ (own_getmem hii))) hZ (hw _ (List.mem_of_getElem? (i := 138) rfl)) (hw _ (List.mem_of_getElem? (i := 61) rfl)) (by decide) (by decide)) (g := (mkF m 20 #[.val (.ref xs), .val (.int (Int32.ofNat ii)), .val (.int (own_dig ((ds).getD ii 0))), .unset] [(.int ((ds).getD (ii + 1) 0))])) rfl (by rw [hml]; rfl) (argsL := [(.int ((ds).getD (ii + 1) 0))]) (rest := []) (lenOf pd_2 rfl) rfl (by show 2 * 0 + _ ≤ _; exact Nat.le_of_eq rfl) (hb hby d_jdk_2580_method_37_code_20) (fun _ _ => ⟨rfl, e303, (by decide : 0 + 0 ≤ _), (by decide : 0 + 0 ≤ _)⟩)
  dsimp only [Pt.U, Pt.locs, Pt.cells, Pt.slots] at X304 l304 y304 z304 st304 hQ304
  replace l304 := l304.symm
  replace y304 := y304.symm
  replace z304 := z304.symm
  subst l304 y304 z304
  obtain ⟨rfl, Nq304, e304⟩ := hQ304
  have N304 := Fr.app N303 Nq304
  obtain ⟨fs, hr, hrun, hended, hW, hsame⟩ := X304.leave (v := some (.int (((own_dig (ds.getD ii 0)) <<< ((4 : Int32) &&& 31)) ||| (own_dig (ds.getD (ii + 1) 0))))) (fun h => by rw [Bd.returns] at h; cases h)
  refine ⟨_, _, pre0 _ ?_, hrun, hended, _, _, rfl, ?_, ⟨_, rfl⟩, hW, hsame.mono (by decide) (by decide)⟩
  · refine XS.aloadN X0.here hx rfl (hb hby d_jdk_2580_method_37_code_0) rfl rfl ?_
    show Steps p.tables e below (s₁.setTop (mkF m 1 #[.val (.ref xs), .val (.int (Int32.ofNat ii)), .unset, .unset] [(.ref xs)])) _
    refine XS.iloadN X0.here hx rfl (hb hby d_jdk_2580_method_37_code_1) rfl ?_
    show Steps p.tables e below (s₁.setTop (mkF m 2 #[.val (.ref xs), .val (.int (Int32.ofNat ii)), .unset, .unset] [(.int (Int32.ofNat ii)), (.ref xs)])) _
    refine st301.trans ?_
    show Steps p.tables e below (T301.setTop (mkF m 7 #[.val (.ref xs), .val (.int (Int32.ofNat ii)), .unset, .unset] [(.int ((ds).getD ii 0))])) _
    refine st302 _ ?_
    show Steps p.tables e below (T302.setTop (mkF m 10 #[.val (.ref xs), .val (.int (Int32.ofNat ii)), .unset, .unset] [(.int (own_dig ((ds).getD ii 0)))])) _
    refine XS.istoreN X302.here hx rfl (hb hby d_jdk_2580_method_37_code_10) rfl (l' := #[.val (.ref xs), .val (.int (Int32.ofNat ii)), .val (.int (own_dig ((ds).getD ii 0))), .unset]) rfl ?_
    show Steps p.tables e below (T302.setTop (mkF m 11 #[.val (.ref xs), .val (.int (Int32.ofNat ii)), .val (.int (own_dig ((ds).getD ii 0))), .unset] [])) _
    refine XS.aloadN X302.here hx rfl (hb hby d_jdk_2580_method_37_code_11) rfl rfl ?_
    show Steps p.tables e below (T302.setTop (mkF m 12 #[.val (.ref xs), .val (.int (Int32.ofNat ii)), .val (.int (own_dig ((ds).getD ii 0))), .unset] [(.ref xs)])) _
    refine XS.iloadN X302.here hx rfl (hb hby d_jdk_2580_method_37_code_12) rfl ?_
    show Steps p.tables e below (T302.setTop (mkF m 13 #[.val (.ref xs), .val (.int (Int32.ofNat ii)), .val (.int (own_dig ((ds).getD ii 0))), .unset] [(.int (Int32.ofNat ii)), (.ref xs)])) _
    refine XS.iconst X302.here hx rfl (hb hby d_jdk_2580_method_37_code_13) ?_
    show Steps p.tables e below (T302.setTop (mkF m 14 #[.val (.ref xs), .val (.int (Int32.ofNat ii)), .val (.int (own_dig ((ds).getD ii 0))), .unset] [(.int (1 : Int32)), (.int (Int32.ofNat ii)), (.ref xs)])) _
    refine XS.iadd X302.here hx rfl (hb hby d_jdk_2580_method_37_code_14) rfl ?_
    show Steps p.tables e below (T302.setTop (mkF m 15 #[.val (.ref xs), .val (.int (Int32.ofNat ii)), .val (.int (own_dig ((ds).getD ii 0))), .unset] [(.int ((Int32.ofNat ii) + (1 : Int32))), (.ref xs)])) _
    rw [← inc_ofNat]
    show Steps p.tables e below (T302.setTop (mkF m 15 #[.val (.ref xs), .val (.int (Int32.ofNat ii)), .val (.int (own_dig ((ds).getD ii 0))), .unset] [(.int (Int32.ofNat (ii + 1))), (.ref xs)])) _
    refine st303.trans ?_
    show Steps p.tables e below (T303.setTop (mkF m 20 #[.val (.ref xs), .val (.int (Int32.ofNat ii)), .val (.int (own_dig ((ds).getD ii 0))), .unset] [(.int ((ds).getD (ii + 1) 0))])) _
    refine st304 _ ?_
    show Steps p.tables e below (T304.setTop (mkF m 23 #[.val (.ref xs), .val (.int (Int32.ofNat ii)), .val (.int (own_dig ((ds).getD ii 0))), .unset] [(.int (own_dig ((ds).getD (ii + 1) 0)))])) _
    refine XS.istoreN X304.here hx rfl (hb hby d_jdk_2580_method_37_code_23) rfl (l' := #[.val (.ref xs), .val (.int (Int32.ofNat ii)), .val (.int (own_dig ((ds).getD ii 0))), .val (.int (own_dig ((ds).getD (ii + 1) 0)))]) rfl ?_
    show Steps p.tables e below (T304.setTop (mkF m 24 #[.val (.ref xs), .val (.int (Int32.ofNat ii)), .val (.int (own_dig ((ds).getD ii 0))), .val (.int (own_dig ((ds).getD (ii + 1) 0)))] [])) _
    refine XS.iloadN X304.here hx rfl (hb hby d_jdk_2580_method_37_code_24) rfl ?_
    show Steps p.tables e below (T304.setTop (mkF m 25 #[.val (.ref xs), .val (.int (Int32.ofNat ii)), .val (.int (own_dig ((ds).getD ii 0))), .val (.int (own_dig ((ds).getD (ii + 1) 0)))] [(.int (own_dig ((ds).getD ii 0)))])) _
    refine XS.iconst X304.here hx rfl (hb hby d_jdk_2580_method_37_code_25) ?_
    show Steps p.tables e below (T304.setTop (mkF m 26 #[.val (.ref xs), .val (.int (Int32.ofNat ii)), .val (.int (own_dig ((ds).getD ii 0))), .val (.int (own_dig ((ds).getD (ii + 1) 0)))] [(.int (4 : Int32)), (.int (own_dig ((ds).getD ii 0)))])) _
    refine XS.ishl X304.here hx rfl (hb hby d_jdk_2580_method_37_code_26) rfl ?_
    show Steps p.tables e below (T304.setTop (mkF m 27 #[.val (.ref xs), .val (.int (Int32.ofNat ii)), .val (.int (own_dig ((ds).getD ii 0))), .val (.int (own_dig ((ds).getD (ii + 1) 0)))] [(.int ((own_dig ((ds).getD ii 0)) <<< ((4 : Int32) &&& 31)))])) _
    refine XS.iloadN X304.here hx rfl (hb hby d_jdk_2580_method_37_code_27) rfl ?_
    show Steps p.tables e below (T304.setTop (mkF m 28 #[.val (.ref xs), .val (.int (Int32.ofNat ii)), .val (.int (own_dig ((ds).getD ii 0))), .val (.int (own_dig ((ds).getD (ii + 1) 0)))] [(.int (own_dig ((ds).getD (ii + 1) 0))), (.int ((own_dig ((ds).getD ii 0)) <<< ((4 : Int32) &&& 31)))])) _
    refine XS.ior X304.here hx rfl (hb hby d_jdk_2580_method_37_code_28) rfl ?_
    show Steps p.tables e below (T304.setTop (mkF m 29 #[.val (.ref xs), .val (.int (Int32.ofNat ii)), .val (.int (own_dig ((ds).getD ii 0))), .val (.int (own_dig ((ds).getD (ii + 1) 0)))] [(.int (((own_dig ((ds).getD ii 0)) <<< ((4 : Int32) &&& 31)) ||| (own_dig ((ds).getD (ii + 1) 0))))])) _
    exact retI X304 hx Bd.returns (hb hby d_jdk_2580_method_37_code_29) hr
  · show Q_fhds Z xs t1 k1 nn vs ds G fm dg kg ii h0 n0 _ T304.heap _
    rw [e304]
    exact ⟨rfl, N304, rfl⟩
theorem d_jdk_2580_method_33_code_57 : decode jdk_2580_method_33_code 57 = .ok (.iload_n 2, 1) := by decide +kernel
theorem d_jdk_2580_method_33_code_58 : decode jdk_2580_method_33_code 58 = .ok (.aload_n 1, 1) := by decide +kernel
theorem d_jdk_2580_method_33_code_59 : decode jdk_2580_method_33_code 59 = .ok (.arraylength, 1) := by decide +kernel
theorem d_jdk_2580_method_33_code_60 : decode jdk_2580_method_33_code 60 = .ok (.if_icmp .ge 20, 3) := by decide +kernel
theorem d_jdk_2580_method_33_code_63 : decode jdk_2580_method_33_code 63 = .ok (.aload_n 1, 1) := by decide +kernel
theorem d_jdk_2580_method_33_code_64 : decode jdk_2580_method_33_code 64 = .ok (.iload_n 2, 1) := by decide +kernel
theorem d_jdk_2580_method_33_code_65 : decode jdk_2580_method_33_code 65 = .ok (.aload_n 0, 1) := by decide +kernel
theorem d_jdk_2580_method_33_code_66 : decode jdk_2580_method_33_code 66 = .ok (.iload_n 2, 1) := by decide +kernel
theorem d_jdk_2580_method_33_code_67 : decode jdk_2580_method_33_code 67 = .ok (.iconst 2, 1) := by decide +kernel
theorem d_jdk_2580_method_33_code_68 : decode jdk_2580_method_33_code 68 = .ok (.imul, 1) := by decide +kernel
theorem d_jdk_2580_method_33_code_69 : decode jdk_2580_method_33_code 69 = .ok (.invokestatic 205, 3) := by decide +kernel
theorem pd_3 : parseMethodDescriptor "(Ljava/lang/CharSequence;I)I" = some ⟨[(.object "java/lang/CharSequence"), .int], some .int⟩ := by decide +kernel
theorem d_jdk_2580_method_33_code_72 : decode jdk_2580_method_33_code 72 = .ok (.i2b, 1) := by decide +kernel
theorem d_jdk_2580_method_33_code_73 : decode jdk_2580_method_33_code 73 = .ok (.bastore, 1) := by decide +kernel
theorem d_jdk_2580_method_33_code_74 : decode jdk_2580_method_33_code 74 = .ok (.iinc 2 1, 3) := by decide +kernel
theorem d_jdk_2580_method_33_code_77 : decode jdk_2580_method_33_code 77 = .ok (.goto (-20), 3) := by decide +kernel
set_option maxRecDepth 65536 in
set_option maxHeartbeats 40000000 in
theorem lp_pnd {p : Program} {l : Launch} {e : Env} {R : Room} {s : State} {m : MethodId} {args : Array Value} {below : List Frame} {meth : Method} {c : Code} {cells slots : Nat} {Z : State} {a0 : Array Value} {n0 : Nat} (xs : Addr) (t1 : Addr) (k1 : ClassId) (nn : Int32) (vs : List Value) (ds : List Int32) (G : Int32) (fm : Value) (dg : Addr) (kg : ClassId) (ba : Addr) (kb : ClassId) (ie : Nat) (hx : p.tables.exec = Jvm.exec) (hZ : Z.Warmed39 s.vm) (hw : ∀ d ∈ tables_1, d.before a0 Z = true) (hby : c.code = jdk_2580_method_33_code) (hml : c.maxLocals = 3) (hown : s.vm.findClass "java/util/HexFormat" = some m.cls) (hcl : cells ≤ R.cells) (hsl : slots ≤ R.slots) (hfr : 5 ≤ R.frames) (hlo : 70 ≤ R.locals) (hy0 : Sta Z Z.heap "java/lang/String" "COMPACT_STRINGS" "Z" (.int G)) (hCS : ¬ (G = (0 : Int32))) (hy2 : Sta Z Z.heap "jdk/internal/util/Preconditions" "SIOOBE_FORMATTER" "Ljava/util/function/BiFunction;" fm) (hFM : fm.isRef = true) (hy4 : Sta Z Z.heap "java/util/HexFormat" "DIGITS" "[B" (.ref dg)) (hy5 : Arv Z Z.heap dg kg .byte (256 : Int32) (own_D.map Value.int) (.int (0 : Int32))) (hy6 : n0 ≤ ba) (hie : ie = 32) (hl : ds.length = 64) (hD : ∀ c ∈ ds, ¬ c < 0 ∧ ¬ (255 : Int32) < c ∧ ¬ own_dig c < 0) (hcd1 : StrChars.Road.CodA ds 0 nn vs) (hbd1 : ∀ c ∈ ds, ¬ c < 0 ∧ ¬ (65535 : Int32) < c) (hle1 : ds.length ≤ 4000) (hy13 : xs ≠ ba) (hy14 : t1 ≠ ba) :
    ∀ (k : Nat) (i : Nat) (us : List Value) (T0 : State) (h0 : Heap) (locs : List Loc), Stand p l e R s m args below meth c T0 locs cells slots → T0.heap = h0 → Fr n0 locs → n0 ≤ h0.size → Exa Z h0 xs "java/lang/String" → Fld Z h0 xs "java/lang/String" "value" "[B" (.ref t1) → Fld Z h0 xs "java/lang/String" "coder" "B" (.int (0 : Int32)) → Arv Z h0 t1 k1 .byte nn vs (.int 0) → Old Z n0 h0 → Arv Z h0 ba kb .byte (32 : Int32) us (.int (0 : Int32)) → Exa Z h0 ba "[B" → (i + k = ie) → (us = ((List.range i).map fun q => Value.int (own_bt ds q)) ++ List.replicate (32 - i) (.int (0 : Int32))) → ∃ (T' : State) (h' : Heap) (locs' : List Loc), Stand p l e R s m args below meth c T' locs' cells slots ∧ T'.heap = h' ∧ Fr n0 locs' ∧ Keep h0 h' ([ba] : List Addr) ∧ (Arv Z h' ba kb .byte (32 : Int32) (own_bytes ds) (.int (0 : Int32))) ∧ (Exa Z h' ba "[B") ∧ ∀ t, Steps p.tables e below (T'.setTop (mkF m 80 #[.val (.ref xs), .val (.ref ba), .val (.int (Int32.ofNat ie))] [])) t → Steps p.tables e below (T0.setTop (mkF m 57 #[.val (.ref xs), .val (.ref ba), .val (.int (Int32.ofNat i))] [])) t := by
  intro k
  induction k with
  | zero =>
    intro i us T0 h0 locs X0 e0 N0 Z0 q0 q1 q2 q3 q4 q5 q6 hik hus
    have pre0 : ∀ t, Steps p.tables e below (T0.setTop (mkF m 57 #[.val (.ref xs), .val (.ref ba), .val (.int (Int32.ofNat i))] [])) t → Steps p.tables e below (T0.setTop (mkF m 57 #[.val (.ref xs), .val (.ref ba), .val (.int (Int32.ofNat i))] [])) t := fun _ kk => kk
    have hi2 : i = ie := by omega
    have hu' : us = own_bytes ds := by rw [hus, show i = 32 by omega]; simp [own_bytes]
    have R301 : Arv Z h0 ba kb .byte (32 : Int32) (own_bytes ds) (.int (0 : Int32)) := by have q := q5; rw [hu'] at q; exact q
    obtain ⟨cl302, Ar302, -, S302, M302, -, -⟩ := id R301
    have pre303 : ∀ t, Steps p.tables e below (T0.setTop (mkF m 80 #[.val (.ref xs), .val (.ref ba), .val (.int (Int32.ofNat i))] [])) t → Steps p.tables e below (T0.setTop (mkF m 57 #[.val (.ref xs), .val (.ref ba), .val (.int (Int32.ofNat i))] [])) t := fun t kk => pre0 t (by
      refine XS.iloadN X0.here hx rfl (hb hby d_jdk_2580_method_33_code_57) rfl ?_
      show Steps p.tables e below (T0.setTop (mkF m 58 #[.val (.ref xs), .val (.ref ba), .val (.int (Int32.ofNat i))] [(.int (Int32.ofNat i))])) _
      refine XS.aloadN X0.here hx rfl (hb hby d_jdk_2580_method_33_code_58) rfl rfl ?_
      show Steps p.tables e below (T0.setTop (mkF m 59 #[.val (.ref xs), .val (.ref ba), .val (.int (Int32.ofNat i))] [(.ref ba), (.int (Int32.ofNat i))])) _
      refine X0.arraylength hx (by rw [e0]; exact Ar302.1) (State.isArrayOf_alike hZ.alike Ar302.2.1) (g := (mkF m 59 #[.val (.ref xs), .val (.ref ba), .val (.int (Int32.ofNat i))] [(.ref ba), (.int (Int32.ofNat i))])) rfl rfl (hb hby d_jdk_2580_method_33_code_59) _ ?_
      rw [len_of S302 M302]
      show Steps p.tables e below (T0.setTop (mkF m 60 #[.val (.ref xs), .val (.ref ba), .val (.int (Int32.ofNat i))] [(.int (32 : Int32)), (.int (Int32.ofNat i))])) _
      refine XS.icmpYes X0.here hx rfl (pc0 := 60) (pc' := 80) rfl (hb hby d_jdk_2580_method_33_code_60) rfl (flt ((own_nlt (n := 32) (by omega) (by omega)) : ¬ ((Int32.ofNat i) < (32 : Int32)))).2.1 (by decide) (by decide) ?_
      show Steps p.tables e below (T0.setTop (mkF m 80 #[.val (.ref xs), .val (.ref ba), .val (.int (Int32.ofNat i))] [])) _
      exact kk)
    exact ⟨T0, h0, _, X0, e0, N0, (Keep.refl h0 ([ba] : List Addr)), R301, q6, (by rw [← hi2]; exact pre303)⟩
  | succ k ih =>
    intro i us T0 h0 locs X0 e0 N0 Z0 q0 q1 q2 q3 q4 q5 q6 hik hus
    have pre0 : ∀ t, Steps p.tables e below (T0.setTop (mkF m 57 #[.val (.ref xs), .val (.ref ba), .val (.int (Int32.ofNat i))] [])) t → Steps p.tables e below (T0.setTop (mkF m 57 #[.val (.ref xs), .val (.ref ba), .val (.int (Int32.ofNat i))] [])) t := fun _ kk => kk
    have hul : us.length = 32 := by rw [hus, List.length_append, List.length_map, List.length_range, List.length_replicate]; omega
    obtain ⟨cl301, Ar301, -, S301, M301, -, -⟩ := id q5
    obtain ⟨_, _, ⟨T302, L302, k302, n302⟩, -, X302, ⟨Lc302, hQ302, l302, y302, z302⟩, st302⟩ := Jvm.LawKit.callS X0 hx (y := (⟨"java/util/HexFormat", "fromHexDigits", "(Ljava/lang/CharSequence;I)I"⟩ : MethodName)) hown (mvT hZ (hw _ (List.mem_of_getElem? (i := 109) rfl))) (mvT hZ (hw _ (List.mem_of_getElem? (i := 110) rfl))) (mvT hZ (hw _ (List.mem_of_getElem? (i := 61) rfl))) (mvT hZ (hw _ (List.mem_of_getElem? (i := 111) rfl))) (by decide) (backOf (W := 2) (rm_fhds l Z a0 hw [] xs t1 k1 nn vs ds G fm dg kg (2 * i) h0 n0 Z0 hy0 hCS hy2 hFM hy4 hy5 q4 q0 q1 q2 q3 hcd1 hbd1 hle1 hD (by omega)) hZ (hw _ (List.mem_of_getElem? (i := 111) rfl)) (hw _ (List.mem_of_getElem? (i := 61) rfl)) (Nat.le_trans (by decide) hfr) (Nat.le_trans (by decide) hlo)) (g := (mkF m 69 #[.val (.ref xs), .val (.ref ba), .val (.int (Int32.ofNat i))] [(.int (Int32.ofNat (2 * i))), (.ref xs), (.int (Int32.ofNat i)), (.ref ba)])) rfl (by rw [hml]; rfl) (argsL := [(.ref xs), (.int (Int32.ofNat (2 * i)))]) (rest := [(.int (Int32.ofNat i)), (.ref ba)]) (lenOf pd_3 rfl) rfl (by show 2 * 0 + _ ≤ _; exact Nat.le_of_eq rfl) (hb hby d_jdk_2580_method_33_code_69) (fun _ _ => ⟨rfl, e0, hcl, hsl⟩)
    dsimp only [Pt.U, Pt.locs, Pt.cells, Pt.slots] at X302 l302 y302 z302 st302 hQ302
    replace l302 := l302.symm
    replace y302 := y302.symm
    replace z302 := z302.symm
    subst l302 y302 z302
    obtain ⟨rfl, Nq302, e302⟩ := hQ302
    have N302 := Fr.app N0 Nq302
    obtain ⟨cl303, Ar303, qq303, S303, M303, Hh303, U303⟩ := id q5
    obtain ⟨T303, h303, X303, e303, W303, st303⟩ := stB X302 hx hZ e302 Ar303 (j := (Int32.ofNat i)) (inb_of S303 (own_inb (n := 32) (by omega) (by omega))) (g := (mkF m 73 #[.val (.ref xs), .val (.ref ba), .val (.int (Int32.ofNat i))] [(.int ((((own_dig (ds.getD (2 * i) 0)) <<< ((4 : Int32) &&& 31)) ||| (own_dig (ds.getD ((2 * i) + 1) 0))).toInt8.toInt32)), (.int (Int32.ofNat i)), (.ref ba)])) rfl rfl (hb hby d_jdk_2580_method_33_code_73)
    have N303 := Fr.snoc X303 N302 hy6
    have V303 : Arv Z h303 ba kb .byte (32 : Int32) (us.set i (.int (nar .byte ((((own_dig (ds.getD (2 * i) 0)) <<< ((4 : Int32) &&& 31)) ||| (own_dig (ds.getD (2 * i + 1) 0))).toInt8.toInt32)))) (.int (0 : Int32)) := Arv.set Ar303 qq303 S303 M303 Hh303 U303 (fits_nar_byte _) W303 i (own_clamp (by omega)) (by omega)
    have pre304 : ∀ t, Steps p.tables e below (T303.setTop (mkF m 57 #[.val (.ref xs), .val (.ref ba), .val (.int ((Int32.ofNat i) + (1 : Int32)))] [])) t → Steps p.tables e below (T0.setTop (mkF m 57 #[.val (.ref xs), .val (.ref ba), .val (.int (Int32.ofNat i))] [])) t := fun t kk => pre0 t (by
      refine XS.iloadN X0.here hx rfl (hb hby d_jdk_2580_method_33_code_57) rfl ?_
      show Steps p.tables e below (T0.setTop (mkF m 58 #[.val (.ref xs), .val (.ref ba), .val (.int (Int32.ofNat i))] [(.int (Int32.ofNat i))])) _
      refine XS.aloadN X0.here hx rfl (hb hby d_jdk_2580_method_33_code_58) rfl rfl ?_
      show Steps p.tables e below (T0.setTop (mkF m 59 #[.val (.ref xs), .val (.ref ba), .val (.int (Int32.ofNat i))] [(.ref ba), (.int (Int32.ofNat i))])) _
      refine X0.arraylength hx (by rw [e0]; exact Ar301.1) (State.isArrayOf_alike hZ.alike Ar301.2.1) (g := (mkF m 59 #[.val (.ref xs), .val (.ref ba), .val (.int (Int32.ofNat i))] [(.ref ba), (.int (Int32.ofNat i))])) rfl rfl (hb hby d_jdk_2580_method_33_code_59) _ ?_
      rw [len_of S301 M301]
      show Steps p.tables e below (T0.setTop (mkF m 60 #[.val (.ref xs), .val (.ref ba), .val (.int (Int32.ofNat i))] [(.int (32 : Int32)), (.int (Int32.ofNat i))])) _
      refine XS.icmpNo X0.here hx rfl (hb hby d_jdk_2580_method_33_code_60) rfl (tlt ((own_inb (n := 32) (by omega) (by omega)).2 : (Int32.ofNat i) < (32 : Int32))).2.1 ?_
      show Steps p.tables e below (T0.setTop (mkF m 63 #[.val (.ref xs), .val (.ref ba), .val (.int (Int32.ofNat i))] [])) _
      refine XS.aloadN X0.here hx rfl (hb hby d_jdk_2580_method_33_code_63) rfl rfl ?_
      show Steps p.tables e below (T0.setTop (mkF m 64 #[.val (.ref xs), .val (.ref ba), .val (.int (Int32.ofNat i))] [(.ref ba)])) _
      refine XS.iloadN X0.here hx rfl (hb hby d_jdk_2580_method_33_code_64) rfl ?_
      show Steps p.tables e below (T0.setTop (mkF m 65 #[.val (.ref xs), .val (.ref ba), .val (.int (Int32.ofNat i))] [(.int (Int32.ofNat i)), (.ref ba)])) _
      refine XS.aloadN X0.here hx rfl (hb hby d_jdk_2580_method_33_code_65) rfl rfl ?_
      show Steps p.tables e below (T0.setTop (mkF m 66 #[.val (.ref xs), .val (.ref ba), .val (.int (Int32.ofNat i))] [(.ref xs), (.int (Int32.ofNat i)), (.ref ba)])) _
      refine XS.iloadN X0.here hx rfl (hb hby d_jdk_2580_method_33_code_66) rfl ?_
      show Steps p.tables e below (T0.setTop (mkF m 67 #[.val (.ref xs), .val (.ref ba), .val (.int (Int32.ofNat i))] [(.int (Int32.ofNat i)), (.ref xs), (.int (Int32.ofNat i)), (.ref ba)])) _
      refine XS.iconst X0.here hx rfl (hb hby d_jdk_2580_method_33_code_67) ?_
      show Steps p.tables e below (T0.setTop (mkF m 68 #[.val (.ref xs), .val (.ref ba), .val (.int (Int32.ofNat i))] [(.int (2 : Int32)), (.int (Int32.ofNat i)), (.ref xs), (.int (Int32.ofNat i)), (.ref ba)])) _
      refine XS.imul X0.here hx rfl (hb hby d_jdk_2580_method_33_code_68) rfl ?_
      show Steps p.tables e below (T0.setTop (mkF m 69 #[.val (.ref xs), .val (.ref ba), .val (.int (Int32.ofNat i))] [(.int ((Int32.ofNat i) * (2 : Int32))), (.ref xs), (.int (Int32.ofNat i)), (.ref ba)])) _
      rw [own_mul2]
      show Steps p.tables e below (T0.setTop (mkF m 69 #[.val (.ref xs), .val (.ref ba), .val (.int (Int32.ofNat i))] [(.int (Int32.ofNat (2 * i))), (.ref xs), (.int (Int32.ofNat i)), (.ref ba)])) _
      refine st302 _ ?_
      show Steps p.tables e below (T302.setTop (mkF m 72 #[.val (.ref xs), .val (.ref ba), .val (.int (Int32.ofNat i))] [(.int (((own_dig (ds.getD (2 * i) 0)) <<< ((4 : Int32) &&& 31)) ||| (own_dig (ds.getD ((2 * i) + 1) 0)))), (.int (Int32.ofNat i)), (.ref ba)])) _
      refine XS.i2b X302.here hx rfl (hb hby d_jdk_2580_method_33_code_72) rfl ?_
      show Steps p.tables e below (T302.setTop (mkF m 73 #[.val (.ref xs), .val (.ref ba), .val (.int (Int32.ofNat i))] [(.int ((((own_dig (ds.getD (2 * i) 0)) <<< ((4 : Int32) &&& 31)) ||| (own_dig (ds.getD ((2 * i) + 1) 0))).toInt8.toInt32)), (.int (Int32.ofNat i)), (.ref ba)])) _
      refine st303 _ ?_
      show Steps p.tables e below (T303.setTop (mkF m 74 #[.val (.ref xs), .val (.ref ba), .val (.int (Int32.ofNat i))] [])) _
      refine XS.iinc X303.here hx rfl (hb hby d_jdk_2580_method_33_code_74) rfl (l' := #[.val (.ref xs), .val (.ref ba), .val (.int ((Int32.ofNat i) + (1 : Int32)))]) rfl ?_
      show Steps p.tables e below (T303.setTop (mkF m 77 #[.val (.ref xs), .val (.ref ba), .val (.int ((Int32.ofNat i) + (1 : Int32)))] [])) _
      refine XS.goto X303.here hx rfl (pc0 := 77) (pc' := 57) rfl (hb hby d_jdk_2580_method_33_code_77) (by decide) (by decide) ?_
      show Steps p.tables e below (T303.setTop (mkF m 57 #[.val (.ref xs), .val (.ref ba), .val (.int ((Int32.ofNat i) + (1 : Int32)))] [])) _
      exact kk)
    have c305 : Exa Z h303 xs "java/lang/String" := (q0.wr W303)
    have c306 : Fld Z h303 xs "java/lang/String" "value" "[B" (.ref t1) := (q1.other W303 (Or.inl hy13))
    have c307 : Fld Z h303 xs "java/lang/String" "coder" "B" (.int (0 : Int32)) := (q2.other W303 (Or.inl hy13))
    have c308 : Arv Z h303 t1 k1 .byte nn vs (.int 0) := (q3.other W303 hy14)
    have c309 : Old Z n0 h303 := (q4.wr W303 hy6)
    have c310 : Exa Z h303 ba "[B" := (q6.wr W303)
    have preH : ∀ t, Steps p.tables e below (T303.setTop (mkF m 57 #[.val (.ref xs), .val (.ref ba), .val (.int (Int32.ofNat (i + 1)))] [])) t → Steps p.tables e below (T0.setTop (mkF m 57 #[.val (.ref xs), .val (.ref ba), .val (.int (Int32.ofNat i))] [])) t := by
      rw [inc_ofNat i]
      exact pre304
    obtain ⟨T9, h9, lo9, X9, e9, N9, K9, g9_0, g9_1, pre9⟩ := ih ((i + 1)) ((us.set i (.int (nar .byte ((((own_dig (ds.getD (2 * i) 0)) <<< ((4 : Int32) &&& 31)) ||| (own_dig (ds.getD (2 * i + 1) 0))).toInt8.toInt32))))) T303 h303 _ X303 e303 N303 (Nat.le_trans Z0 (Keep.of_wr W303).1) c305 c306 c307 c308 c309 V303 c310 (by omega) (by rw [own_nb, hus]; exact own_btstep (by omega) _)
    exact ⟨T9, h9, _, X9, e9, N9, (((Keep.refl h0 ([ba] : List Addr)).wr W303 (Or.inl (by simp))).trans K9 (allS (Or.inl (by simp)) all0)), g9_0, g9_1, fun t kk => preH t (pre9 t kk)⟩
theorem d_jdk_2580_method_33_code_0 : decode jdk_2580_method_33_code 0 = .ok (.aload_n 0, 1) := by decide +kernel
theorem d_jdk_2580_method_33_code_1 : decode jdk_2580_method_33_code 1 = .ok (.invokeinterface 175 1, 5) := by decide +kernel
theorem pd_4 : parseMethodDescriptor "()I" = some ⟨[], some .int⟩ := by decide +kernel
theorem d_jdk_2580_method_33_code_6 : decode jdk_2580_method_33_code 6 = .ok (.iconst 1, 1) := by decide +kernel
theorem d_jdk_2580_method_33_code_7 : decode jdk_2580_method_33_code 7 = .ok (.iand, 1) := by decide +kernel
theorem d_jdk_2580_method_33_code_8 : decode jdk_2580_method_33_code 8 = .ok (.ifCond .eq 36, 3) := by decide +kernel
theorem d_jdk_2580_method_33_code_44 : decode jdk_2580_method_33_code 44 = .ok (.aload_n 0, 1) := by decide +kernel
theorem d_jdk_2580_method_33_code_45 : decode jdk_2580_method_33_code 45 = .ok (.invokeinterface 175 1, 5) := by decide +kernel
theorem d_jdk_2580_method_33_code_50 : decode jdk_2580_method_33_code 50 = .ok (.iconst 2, 1) := by decide +kernel
theorem d_jdk_2580_method_33_code_51 : decode jdk_2580_method_33_code 51 = .ok (.idiv, 1) := by decide +kernel
theorem d_jdk_2580_method_33_code_52 : decode jdk_2580_method_33_code 52 = .ok (.newarray .byte, 2) := by decide +kernel
theorem d_jdk_2580_method_33_code_54 : decode jdk_2580_method_33_code 54 = .ok (.astore_n 1, 1) := by decide +kernel
theorem d_jdk_2580_method_33_code_55 : decode jdk_2580_method_33_code 55 = .ok (.iconst 0, 1) := by decide +kernel
theorem d_jdk_2580_method_33_code_56 : decode jdk_2580_method_33_code 56 = .ok (.istore_n 2, 1) := by decide +kernel
theorem d_jdk_2580_method_33_code_80 : decode jdk_2580_method_33_code 80 = .ok (.aload_n 1, 1) := by decide +kernel
theorem d_jdk_2580_method_33_code_81 : decode jdk_2580_method_33_code 81 = .ok (.areturn, 1) := by decide +kernel
theorem ef_4 (m : MethodId) (x0 : Addr) : entryFrame m #[(.ref x0)] 3 = mkF m 0 #[.val (.ref x0), .unset, .unset] [] := by first | (simp [entryFrame, mkF, argsToLocals, Value.category]; done) | rfl
def Q_pnd (Z : State) (xs : Addr) (t1 : Addr) (k1 : ClassId) (nn : Int32) (vs : List Value) (ds : List Int32) (G : Int32) (fm : Value) (dg : Addr) (kg : ClassId) (h0 : Heap) (n0 : Nat) (v : Option Value) (h : Heap) (L : List Loc) : Prop := ∃ (ba : Addr) (kb : ClassId), (v = some (.ref ba)) ∧ (Fr n0 L) ∧ (Keep h0 h ([] : List Addr)) ∧ (h0.size ≤ ba) ∧ (Arv Z h ba kb .byte (32 : Int32) (own_bytes ds) (.int (0 : Int32))) ∧ (Exa Z h ba "[B")
set_option maxRecDepth 65536 in
set_option maxHeartbeats 40000000 in
theorem rm_pnd (l : Launch) (Z : State) (a0 : Array Value) (hw : ∀ d ∈ tables_1, d.before a0 Z = true) (ws : List Jvm.Cond) (xs : Addr) (t1 : Addr) (k1 : ClassId) (nn : Int32) (vs : List Value) (ds : List Int32) (G : Int32) (fm : Value) (dg : Addr) (kg : ClassId) (h0 : Heap) (n0 : Nat) (Z0 : n0 ≤ h0.size) (q0 : Sta Z Z.heap "java/lang/String" "COMPACT_STRINGS" "Z" (.int G)) (hCS : ¬ (G = (0 : Int32))) (q2 : Sta Z Z.heap "jdk/internal/util/Preconditions" "SIOOBE_FORMATTER" "Ljava/util/function/BiFunction;" fm) (hFM : fm.isRef = true) (q4 : Sta Z Z.heap "java/util/HexFormat" "DIGITS" "[B" (.ref dg)) (q5 : Arv Z Z.heap dg kg .byte (256 : Int32) (own_D.map Value.int) (.int (0 : Int32))) (q6 : Old Z n0 h0) (q7 : Exa Z h0 xs "java/lang/String") (q8 : Fld Z h0 xs "java/lang/String" "value" "[B" (.ref t1)) (q9 : Fld Z h0 xs "java/lang/String" "coder" "B" (.int (0 : Int32))) (q10 : Arv Z h0 t1 k1 .byte nn vs (.int 0)) (hcd1 : StrChars.Road.CodA ds 0 nn vs) (hbd1 : ∀ c ∈ ds, ¬ c < 0 ∧ ¬ (65535 : Int32) < c) (hle1 : ds.length ≤ 4000) (hD : ∀ c ∈ ds, ¬ c < 0 ∧ ¬ (255 : Int32) < c ∧ ¬ own_dig c < 0) (hl : ds.length = 64) :
    MetFree l (⟨"java/util/HexFormat", "parseNoDelimiter", "(Ljava/lang/CharSequence;)[B"⟩ : MethodName) (head1 (Jvm.Cond.code (⟨"java/util/HexFormat", "parseNoDelimiter", "(Ljava/lang/CharSequence;)[B"⟩ : MethodName) jdk_2580_method_33_code 3 (some (.array .byte)) :: ws) ({ frames := 5, cells := 1, slots := 32, locals := 70 } : Room)) (fun a₁ U₁ => a₁ = #[(.ref xs)] ∧ Z.Warmed39 U₁.vm ∧ U₁.heap = h0) (fun _ _ _ _ _ => True) (fun _ U₁ o₁ U₂ => ∃ v₁ L₁, o₁ = .returned v₁ ∧ Q_pnd Z xs t1 k1 nn vs ds G fm dg kg h0 n0 v₁ U₂.heap L₁ ∧ FrameEnd U₁ o₁ U₂ L₁ ({ frames := 5, cells := 1, slots := 32, locals := 70 } : Room).cells ({ frames := 5, cells := 1, slots := 32, locals := 70 } : Room).slots) := by
  refine MetFree.of_bodySF (plainFor_of_name pn_1) hisR ?_
  intro p e s m args below meth c s₁ Bd hml0 hP hK
  obtain ⟨rfl, hZ, hh⟩ := hP
  have hx := Bd.exec
  have hby := Bd.bytes
  have hml : c.maxLocals = 3 := hml0
  have hown : s.vm.findClass "java/util/HexFormat" = some m.cls := findClass_of_methodNamed Bd.named
  have hnm := (name_of_methodNamed Bd.named Bd.method).1
  have X0 : Stand p l e ({ frames := 5, cells := 1, slots := 32, locals := 70 } : Room) s m #[(.ref xs)] below meth c s₁ [] 0 0 := Stand.of_body Bd
  have e0 : s₁.heap = h0 := by rw [← hh, Bd.state]; rfl
  have N0 := Fr.nil n0
  have pre0 : ∀ t, Steps p.tables e below (s₁.setTop (mkF m 0 #[.val (.ref xs), .unset, .unset] [])) t → Steps p.tables e below (s₁.setTop (entryFrame m #[(.ref xs)] 3)) t := fun t k => castTop (ef_4 m xs) k
  have hl64 : Int32.ofNat ds.length = (64 : Int32) := by rw [hl]; rfl
  obtain ⟨cq301, kq301, q301a, q301b, q301c⟩ := isOf hZ e0 q7
  obtain ⟨_, _, ⟨T301, L301, k301, n301⟩, -, X301, ⟨Lc301, hQ301, l301, y301, z301⟩, st301⟩ := X0.interfaceBack hx (xi := (⟨"java/lang/CharSequence", "length", "()I"⟩ : MethodName)) (y := (⟨"java/lang/String", "length", "()I"⟩ : MethodName)) hown (mvT hZ (hw _ (List.mem_of_getElem? (i := 63) rfl))) (mvT hZ (hw _ (List.mem_of_getElem? (i := 64) rfl))) (mvT hZ (hw _ (List.mem_of_getElem? (i := 65) rfl))) (mvT hZ (hw _ (List.mem_of_getElem? (i := 66) rfl))) (mvT hZ (hw _ (List.mem_of_getElem? (i := 45) rfl))) (mvT hZ (hw _ (List.mem_of_getElem? (i := 67) rfl))) (mvT hZ (hw _ (List.mem_of_getElem? (i := 68) rfl))) (mvT hZ (hw _ (List.mem_of_getElem? (i := 69) rfl))) (by decide) (StrChars.Road.lenW (W := 0) hZ (own_hw_lenW hw) (kI := 4) (hw _ (List.mem_of_getElem? (i := 11) rfl)) q7 q8 q9 q10 hcd1 hbd1 (q0.ext q6.2) hCS hle1 (by decide) (by decide)) q301a q301b q301c (g := (mkF m 1 #[.val (.ref xs), .unset, .unset] [(.ref xs)])) rfl (by rw [hml]; rfl) (Steps.refl _) (argsL := []) (rest := []) (lenOf pd_4 rfl) rfl (by show 2 * 0 + _ ≤ _; exact Nat.le_of_eq rfl) (hb hby d_jdk_2580_method_33_code_1) (fun _ _ => ⟨rfl, e0, (by decide : 0 + 0 ≤ _), (by decide : 0 + 0 ≤ _)⟩)
  dsimp only [Pt.U, Pt.locs, Pt.cells, Pt.slots] at X301 l301 y301 z301 st301 hQ301
  replace l301 := l301.symm
  replace y301 := y301.symm
  replace z301 := z301.symm
  subst l301 y301 z301
  obtain ⟨rfl, rfl, e301⟩ := hQ301
  have N301 := Fr.app N0 (Fr.nil n0)
  obtain ⟨cq302, kq302, q302a, q302b, q302c⟩ := isOf hZ e301 q7
  obtain ⟨_, _, ⟨T302, L302, k302, n302⟩, -, X302, ⟨Lc302, hQ302, l302, y302, z302⟩, st302⟩ := X301.interfaceBack hx (xi := (⟨"java/lang/CharSequence", "length", "()I"⟩ : MethodName)) (y := (⟨"java/lang/String", "length", "()I"⟩ : MethodName)) hown (mvT hZ (hw _ (List.mem_of_getElem? (i := 63) rfl))) (mvT hZ (hw _ (List.mem_of_getElem? (i := 64) rfl))) (mvT hZ (hw _ (List.mem_of_getElem? (i := 65) rfl))) (mvT hZ (hw _ (List.mem_of_getElem? (i := 66) rfl))) (mvT hZ (hw _ (List.mem_of_getElem? (i := 45) rfl))) (mvT hZ (hw _ (List.mem_of_getElem? (i := 67) rfl))) (mvT hZ (hw _ (List.mem_of_getElem? (i := 68) rfl))) (mvT hZ (hw _ (List.mem_of_getElem? (i := 69) rfl))) (by decide) (StrChars.Road.lenW (W := 0) hZ (own_hw_lenW hw) (kI := 4) (hw _ (List.mem_of_getElem? (i := 11) rfl)) q7 q8 q9 q10 hcd1 hbd1 (q0.ext q6.2) hCS hle1 (by decide) (by decide)) q302a q302b q302c (g := (mkF m 45 #[.val (.ref xs), .unset, .unset] [(.ref xs)])) rfl (by rw [hml]; rfl) (Steps.refl _) (argsL := []) (rest := []) (lenOf pd_4 rfl) rfl (by show 2 * 0 + _ ≤ _; exact Nat.le_of_eq rfl) (hb hby d_jdk_2580_method_33_code_45) (fun _ _ => ⟨rfl, e301, (by decide : 0 + 0 ≤ _), (by decide : 0 + 0 ≤ _)⟩)
  dsimp only [Pt.U, Pt.locs, Pt.cells, Pt.slots] at X302 l302 y302 z302 st302 hQ302
  replace l302 := l302.symm
  replace y302 := y302.symm
  replace z302 := z302.symm
  subst l302 y302 z302
  obtain ⟨rfl, rfl, e302⟩ := hQ302
  have N302 := Fr.app N301 (Fr.nil n0)
  obtain ⟨T303, h303, ky303, X303, e303, E303, A303, Q303, st303⟩ := newPE X302 hx hZ (hw _ (List.mem_of_getElem? (i := 28) rfl)) e302 (g := (mkF m 52 #[.val (.ref xs), .unset, .unset] [(.int (32 : Int32))])) rfl (hb hby d_jdk_2580_method_33_code_52) rfl ((by decide) : ¬ ((32 : Int32) < (0 : Int32))) (cap := 32) ((by decide) : (32 : Int32).toNatClampNeg ≤ 32) (by decide) (by decide) (by decide) (ad := "[B") (by decide)
  obtain ⟨b303, g303⟩ : ∃ z, z = h0.size := ⟨_, rfl⟩
  rw [← g303] at A303 Q303 st303
  have V303 : Arv Z h303 b303 ky303 .byte (32 : Int32) [] (.int (0 : Int32)) := Arv.new A303 (by decide)
  have U303 : Arv Z h303 b303 ky303 .byte (32 : Int32) [(.int (0 : Int32)), (.int (0 : Int32)), (.int (0 : Int32)), (.int (0 : Int32)), (.int (0 : Int32)), (.int (0 : Int32)), (.int (0 : Int32)), (.int (0 : Int32)), (.int (0 : Int32)), (.int (0 : Int32)), (.int (0 : Int32)), (.int (0 : Int32)), (.int (0 : Int32)), (.int (0 : Int32)), (.int (0 : Int32)), (.int (0 : Int32)), (.int (0 : Int32)), (.int (0 : Int32)), (.int (0 : Int32)), (.int (0 : Int32)), (.int (0 : Int32)), (.int (0 : Int32)), (.int (0 : Int32)), (.int (0 : Int32)), (.int (0 : Int32)), (.int (0 : Int32)), (.int (0 : Int32)), (.int (0 : Int32)), (.int (0 : Int32)), (.int (0 : Int32)), (.int (0 : Int32)), (.int (0 : Int32))] (.int (0 : Int32)) := V303.pad (pad_rep [] (.int (0 : Int32)) 32)
  have pre304 : ∀ t, Steps p.tables e below (T303.setTop (mkF m 57 #[.val (.ref xs), .val (.ref b303), .val (.int (0 : Int32))] [])) t → Steps p.tables e below (s₁.setTop (entryFrame m #[(.ref xs)] 3)) t := fun t kk => pre0 t (by
    refine XS.aloadN X0.here hx rfl (hb hby d_jdk_2580_method_33_code_0) rfl rfl ?_
    show Steps p.tables e below (s₁.setTop (mkF m 1 #[.val (.ref xs), .unset, .unset] [(.ref xs)])) _
    refine st301.trans ?_
    show Steps p.tables e below (T301.setTop (mkF m 6 #[.val (.ref xs), .unset, .unset] [(.int (Int32.ofNat (ds).length))])) _
    rw [hl64]
    show Steps p.tables e below (T301.setTop (mkF m 6 #[.val (.ref xs), .unset, .unset] [(.int (64 : Int32))])) _
    refine XS.iconst X301.here hx rfl (hb hby d_jdk_2580_method_33_code_6) ?_
    show Steps p.tables e below (T301.setTop (mkF m 7 #[.val (.ref xs), .unset, .unset] [(.int (1 : Int32)), (.int (64 : Int32))])) _
    refine XS.iand X301.here hx rfl (hb hby d_jdk_2580_method_33_code_7) rfl ?_
    show Steps p.tables e below (T301.setTop (mkF m 8 #[.val (.ref xs), .unset, .unset] [(.int (0 : Int32))])) _
    refine XS.ifYes X301.here hx rfl (pc0 := 8) (pc' := 44) rfl (hb hby d_jdk_2580_method_33_code_8) rfl ((if0 _ _).trans (teq ((by decide) : (0 : Int32) = (0 : Int32))).1) (by decide) (by decide) ?_
    show Steps p.tables e below (T301.setTop (mkF m 44 #[.val (.ref xs), .unset, .unset] [])) _
    refine XS.aloadN X301.here hx rfl (hb hby d_jdk_2580_method_33_code_44) rfl rfl ?_
    show Steps p.tables e below (T301.setTop (mkF m 45 #[.val (.ref xs), .unset, .unset] [(.ref xs)])) _
    refine st302.trans ?_
    show Steps p.tables e below (T302.setTop (mkF m 50 #[.val (.ref xs), .unset, .unset] [(.int (Int32.ofNat (ds).length))])) _
    rw [hl64]
    show Steps p.tables e below (T302.setTop (mkF m 50 #[.val (.ref xs), .unset, .unset] [(.int (64 : Int32))])) _
    refine XS.iconst X302.here hx rfl (hb hby d_jdk_2580_method_33_code_50) ?_
    show Steps p.tables e below (T302.setTop (mkF m 51 #[.val (.ref xs), .unset, .unset] [(.int (2 : Int32)), (.int (64 : Int32))])) _
    refine XS.idiv X302.here hx rfl (hb hby d_jdk_2580_method_33_code_51) rfl (by decide) ?_
    show Steps p.tables e below (T302.setTop (mkF m 52 #[.val (.ref xs), .unset, .unset] [(.int ((64 : Int32) / (2 : Int32)))])) _
    rw [(show (64 : Int32) / (2 : Int32) = (32 : Int32) by decide)]
    show Steps p.tables e below (T302.setTop (mkF m 52 #[.val (.ref xs), .unset, .unset] [(.int (32 : Int32))])) _
    refine st303 _ ?_
    show Steps p.tables e below (T303.setTop (mkF m 54 #[.val (.ref xs), .unset, .unset] [(.ref b303)])) _
    refine XS.astoreN X303.here hx rfl (hb hby d_jdk_2580_method_33_code_54) rfl rfl (l' := #[.val (.ref xs), .val (.ref b303), .unset]) rfl ?_
    show Steps p.tables e below (T303.setTop (mkF m 55 #[.val (.ref xs), .val (.ref b303), .unset] [])) _
    refine XS.iconst X303.here hx rfl (hb hby d_jdk_2580_method_33_code_55) ?_
    show Steps p.tables e below (T303.setTop (mkF m 56 #[.val (.ref xs), .val (.ref b303), .unset] [(.int (0 : Int32))])) _
    refine XS.istoreN X303.here hx rfl (hb hby d_jdk_2580_method_33_code_56) rfl (l' := #[.val (.ref xs), .val (.ref b303), .val (.int (0 : Int32))]) rfl ?_
    show Steps p.tables e below (T303.setTop (mkF m 57 #[.val (.ref xs), .val (.ref b303), .val (.int (0 : Int32))] [])) _
    exact kk)
  have c305 : Fld Z h303 xs "java/lang/String" "value" "[B" (.ref t1) := (q8.ext E303)
  have c306 : Fld Z h303 xs "java/lang/String" "coder" "B" (.int (0 : Int32)) := (q9.ext E303)
  have c307 : Arv Z h303 t1 k1 .byte nn vs (.int 0) := (q10.ext E303)
  have ge308 : n0 ≤ b303 := Nat.le_trans Z0 (Nat.le_trans (Nat.le_refl _) (Nat.le_of_eq g303.symm))
  have ne309 : xs ≠ b303 := Nat.ne_of_lt (Nat.lt_of_lt_of_le q7.lt (Nat.le_of_eq g303.symm))
  have ne310 : t1 ≠ b303 := Nat.ne_of_lt (Nat.lt_of_lt_of_le q10.lt (Nat.le_of_eq g303.symm))
  have c311 : Exa Z h303 xs "java/lang/String" := (q7.ext E303)
  have c312 : Old Z n0 h303 := (q6.ext E303)
  have preh313 : ∀ t, Steps p.tables e below (T303.setTop (mkF m 57 #[.val (.ref xs), .val (.ref b303), .val (.int (Int32.ofNat 0))] [])) t → Steps p.tables e below (s₁.setTop (entryFrame m #[(.ref xs)] 3)) t := by
    exact pre304
  obtain ⟨T313, h313, lo313, X313, e313, N313, K313, f313_0, f313_1, st313⟩ := lp_pnd (xs) (t1) (k1) (nn) (vs) (ds) (G) (fm) (dg) (kg) (b303) (ky303) (32) hx hZ hw hby hml hown (by decide : 1 ≤ _) (by decide : 32 ≤ _) (by decide) (by decide) q0 hCS q2 hFM q4 q5 ge308 (rfl) hl hD hcd1 hbd1 hle1 ne309 ne310 32 (0) ([(.int (0 : Int32)), (.int (0 : Int32)), (.int (0 : Int32)), (.int (0 : Int32)), (.int (0 : Int32)), (.int (0 : Int32)), (.int (0 : Int32)), (.int (0 : Int32)), (.int (0 : Int32)), (.int (0 : Int32)), (.int (0 : Int32)), (.int (0 : Int32)), (.int (0 : Int32)), (.int (0 : Int32)), (.int (0 : Int32)), (.int (0 : Int32)), (.int (0 : Int32)), (.int (0 : Int32)), (.int (0 : Int32)), (.int (0 : Int32)), (.int (0 : Int32)), (.int (0 : Int32)), (.int (0 : Int32)), (.int (0 : Int32)), (.int (0 : Int32)), (.int (0 : Int32)), (.int (0 : Int32)), (.int (0 : Int32)), (.int (0 : Int32)), (.int (0 : Int32)), (.int (0 : Int32)), (.int (0 : Int32))]) T303 h303 _ X303 e303 N302 (Nat.le_trans Z0 E303.1) c311 c305 c306 c307 c312 U303 Q303 (by omega) (rfl)
  obtain ⟨fs, hr, hrun, hended, hW, hsame⟩ := X313.leave (v := some (.ref b303)) (fun h => by rw [Bd.returns] at h; cases h)
  refine ⟨_, _, preh313 _ ?_, hrun, hended, _, _, rfl, ?_, ⟨_, rfl⟩, hW, hsame.mono (by decide) (by decide)⟩
  · refine st313 _ ?_
    show Steps p.tables e below (T313.setTop (mkF m 80 #[.val (.ref xs), .val (.ref b303), .val (.int (Int32.ofNat 32))] [])) _
    refine XS.aloadN X313.here hx rfl (hb hby d_jdk_2580_method_33_code_80) rfl rfl ?_
    show Steps p.tables e below (T313.setTop (mkF m 81 #[.val (.ref xs), .val (.ref b303), .val (.int (32 : Int32))] [(.ref b303)])) _
    jvm_step X313.here [X313.here.top, hx, (hb hby d_jdk_2580_method_33_code_81), X313.method', Bd.returns, Value.isRef, FieldType.isReference]
    first | (intro acts; rw [hr _ acts rfl rfl rfl]) | rw [hr _ _ rfl rfl rfl]
    exact Steps.refl _
  · show Q_pnd Z xs t1 k1 nn vs ds G fm dg kg h0 n0 _ T313.heap _
    rw [e313]
    exact ⟨b303, ky303, rfl, N313, (((Keep.refl h0 ([] : List Addr)).ext E303).trans K313 (allS (Or.inr (Nat.le_trans (Nat.le_refl _) (Nat.le_of_eq g303.symm))) all0)), (Nat.le_trans (Nat.le_refl _) (Nat.le_of_eq g303.symm)), f313_0, f313_1⟩
theorem d_jdk_31_method_11_code_0 : decode jdk_31_method_11_code 0 = .ok (.aload_n 0, 1) := by decide +kernel
theorem d_jdk_31_method_11_code_1 : decode jdk_31_method_11_code 1 = .ok (.ifnonnull 12, 3) := by decide +kernel
theorem d_jdk_31_method_11_code_13 : decode jdk_31_method_11_code 13 = .ok (.aload_n 0, 1) := by decide +kernel
theorem d_jdk_31_method_11_code_14 : decode jdk_31_method_11_code 14 = .ok (.areturn, 1) := by decide +kernel
theorem ef_5 (m : MethodId) (x0 : Addr) (x1 : Addr) : entryFrame m #[(.ref x0), (.ref x1)] 2 = mkF m 0 #[.val (.ref x0), .val (.ref x1)] [] := by first | (simp [entryFrame, mkF, argsToLocals, Value.category]; done) | rfl
theorem pn_2 : plainName "java/util/Objects" = true := by first | (simp [plainName, overriddenIn]; done) | decide +kernel
def Q_rnn (Z : State) (xa : Addr) (xd : Addr) (h0 : Heap) (n0 : Nat) (v : Option Value) (h : Heap) (L : List Loc) : Prop := (v = some (.ref xa)) ∧ (Fr n0 L) ∧ (h = h0)
set_option maxRecDepth 65536 in
set_option maxHeartbeats 40000000 in
theorem rm_rnn (l : Launch) (Z : State) (a0 : Array Value) (hw : ∀ d ∈ tables_1, d.before a0 Z = true) (ws : List Jvm.Cond) (xa : Addr) (xd : Addr) (h0 : Heap) (n0 : Nat) (Z0 : n0 ≤ h0.size) :
    MetFree l (⟨"java/util/Objects", "requireNonNull", "(Ljava/lang/Object;Ljava/lang/String;)Ljava/lang/Object;"⟩ : MethodName) (head1 (Jvm.Cond.code (⟨"java/util/Objects", "requireNonNull", "(Ljava/lang/Object;Ljava/lang/String;)Ljava/lang/Object;"⟩ : MethodName) jdk_31_method_11_code 2 (some (.object "java/lang/Object")) :: ws) ({ frames := 0, cells := 0, slots := 0, locals := 0 } : Room)) (fun a₁ U₁ => a₁ = #[(.ref xa), (.ref xd)] ∧ Z.Warmed39 U₁.vm ∧ U₁.heap = h0) (fun _ _ _ _ _ => True) (fun _ U₁ o₁ U₂ => ∃ v₁ L₁, o₁ = .returned v₁ ∧ Q_rnn Z xa xd h0 n0 v₁ U₂.heap L₁ ∧ FrameEnd U₁ o₁ U₂ L₁ ({ frames := 0, cells := 0, slots := 0, locals := 0 } : Room).cells ({ frames := 0, cells := 0, slots := 0, locals := 0 } : Room).slots) := by
  refine MetFree.of_bodySF (plainFor_of_name pn_2) hisR ?_
  intro p e s m args below meth c s₁ Bd hml0 hP hK
  obtain ⟨rfl, hZ, hh⟩ := hP
  have hx := Bd.exec
  have hby := Bd.bytes
  have hml : c.maxLocals = 2 := hml0
  have hown : s.vm.findClass "java/util/Objects" = some m.cls := findClass_of_methodNamed Bd.named
  have hnm := (name_of_methodNamed Bd.named Bd.method).1
  have X0 : Stand p l e ({ frames := 0, cells := 0, slots := 0, locals := 0 } : Room) s m #[(.ref xa), (.ref xd)] below meth c s₁ [] 0 0 := Stand.of_body Bd
  have e0 : s₁.heap = h0 := by rw [← hh, Bd.state]; rfl
  have N0 := Fr.nil n0
  have pre0 : ∀ t, Steps p.tables e below (s₁.setTop (mkF m 0 #[.val (.ref xa), .val (.ref xd)] [])) t → Steps p.tables e below (s₁.setTop (entryFrame m #[(.ref xa), (.ref xd)] 2)) t := fun t k => castTop (ef_5 m xa xd) k
  obtain ⟨fs, hr, hrun, hended, hW, hsame⟩ := X0.leave (v := some (.ref xa)) (fun h => by rw [Bd.returns] at h; cases h)
  refine ⟨_, _, pre0 _ ?_, hrun, hended, _, _, rfl, ?_, ⟨_, rfl⟩, hW, hsame.mono (by decide) (by decide)⟩
  · refine XS.aloadN X0.here hx rfl (hb hby d_jdk_31_method_11_code_0) rfl rfl ?_
    show Steps p.tables e below (s₁.setTop (mkF m 1 #[.val (.ref xa), .val (.ref xd)] [(.ref xa)])) _
    refine XS.ifnonnullYes X0.here hx rfl (pc0 := 1) (pc' := 13) rfl (hb hby d_jdk_31_method_11_code_1) rfl (by decide) (by decide) ?_
    show Steps p.tables e below (s₁.setTop (mkF m 13 #[.val (.ref xa), .val (.ref xd)] [])) _
    refine XS.aloadN X0.here hx rfl (hb hby d_jdk_31_method_11_code_13) rfl rfl ?_
    show Steps p.tables e below (s₁.setTop (mkF m 14 #[.val (.ref xa), .val (.ref xd)] [(.ref xa)])) _
    jvm_step X0.here [X0.here.top, hx, (hb hby d_jdk_31_method_11_code_14), X0.method', Bd.returns, Value.isRef, FieldType.isReference]
    first | (intro acts; rw [hr _ acts rfl rfl rfl]) | rw [hr _ _ rfl rfl rfl]
    exact Steps.refl _
  · show Q_rnn Z xa xd h0 n0 _ s₁.heap _
    rw [e0]
    exact ⟨rfl, N0, rfl⟩
theorem d_jdk_41_method_12_code_0 : decode jdk_41_method_12_code 0 = .ok (.iload_n 0, 1) := by decide +kernel
theorem d_jdk_41_method_12_code_1 : decode jdk_41_method_12_code 1 = .ok (.ifCond .lt 13, 3) := by decide +kernel
theorem d_jdk_41_method_12_code_4 : decode jdk_41_method_12_code 4 = .ok (.iload_n 0, 1) := by decide +kernel
theorem d_jdk_41_method_12_code_5 : decode jdk_41_method_12_code 5 = .ok (.iload_n 1, 1) := by decide +kernel
theorem d_jdk_41_method_12_code_6 : decode jdk_41_method_12_code 6 = .ok (.if_icmp .gt 8, 3) := by decide +kernel
theorem d_jdk_41_method_12_code_9 : decode jdk_41_method_12_code 9 = .ok (.iload_n 1, 1) := by decide +kernel
theorem d_jdk_41_method_12_code_10 : decode jdk_41_method_12_code 10 = .ok (.iload_n 2, 1) := by decide +kernel
theorem d_jdk_41_method_12_code_11 : decode jdk_41_method_12_code 11 = .ok (.if_icmp .le 11, 3) := by decide +kernel
theorem d_jdk_41_method_12_code_22 : decode jdk_41_method_12_code 22 = .ok (.iload_n 0, 1) := by decide +kernel
theorem d_jdk_41_method_12_code_23 : decode jdk_41_method_12_code 23 = .ok (.ireturn, 1) := by decide +kernel
theorem ef_6 (m : MethodId) (x0 : Int32) (x1 : Int32) (x2 : Int32) : entryFrame m #[(.int x0), (.int x1), (.int x2), .null] 4 = mkF m 0 #[.val (.int x0), .val (.int x1), .val (.int x2), .val .null] [] := by first | (simp [entryFrame, mkF, argsToLocals, Value.category]; done) | rfl
theorem pn_3 : plainName "jdk/internal/util/Preconditions" = true := by first | (simp [plainName, overriddenIn]; done) | decide +kernel
def Q_pcft (Z : State)  (h0 : Heap) (n0 : Nat) (v : Option Value) (h : Heap) (L : List Loc) : Prop := (v = some (.int (0 : Int32))) ∧ (Fr n0 L) ∧ (h = h0)
set_option maxRecDepth 65536 in
set_option maxHeartbeats 40000000 in
theorem rm_pcft (l : Launch) (Z : State) (a0 : Array Value) (hw : ∀ d ∈ tables_1, d.before a0 Z = true) (ws : List Jvm.Cond) (h0 : Heap) (n0 : Nat) (Z0 : n0 ≤ h0.size) :
    MetFree l (⟨"jdk/internal/util/Preconditions", "checkFromToIndex", "(IIILjava/util/function/BiFunction;)I"⟩ : MethodName) (head1 (Jvm.Cond.code (⟨"jdk/internal/util/Preconditions", "checkFromToIndex", "(IIILjava/util/function/BiFunction;)I"⟩ : MethodName) jdk_41_method_12_code 4 (some .int) :: ws) ({ frames := 0, cells := 0, slots := 0, locals := 0 } : Room)) (fun a₁ U₁ => a₁ = #[(.int (0 : Int32)), (.int (64 : Int32)), (.int (64 : Int32)), .null] ∧ Z.Warmed39 U₁.vm ∧ U₁.heap = h0) (fun _ _ _ _ _ => True) (fun _ U₁ o₁ U₂ => ∃ v₁ L₁, o₁ = .returned v₁ ∧ Q_pcft Z  h0 n0 v₁ U₂.heap L₁ ∧ FrameEnd U₁ o₁ U₂ L₁ ({ frames := 0, cells := 0, slots := 0, locals := 0 } : Room).cells ({ frames := 0, cells := 0, slots := 0, locals := 0 } : Room).slots) := by
  refine MetFree.of_bodySF (plainFor_of_name pn_3) hisR ?_
  intro p e s m args below meth c s₁ Bd hml0 hP hK
  obtain ⟨rfl, hZ, hh⟩ := hP
  have hx := Bd.exec
  have hby := Bd.bytes
  have hml : c.maxLocals = 4 := hml0
  have hown : s.vm.findClass "jdk/internal/util/Preconditions" = some m.cls := findClass_of_methodNamed Bd.named
  have hnm := (name_of_methodNamed Bd.named Bd.method).1
  have X0 : Stand p l e ({ frames := 0, cells := 0, slots := 0, locals := 0 } : Room) s m #[(.int (0 : Int32)), (.int (64 : Int32)), (.int (64 : Int32)), .null] below meth c s₁ [] 0 0 := Stand.of_body Bd
  have e0 : s₁.heap = h0 := by rw [← hh, Bd.state]; rfl
  have N0 := Fr.nil n0
  have pre0 : ∀ t, Steps p.tables e below (s₁.setTop (mkF m 0 #[.val (.int (0 : Int32)), .val (.int (64 : Int32)), .val (.int (64 : Int32)), .val .null] [])) t → Steps p.tables e below (s₁.setTop (entryFrame m #[(.int (0 : Int32)), (.int (64 : Int32)), (.int (64 : Int32)), .null] 4)) t := fun t k => castTop (ef_6 m (0 : Int32) (64 : Int32) (64 : Int32)) k
  obtain ⟨fs, hr, hrun, hended, hW, hsame⟩ := X0.leave (v := some (.int (0 : Int32))) (fun h => by rw [Bd.returns] at h; cases h)
  refine ⟨_, _, pre0 _ ?_, hrun, hended, _, _, rfl, ?_, ⟨_, rfl⟩, hW, hsame.mono (by decide) (by decide)⟩
  · refine XS.iloadN X0.here hx rfl (hb hby d_jdk_41_method_12_code_0) rfl ?_
    show Steps p.tables e below (s₁.setTop (mkF m 1 #[.val (.int (0 : Int32)), .val (.int (64 : Int32)), .val (.int (64 : Int32)), .val .null] [(.int (0 : Int32))])) _
    refine XS.ifNo X0.here hx rfl (hb hby d_jdk_41_method_12_code_1) rfl ((if0 _ _).trans (flt ((by decide) : ¬ ((0 : Int32) < (0 : Int32)))).1) ?_
    show Steps p.tables e below (s₁.setTop (mkF m 4 #[.val (.int (0 : Int32)), .val (.int (64 : Int32)), .val (.int (64 : Int32)), .val .null] [])) _
    refine XS.iloadN X0.here hx rfl (hb hby d_jdk_41_method_12_code_4) rfl ?_
    show Steps p.tables e below (s₁.setTop (mkF m 5 #[.val (.int (0 : Int32)), .val (.int (64 : Int32)), .val (.int (64 : Int32)), .val .null] [(.int (0 : Int32))])) _
    refine XS.iloadN X0.here hx rfl (hb hby d_jdk_41_method_12_code_5) rfl ?_
    show Steps p.tables e below (s₁.setTop (mkF m 6 #[.val (.int (0 : Int32)), .val (.int (64 : Int32)), .val (.int (64 : Int32)), .val .null] [(.int (64 : Int32)), (.int (0 : Int32))])) _
    refine XS.icmpNo X0.here hx rfl (hb hby d_jdk_41_method_12_code_6) rfl (flt ((by decide) : ¬ ((64 : Int32) < (0 : Int32)))).2.2.1 ?_
    show Steps p.tables e below (s₁.setTop (mkF m 9 #[.val (.int (0 : Int32)), .val (.int (64 : Int32)), .val (.int (64 : Int32)), .val .null] [])) _
    refine XS.iloadN X0.here hx rfl (hb hby d_jdk_41_method_12_code_9) rfl ?_
    show Steps p.tables e below (s₁.setTop (mkF m 10 #[.val (.int (0 : Int32)), .val (.int (64 : Int32)), .val (.int (64 : Int32)), .val .null] [(.int (64 : Int32))])) _
    refine XS.iloadN X0.here hx rfl (hb hby d_jdk_41_method_12_code_10) rfl ?_
    show Steps p.tables e below (s₁.setTop (mkF m 11 #[.val (.int (0 : Int32)), .val (.int (64 : Int32)), .val (.int (64 : Int32)), .val .null] [(.int (64 : Int32)), (.int (64 : Int32))])) _
    refine XS.icmpYes X0.here hx rfl (pc0 := 11) (pc' := 22) rfl (hb hby d_jdk_41_method_12_code_11) rfl (flt ((by decide) : ¬ ((64 : Int32) < (64 : Int32)))).2.2.2 (by decide) (by decide) ?_
    show Steps p.tables e below (s₁.setTop (mkF m 22 #[.val (.int (0 : Int32)), .val (.int (64 : Int32)), .val (.int (64 : Int32)), .val .null] [])) _
    refine XS.iloadN X0.here hx rfl (hb hby d_jdk_41_method_12_code_22) rfl ?_
    show Steps p.tables e below (s₁.setTop (mkF m 23 #[.val (.int (0 : Int32)), .val (.int (64 : Int32)), .val (.int (64 : Int32)), .val .null] [(.int (0 : Int32))])) _
    exact retI X0 hx Bd.returns (hb hby d_jdk_41_method_12_code_23) hr
  · show Q_pcft Z  h0 n0 _ s₁.heap _
    rw [e0]
    exact ⟨rfl, N0, rfl⟩
theorem d_jdk_31_method_18_code_0 : decode jdk_31_method_18_code 0 = .ok (.iload_n 0, 1) := by decide +kernel
theorem d_jdk_31_method_18_code_1 : decode jdk_31_method_18_code 1 = .ok (.iload_n 1, 1) := by decide +kernel
theorem d_jdk_31_method_18_code_2 : decode jdk_31_method_18_code 2 = .ok (.iload_n 2, 1) := by decide +kernel
theorem d_jdk_31_method_18_code_3 : decode jdk_31_method_18_code 3 = .ok (.aconst_null, 1) := by decide +kernel
theorem d_jdk_31_method_18_code_4 : decode jdk_31_method_18_code 4 = .ok (.invokestatic 111, 3) := by decide +kernel
theorem pd_5 : parseMethodDescriptor "(IIILjava/util/function/BiFunction;)I" = some ⟨[.int, .int, .int, (.object "java/util/function/BiFunction")], some .int⟩ := by decide +kernel
theorem d_jdk_31_method_18_code_7 : decode jdk_31_method_18_code 7 = .ok (.ireturn, 1) := by decide +kernel
theorem ef_7 (m : MethodId) (x0 : Int32) (x1 : Int32) (x2 : Int32) : entryFrame m #[(.int x0), (.int x1), (.int x2)] 3 = mkF m 0 #[.val (.int x0), .val (.int x1), .val (.int x2)] [] := by first | (simp [entryFrame, mkF, argsToLocals, Value.category]; done) | rfl
def Q_cft (Z : State)  (h0 : Heap) (n0 : Nat) (v : Option Value) (h : Heap) (L : List Loc) : Prop := (v = some (.int (0 : Int32))) ∧ (Fr n0 L) ∧ (h = h0)
set_option maxRecDepth 65536 in
set_option maxHeartbeats 40000000 in
theorem rm_cft (l : Launch) (Z : State) (a0 : Array Value) (hw : ∀ d ∈ tables_1, d.before a0 Z = true) (ws : List Jvm.Cond) (h0 : Heap) (n0 : Nat) (Z0 : n0 ≤ h0.size) :
    MetFree l (⟨"java/util/Objects", "checkFromToIndex", "(III)I"⟩ : MethodName) (head1 (Jvm.Cond.code (⟨"java/util/Objects", "checkFromToIndex", "(III)I"⟩ : MethodName) jdk_31_method_18_code 3 (some .int) :: ws) ({ frames := 1, cells := 0, slots := 0, locals := 15 } : Room)) (fun a₁ U₁ => a₁ = #[(.int (0 : Int32)), (.int (64 : Int32)), (.int (64 : Int32))] ∧ Z.Warmed39 U₁.vm ∧ U₁.heap = h0) (fun _ _ _ _ _ => True) (fun _ U₁ o₁ U₂ => ∃ v₁ L₁, o₁ = .returned v₁ ∧ Q_cft Z  h0 n0 v₁ U₂.heap L₁ ∧ FrameEnd U₁ o₁ U₂ L₁ ({ frames := 1, cells := 0, slots := 0, locals := 15 } : Room).cells ({ frames := 1, cells := 0, slots := 0, locals := 15 } : Room).slots) := by
  refine MetFree.of_bodySF (plainFor_of_name pn_2) hisR ?_
  intro p e s m args below meth c s₁ Bd hml0 hP hK
  obtain ⟨rfl, hZ, hh⟩ := hP
  have hx := Bd.exec
  have hby := Bd.bytes
  have hml : c.maxLocals = 3 := hml0
  have hown : s.vm.findClass "java/util/Objects" = some m.cls := findClass_of_methodNamed Bd.named
  have hnm := (name_of_methodNamed Bd.named Bd.method).1
  have X0 : Stand p l e ({ frames := 1, cells := 0, slots := 0, locals := 15 } : Room) s m #[(.int (0 : Int32)), (.int (64 : Int32)), (.int (64 : Int32))] below meth c s₁ [] 0 0 := Stand.of_body Bd
  have e0 : s₁.heap = h0 := by rw [← hh, Bd.state]; rfl
  have N0 := Fr.nil n0
  have pre0 : ∀ t, Steps p.tables e below (s₁.setTop (mkF m 0 #[.val (.int (0 : Int32)), .val (.int (64 : Int32)), .val (.int (64 : Int32))] [])) t → Steps p.tables e below (s₁.setTop (entryFrame m #[(.int (0 : Int32)), (.int (64 : Int32)), (.int (64 : Int32))] 3)) t := fun t k => castTop (ef_7 m (0 : Int32) (64 : Int32) (64 : Int32)) k
  obtain ⟨_, _, ⟨T301, L301, k301, n301⟩, -, X301, ⟨Lc301, hQ301, l301, y301, z301⟩, st301⟩ := Jvm.LawKit.callS X0 hx (y := (⟨"jdk/internal/util/Preconditions", "checkFromToIndex", "(IIILjava/util/function/BiFunction;)I"⟩ : MethodName)) hown (mvT hZ (hw _ (List.mem_of_getElem? (i := 85) rfl))) (mvT hZ (hw _ (List.mem_of_getElem? (i := 86) rfl))) (mvT hZ (hw _ (List.mem_of_getElem? (i := 87) rfl))) (mvT hZ (hw _ (List.mem_of_getElem? (i := 88) rfl))) (by decide) (backOf (W := 0) (rm_pcft l Z a0 hw []  h0 n0 Z0 ) hZ (hw _ (List.mem_of_getElem? (i := 88) rfl)) (hw _ (List.mem_of_getElem? (i := 87) rfl)) (by decide) (by decide)) (g := (mkF m 4 #[.val (.int (0 : Int32)), .val (.int (64 : Int32)), .val (.int (64 : Int32))] [.null, (.int (64 : Int32)), (.int (64 : Int32)), (.int (0 : Int32))])) rfl (by rw [hml]; rfl) (argsL := [(.int (0 : Int32)), (.int (64 : Int32)), (.int (64 : Int32)), .null]) (rest := []) (lenOf pd_5 rfl) rfl (by show 2 * 0 + _ ≤ _; exact Nat.le_of_eq rfl) (hb hby d_jdk_31_method_18_code_4) (fun _ _ => ⟨rfl, e0, (by decide : 0 + 0 ≤ _), (by decide : 0 + 0 ≤ _)⟩)
  dsimp only [Pt.U, Pt.locs, Pt.cells, Pt.slots] at X301 l301 y301 z301 st301 hQ301
  replace l301 := l301.symm
  replace y301 := y301.symm
  replace z301 := z301.symm
  subst l301 y301 z301
  obtain ⟨rfl, Nq301, e301⟩ := hQ301
  have N301 := Fr.app N0 Nq301
  obtain ⟨fs, hr, hrun, hended, hW, hsame⟩ := X301.leave (v := some (.int (0 : Int32))) (fun h => by rw [Bd.returns] at h; cases h)
  refine ⟨_, _, pre0 _ ?_, hrun, hended, _, _, rfl, ?_, ⟨_, rfl⟩, hW, hsame.mono (by decide) (by decide)⟩
  · refine XS.iloadN X0.here hx rfl (hb hby d_jdk_31_method_18_code_0) rfl ?_
    show Steps p.tables e below (s₁.setTop (mkF m 1 #[.val (.int (0 : Int32)), .val (.int (64 : Int32)), .val (.int (64 : Int32))] [(.int (0 : Int32))])) _
    refine XS.iloadN X0.here hx rfl (hb hby d_jdk_31_method_18_code_1) rfl ?_
    show Steps p.tables e below (s₁.setTop (mkF m 2 #[.val (.int (0 : Int32)), .val (.int (64 : Int32)), .val (.int (64 : Int32))] [(.int (64 : Int32)), (.int (0 : Int32))])) _
    refine XS.iloadN X0.here hx rfl (hb hby d_jdk_31_method_18_code_2) rfl ?_
    show Steps p.tables e below (s₁.setTop (mkF m 3 #[.val (.int (0 : Int32)), .val (.int (64 : Int32)), .val (.int (64 : Int32))] [(.int (64 : Int32)), (.int (64 : Int32)), (.int (0 : Int32))])) _
    refine XS.aconstNull X0.here hx rfl (hb hby d_jdk_31_method_18_code_3) ?_
    show Steps p.tables e below (s₁.setTop (mkF m 4 #[.val (.int (0 : Int32)), .val (.int (64 : Int32)), .val (.int (64 : Int32))] [.null, (.int (64 : Int32)), (.int (64 : Int32)), (.int (0 : Int32))])) _
    refine st301 _ ?_
    show Steps p.tables e below (T301.setTop (mkF m 7 #[.val (.int (0 : Int32)), .val (.int (64 : Int32)), .val (.int (64 : Int32))] [(.int (0 : Int32))])) _
    exact retI X301 hx Bd.returns (hb hby d_jdk_31_method_18_code_7) hr
  · show Q_cft Z  h0 n0 _ T301.heap _
    rw [e301]
    exact ⟨rfl, N301, rfl⟩
theorem d_jdk_42_method_55_code_0 : decode jdk_42_method_55_code 0 = .ok (.aload_n 0, 1) := by decide +kernel
theorem d_jdk_42_method_55_code_1 : decode jdk_42_method_55_code 1 = .ok (.getfield 9, 3) := by decide +kernel
theorem d_jdk_42_method_55_code_4 : decode jdk_42_method_55_code 4 = .ok (.arraylength, 1) := by decide +kernel
theorem d_jdk_42_method_55_code_5 : decode jdk_42_method_55_code 5 = .ok (.ifCond .ne 7, 3) := by decide +kernel
theorem d_jdk_42_method_55_code_12 : decode jdk_42_method_55_code 12 = .ok (.iconst 0, 1) := by decide +kernel
theorem d_jdk_42_method_55_code_13 : decode jdk_42_method_55_code 13 = .ok (.ireturn, 1) := by decide +kernel
theorem ef_8 (m : MethodId) (x0 : Addr) : entryFrame m #[(.ref x0)] 1 = mkF m 0 #[.val (.ref x0)] [] := by first | (simp [entryFrame, mkF, argsToLocals, Value.category]; done) | rfl
theorem pn_4 : plainName "java/lang/String" = true := by first | (simp [plainName, overriddenIn]; done) | decide +kernel
def Q_isN (Z : State) (xs : Addr) (t1 : Addr) (k1 : ClassId) (nn : Int32) (vs : List Value) (h0 : Heap) (n0 : Nat) (v : Option Value) (h : Heap) (L : List Loc) : Prop := (v = some (.int (0 : Int32))) ∧ (Fr n0 L) ∧ (h = h0)
set_option maxRecDepth 65536 in
set_option maxHeartbeats 40000000 in
theorem rm_isN (l : Launch) (Z : State) (a0 : Array Value) (hw : ∀ d ∈ tables_1, d.before a0 Z = true) (ws : List Jvm.Cond) (xs : Addr) (t1 : Addr) (k1 : ClassId) (nn : Int32) (vs : List Value) (h0 : Heap) (n0 : Nat) (Z0 : n0 ≤ h0.size) (q0 : Fld Z h0 xs "java/lang/String" "value" "[B" (.ref t1)) (q1 : Arv Z h0 t1 k1 .byte nn vs (.int 0)) (hnn : ¬ nn = (0 : Int32)) :
    MetFree l (⟨"java/lang/String", "isEmpty", "()Z"⟩ : MethodName) (head1 (Jvm.Cond.code (⟨"java/lang/String", "isEmpty", "()Z"⟩ : MethodName) jdk_42_method_55_code 1 (some .boolean) :: ws) ({ frames := 0, cells := 0, slots := 0, locals := 0 } : Room)) (fun a₁ U₁ => a₁ = #[(.ref xs)] ∧ Z.Warmed39 U₁.vm ∧ U₁.heap = h0) (fun _ _ _ _ _ => True) (fun _ U₁ o₁ U₂ => ∃ v₁ L₁, o₁ = .returned v₁ ∧ Q_isN Z xs t1 k1 nn vs h0 n0 v₁ U₂.heap L₁ ∧ FrameEnd U₁ o₁ U₂ L₁ ({ frames := 0, cells := 0, slots := 0, locals := 0 } : Room).cells ({ frames := 0, cells := 0, slots := 0, locals := 0 } : Room).slots) := by
  refine MetFree.of_bodySF (plainFor_of_name pn_4) hisR ?_
  intro p e s m args below meth c s₁ Bd hml0 hP hK
  obtain ⟨rfl, hZ, hh⟩ := hP
  have hx := Bd.exec
  have hby := Bd.bytes
  have hml : c.maxLocals = 1 := hml0
  have hown : s.vm.findClass "java/lang/String" = some m.cls := findClass_of_methodNamed Bd.named
  have hnm := (name_of_methodNamed Bd.named Bd.method).1
  have X0 : Stand p l e ({ frames := 0, cells := 0, slots := 0, locals := 0 } : Room) s m #[(.ref xs)] below meth c s₁ [] 0 0 := Stand.of_body Bd
  have e0 : s₁.heap = h0 := by rw [← hh, Bd.state]; rfl
  have N0 := Fr.nil n0
  have pre0 : ∀ t, Steps p.tables e below (s₁.setTop (mkF m 0 #[.val (.ref xs)] [])) t → Steps p.tables e below (s₁.setTop (entryFrame m #[(.ref xs)] 1)) t := fun t k => castTop (ef_8 m xs) k
  obtain ⟨T301, X301, e301, st301⟩ := getF X0 hx hZ hown (host := "") (Or.inl (hw _ (List.mem_of_getElem? (i := 37) rfl))) Via.refl e0 q0 (g := (mkF m 1 #[.val (.ref xs)] [(.ref xs)])) rfl rfl (hb hby d_jdk_42_method_55_code_1)
  obtain ⟨cl302, Ar302, -, S302, M302, -, -⟩ := id q1
  obtain ⟨fs, hr, hrun, hended, hW, hsame⟩ := X301.leave (v := some (.int (0 : Int32))) (fun h => by rw [Bd.returns] at h; cases h)
  refine ⟨_, _, pre0 _ ?_, hrun, hended, _, _, rfl, ?_, ⟨_, rfl⟩, hW, hsame.mono (by decide) (by decide)⟩
  · refine XS.aloadN X0.here hx rfl (hb hby d_jdk_42_method_55_code_0) rfl rfl ?_
    show Steps p.tables e below (s₁.setTop (mkF m 1 #[.val (.ref xs)] [(.ref xs)])) _
    refine st301 _ ?_
    show Steps p.tables e below (T301.setTop (mkF m 4 #[.val (.ref xs)] [(.ref t1)])) _
    refine X301.arraylength hx (by rw [e301]; exact Ar302.1) (State.isArrayOf_alike hZ.alike Ar302.2.1) (g := (mkF m 4 #[.val (.ref xs)] [(.ref t1)])) rfl rfl (hb hby d_jdk_42_method_55_code_4) _ ?_
    rw [len_of S302 M302]
    show Steps p.tables e below (T301.setTop (mkF m 5 #[.val (.ref xs)] [(.int nn)])) _
    refine XS.ifYes X301.here hx rfl (pc0 := 5) (pc' := 12) rfl (hb hby d_jdk_42_method_55_code_5) rfl ((if0 _ _).trans (feq (hnn : ¬ (nn = (0 : Int32)))).2) (by decide) (by decide) ?_
    show Steps p.tables e below (T301.setTop (mkF m 12 #[.val (.ref xs)] [])) _
    refine XS.iconst X301.here hx rfl (hb hby d_jdk_42_method_55_code_12) ?_
    show Steps p.tables e below (T301.setTop (mkF m 13 #[.val (.ref xs)] [(.int (0 : Int32))])) _
    exact retN X301 hx (t := .boolean) Bd.returns (by simp) (hb hby d_jdk_42_method_55_code_13) hr
  · show Q_isN Z xs t1 k1 nn vs h0 n0 _ T301.heap _
    rw [e301]
    exact ⟨rfl, N0, rfl⟩
theorem d_jdk_42_method_55_code_8 : decode jdk_42_method_55_code 8 = .ok (.iconst 1, 1) := by decide +kernel
theorem d_jdk_42_method_55_code_9 : decode jdk_42_method_55_code 9 = .ok (.goto 4, 3) := by decide +kernel
def Q_isE (Z : State) (xs : Addr) (t1 : Addr) (k1 : ClassId) (vs : List Value) (h0 : Heap) (n0 : Nat) (v : Option Value) (h : Heap) (L : List Loc) : Prop := (v = some (.int (1 : Int32))) ∧ (Fr n0 L) ∧ (h = h0)
set_option maxRecDepth 65536 in
set_option maxHeartbeats 40000000 in
theorem rm_isE (l : Launch) (Z : State) (a0 : Array Value) (hw : ∀ d ∈ tables_1, d.before a0 Z = true) (ws : List Jvm.Cond) (xs : Addr) (t1 : Addr) (k1 : ClassId) (vs : List Value) (h0 : Heap) (n0 : Nat) (Z0 : n0 ≤ h0.size) (q0 : Fld Z h0 xs "java/lang/String" "value" "[B" (.ref t1)) (q1 : Arv Z h0 t1 k1 .byte (0 : Int32) vs (.int 0)) :
    MetFree l (⟨"java/lang/String", "isEmpty", "()Z"⟩ : MethodName) (head1 (Jvm.Cond.code (⟨"java/lang/String", "isEmpty", "()Z"⟩ : MethodName) jdk_42_method_55_code 1 (some .boolean) :: ws) ({ frames := 0, cells := 0, slots := 0, locals := 0 } : Room)) (fun a₁ U₁ => a₁ = #[(.ref xs)] ∧ Z.Warmed39 U₁.vm ∧ U₁.heap = h0) (fun _ _ _ _ _ => True) (fun _ U₁ o₁ U₂ => ∃ v₁ L₁, o₁ = .returned v₁ ∧ Q_isE Z xs t1 k1 vs h0 n0 v₁ U₂.heap L₁ ∧ FrameEnd U₁ o₁ U₂ L₁ ({ frames := 0, cells := 0, slots := 0, locals := 0 } : Room).cells ({ frames := 0, cells := 0, slots := 0, locals := 0 } : Room).slots) := by
  refine MetFree.of_bodySF (plainFor_of_name pn_4) hisR ?_
  intro p e s m args below meth c s₁ Bd hml0 hP hK
  obtain ⟨rfl, hZ, hh⟩ := hP
  have hx := Bd.exec
  have hby := Bd.bytes
  have hml : c.maxLocals = 1 := hml0
  have hown : s.vm.findClass "java/lang/String" = some m.cls := findClass_of_methodNamed Bd.named
  have hnm := (name_of_methodNamed Bd.named Bd.method).1
  have X0 : Stand p l e ({ frames := 0, cells := 0, slots := 0, locals := 0 } : Room) s m #[(.ref xs)] below meth c s₁ [] 0 0 := Stand.of_body Bd
  have e0 : s₁.heap = h0 := by rw [← hh, Bd.state]; rfl
  have N0 := Fr.nil n0
  have pre0 : ∀ t, Steps p.tables e below (s₁.setTop (mkF m 0 #[.val (.ref xs)] [])) t → Steps p.tables e below (s₁.setTop (entryFrame m #[(.ref xs)] 1)) t := fun t k => castTop (ef_8 m xs) k
  obtain ⟨T301, X301, e301, st301⟩ := getF X0 hx hZ hown (host := "") (Or.inl (hw _ (List.mem_of_getElem? (i := 37) rfl))) Via.refl e0 q0 (g := (mkF m 1 #[.val (.ref xs)] [(.ref xs)])) rfl rfl (hb hby d_jdk_42_method_55_code_1)
  obtain ⟨cl302, Ar302, -, S302, M302, -, -⟩ := id q1
  obtain ⟨fs, hr, hrun, hended, hW, hsame⟩ := X301.leave (v := some (.int (1 : Int32))) (fun h => by rw [Bd.returns] at h; cases h)
  refine ⟨_, _, pre0 _ ?_, hrun, hended, _, _, rfl, ?_, ⟨_, rfl⟩, hW, hsame.mono (by decide) (by decide)⟩
  · refine XS.aloadN X0.here hx rfl (hb hby d_jdk_42_method_55_code_0) rfl rfl ?_
    show Steps p.tables e below (s₁.setTop (mkF m 1 #[.val (.ref xs)] [(.ref xs)])) _
    refine st301 _ ?_
    show Steps p.tables e below (T301.setTop (mkF m 4 #[.val (.ref xs)] [(.ref t1)])) _
    refine X301.arraylength hx (by rw [e301]; exact Ar302.1) (State.isArrayOf_alike hZ.alike Ar302.2.1) (g := (mkF m 4 #[.val (.ref xs)] [(.ref t1)])) rfl rfl (hb hby d_jdk_42_method_55_code_4) _ ?_
    rw [len_of S302 M302]
    show Steps p.tables e below (T301.setTop (mkF m 5 #[.val (.ref xs)] [(.int (0 : Int32))])) _
    refine XS.ifNo X301.here hx rfl (hb hby d_jdk_42_method_55_code_5) rfl ((if0 _ _).trans (teq ((by decide) : (0 : Int32) = (0 : Int32))).2) ?_
    show Steps p.tables e below (T301.setTop (mkF m 8 #[.val (.ref xs)] [])) _
    refine XS.iconst X301.here hx rfl (hb hby d_jdk_42_method_55_code_8) ?_
    show Steps p.tables e below (T301.setTop (mkF m 9 #[.val (.ref xs)] [(.int (1 : Int32))])) _
    refine XS.goto X301.here hx rfl (pc0 := 9) (pc' := 13) rfl (hb hby d_jdk_42_method_55_code_9) (by decide) (by decide) ?_
    show Steps p.tables e below (T301.setTop (mkF m 13 #[.val (.ref xs)] [(.int (1 : Int32))])) _
    exact retN X301 hx (t := .boolean) Bd.returns (by simp) (hb hby d_jdk_42_method_55_code_13) hr
  · show Q_isE Z xs t1 k1 vs h0 n0 _ T301.heap _
    rw [e301]
    exact ⟨rfl, N0, rfl⟩
theorem d_jdk_2580_method_20_code_0 : decode jdk_2580_method_20_code 0 = .ok (.aload_n 1, 1) := by decide +kernel
theorem d_jdk_2580_method_20_code_1 : decode jdk_2580_method_20_code 1 = .ok (.ldc 182, 2) := by decide +kernel
theorem d_jdk_2580_method_20_code_3 : decode jdk_2580_method_20_code 3 = .ok (.invokestatic 9, 3) := by decide +kernel
theorem pd_6 : parseMethodDescriptor "(Ljava/lang/Object;Ljava/lang/String;)Ljava/lang/Object;" = some ⟨[(.object "java/lang/Object"), (.object "java/lang/String")], some (.object "java/lang/Object")⟩ := by decide +kernel
theorem d_jdk_2580_method_20_code_6 : decode jdk_2580_method_20_code 6 = .ok (.pop, 1) := by decide +kernel
theorem d_jdk_2580_method_20_code_7 : decode jdk_2580_method_20_code 7 = .ok (.iload_n 2, 1) := by decide +kernel
theorem d_jdk_2580_method_20_code_8 : decode jdk_2580_method_20_code 8 = .ok (.iload_n 3, 1) := by decide +kernel
theorem d_jdk_2580_method_20_code_9 : decode jdk_2580_method_20_code 9 = .ok (.aload_n 1, 1) := by decide +kernel
theorem d_jdk_2580_method_20_code_10 : decode jdk_2580_method_20_code 10 = .ok (.invokeinterface 175 1, 5) := by decide +kernel
theorem d_jdk_2580_method_20_code_15 : decode jdk_2580_method_20_code 15 = .ok (.invokestatic 61, 3) := by decide +kernel
theorem pd_7 : parseMethodDescriptor "(III)I" = some ⟨[.int, .int, .int], some .int⟩ := by decide +kernel
theorem d_jdk_2580_method_20_code_18 : decode jdk_2580_method_20_code 18 = .ok (.pop, 1) := by decide +kernel
theorem d_jdk_2580_method_20_code_19 : decode jdk_2580_method_20_code 19 = .ok (.iload_n 2, 1) := by decide +kernel
theorem d_jdk_2580_method_20_code_20 : decode jdk_2580_method_20_code 20 = .ok (.ifCond .ne 13, 3) := by decide +kernel
theorem d_jdk_2580_method_20_code_23 : decode jdk_2580_method_20_code 23 = .ok (.iload_n 3, 1) := by decide +kernel
theorem d_jdk_2580_method_20_code_24 : decode jdk_2580_method_20_code 24 = .ok (.aload_n 1, 1) := by decide +kernel
theorem d_jdk_2580_method_20_code_25 : decode jdk_2580_method_20_code 25 = .ok (.invokeinterface 175 1, 5) := by decide +kernel
theorem d_jdk_2580_method_20_code_30 : decode jdk_2580_method_20_code 30 = .ok (.if_icmp .eq 12, 3) := by decide +kernel
theorem d_jdk_2580_method_20_code_42 : decode jdk_2580_method_20_code 42 = .ok (.aload_n 1, 1) := by decide +kernel
theorem d_jdk_2580_method_20_code_43 : decode jdk_2580_method_20_code 43 = .ok (.invokeinterface 188 1, 5) := by decide +kernel
theorem pd_8 : parseMethodDescriptor "()Z" = some ⟨[], some .boolean⟩ := by decide +kernel
theorem d_jdk_2580_method_20_code_48 : decode jdk_2580_method_20_code 48 = .ok (.ifCond .eq 7, 3) := by decide +kernel
theorem d_jdk_2580_method_20_code_55 : decode jdk_2580_method_20_code 55 = .ok (.aload_n 0, 1) := by decide +kernel
theorem d_jdk_2580_method_20_code_56 : decode jdk_2580_method_20_code 56 = .ok (.getfield 17, 3) := by decide +kernel
theorem d_jdk_2580_method_20_code_59 : decode jdk_2580_method_20_code 59 = .ok (.invokevirtual 106, 3) := by decide +kernel
theorem d_jdk_2580_method_20_code_62 : decode jdk_2580_method_20_code 62 = .ok (.ifCond .eq 28, 3) := by decide +kernel
theorem d_jdk_2580_method_20_code_65 : decode jdk_2580_method_20_code 65 = .ok (.aload_n 0, 1) := by decide +kernel
theorem d_jdk_2580_method_20_code_66 : decode jdk_2580_method_20_code 66 = .ok (.getfield 24, 3) := by decide +kernel
theorem d_jdk_2580_method_20_code_69 : decode jdk_2580_method_20_code 69 = .ok (.invokevirtual 106, 3) := by decide +kernel
theorem d_jdk_2580_method_20_code_72 : decode jdk_2580_method_20_code 72 = .ok (.ifCond .eq 18, 3) := by decide +kernel
theorem d_jdk_2580_method_20_code_75 : decode jdk_2580_method_20_code 75 = .ok (.aload_n 0, 1) := by decide +kernel
theorem d_jdk_2580_method_20_code_76 : decode jdk_2580_method_20_code 76 = .ok (.getfield 28, 3) := by decide +kernel
theorem d_jdk_2580_method_20_code_79 : decode jdk_2580_method_20_code 79 = .ok (.invokevirtual 106, 3) := by decide +kernel
theorem d_jdk_2580_method_20_code_82 : decode jdk_2580_method_20_code 82 = .ok (.ifCond .eq 8, 3) := by decide +kernel
theorem d_jdk_2580_method_20_code_85 : decode jdk_2580_method_20_code 85 = .ok (.aload_n 1, 1) := by decide +kernel
theorem d_jdk_2580_method_20_code_86 : decode jdk_2580_method_20_code 86 = .ok (.invokestatic 192, 3) := by decide +kernel
theorem pd_9 : parseMethodDescriptor "(Ljava/lang/CharSequence;)[B" = some ⟨[(.object "java/lang/CharSequence")], some (.array .byte)⟩ := by decide +kernel
theorem d_jdk_2580_method_20_code_89 : decode jdk_2580_method_20_code 89 = .ok (.areturn, 1) := by decide +kernel
theorem ef_9 (m : MethodId) (x0 : Addr) (x1 : Addr) (x2 : Int32) (x3 : Int32) : entryFrame m #[(.ref x0), (.ref x1), (.int x2), (.int x3)] 13 = mkF m 0 #[.val (.ref x0), .val (.ref x1), .val (.int x2), .val (.int x3), .unset, .unset, .unset, .unset, .unset, .unset, .unset, .unset, .unset] [] := by first | (simp [entryFrame, mkF, argsToLocals, Value.category]; done) | rfl
def Q_ph3 (Z : State) (hf : Addr) (dl : Addr) (dt : Addr) (kdt : ClassId) (xs : Addr) (t1 : Addr) (k1 : ClassId) (nn : Int32) (vs : List Value) (ds : List Int32) (G : Int32) (fm : Value) (dg : Addr) (kg : ClassId) (h0 : Heap) (n0 : Nat) (v : Option Value) (h : Heap) (L : List Loc) : Prop := ∃ (ba : Addr) (kb : ClassId), (v = some (.ref ba)) ∧ (Fr n0 L) ∧ (Keep h0 h ([] : List Addr)) ∧ (h0.size ≤ ba) ∧ (Arv Z h ba kb .byte (32 : Int32) (own_bytes ds) (.int (0 : Int32))) ∧ (Exa Z h ba "[B")
set_option maxRecDepth 65536 in
set_option maxHeartbeats 40000000 in
theorem rm_ph3 (l : Launch) (Z : State) (a0 : Array Value) (hw : ∀ d ∈ tables_1, d.before a0 Z = true) (ws : List Jvm.Cond) (hf : Addr) (dl : Addr) (dt : Addr) (kdt : ClassId) (xs : Addr) (t1 : Addr) (k1 : ClassId) (nn : Int32) (vs : List Value) (ds : List Int32) (G : Int32) (fm : Value) (dg : Addr) (kg : ClassId) (h0 : Heap) (n0 : Nat) (Z0 : n0 ≤ h0.size) (q0 : Sta Z Z.heap "java/lang/String" "COMPACT_STRINGS" "Z" (.int G)) (hCS : ¬ (G = (0 : Int32))) (q2 : Sta Z Z.heap "jdk/internal/util/Preconditions" "SIOOBE_FORMATTER" "Ljava/util/function/BiFunction;" fm) (hFM : fm.isRef = true) (q4 : Sta Z Z.heap "java/util/HexFormat" "DIGITS" "[B" (.ref dg)) (q5 : Arv Z Z.heap dg kg .byte (256 : Int32) (own_D.map Value.int) (.int (0 : Int32))) (q6 : Old Z n0 h0) (q7 : Exa Z h0 xs "java/lang/String") (q8 : Fld Z h0 xs "java/lang/String" "value" "[B" (.ref t1)) (q9 : Fld Z h0 xs "java/lang/String" "coder" "B" (.int (0 : Int32))) (q10 : Arv Z h0 t1 k1 .byte nn vs (.int 0)) (hcd1 : StrChars.Road.CodA ds 0 nn vs) (hbd1 : ∀ c ∈ ds, ¬ c < 0 ∧ ¬ (65535 : Int32) < c) (hle1 : ds.length ≤ 4000) (hD : ∀ c ∈ ds, ¬ c < 0 ∧ ¬ (255 : Int32) < c ∧ ¬ own_dig c < 0) (q15 : Exa Z Z.heap hf "java/util/HexFormat") (q16 : Fld Z Z.heap hf "java/util/HexFormat" "delimiter" "Ljava/lang/String;" (.ref dl)) (q17 : Fld Z Z.heap hf "java/util/HexFormat" "prefix" "Ljava/lang/String;" (.ref dl)) (q18 : Fld Z Z.heap hf "java/util/HexFormat" "suffix" "Ljava/lang/String;" (.ref dl)) (q19 : Exa Z Z.heap dl "java/lang/String") (q20 : Fld Z Z.heap dl "java/lang/String" "value" "[B" (.ref dt)) (q21 : Arv Z Z.heap dt kdt .byte (0 : Int32) [] (.int 0)) (hl : ds.length = 64) (hnn : ¬ nn = (0 : Int32)) :
    MetFree l (⟨"java/util/HexFormat", "parseHex", "(Ljava/lang/CharSequence;II)[B"⟩ : MethodName) (head1 (Jvm.Cond.code (⟨"java/util/HexFormat", "parseHex", "(Ljava/lang/CharSequence;II)[B"⟩ : MethodName) jdk_2580_method_20_code 13 (some (.array .byte)) :: ws) ({ frames := 6, cells := 3, slots := 60, locals := 84 } : Room)) (fun a₁ U₁ => a₁ = #[(.ref hf), (.ref xs), (.int (0 : Int32)), (.int (64 : Int32))] ∧ Z.Warmed39 U₁.vm ∧ U₁.heap = h0) (fun _ _ _ _ _ => True) (fun _ U₁ o₁ U₂ => ∃ v₁ L₁, o₁ = .returned v₁ ∧ Q_ph3 Z hf dl dt kdt xs t1 k1 nn vs ds G fm dg kg h0 n0 v₁ U₂.heap L₁ ∧ ReturnedEndW U₁ o₁ U₂ L₁ ({ frames := 6, cells := 3, slots := 60, locals := 84 } : Room).cells ({ frames := 6, cells := 3, slots := 60, locals := 84 } : Room).slots) := by
  refine MetFree.of_bodySF (plainFor_of_name pn_1) hisR ?_
  intro p e s m args below meth c s₁ Bd hml0 hP hK
  obtain ⟨rfl, hZ, hh⟩ := hP
  have hx := Bd.exec
  have hby := Bd.bytes
  have hml : c.maxLocals = 13 := hml0
  have hown : s.vm.findClass "java/util/HexFormat" = some m.cls := findClass_of_methodNamed Bd.named
  have hnm := (name_of_methodNamed Bd.named Bd.method).1
  have X0 : Stand p l e ({ frames := 6, cells := 3, slots := 60, locals := 84 } : Room) (s.setVm s.vm) m #[(.ref hf), (.ref xs), (.int (0 : Int32)), (.int (64 : Int32))] below meth c s₁ [] 0 0 := Stand.of_body Bd
  have e0 : s₁.heap = h0 := by rw [← hh, Bd.state]; rfl
  have N0 := Fr.nil n0
  have hZ0 : Z.Warmed39 (s.setVm s.vm).vm := hZ
  have hown0 : (s.setVm s.vm).vm.findClass "java/util/HexFormat" = some m.cls := hown
  have hS0 : s.Since s.vm h0.size := (State.WarmedH.refl s).since _
  have hk0 : h0.size ≤ h0.size := Nat.le_refl _
  have pre0 : ∀ t, Steps p.tables e below (s₁.setTop (mkF m 0 #[.val (.ref hf), .val (.ref xs), .val (.int (0 : Int32)), .val (.int (64 : Int32)), .unset, .unset, .unset, .unset, .unset, .unset, .unset, .unset, .unset] [])) t → Steps p.tables e below (s₁.setTop (entryFrame m #[(.ref hf), (.ref xs), (.int (0 : Int32)), (.int (64 : Int32))] 13)) t := fun t k => castTop (ef_9 m hf xs (0 : Int32) (64 : Int32)) k
  have hl64 : Int32.ofNat ds.length = (64 : Int32) := by rw [hl]; rfl
  obtain ⟨b301, T301, h301, kk301, X301, e301, E301, hS301, hk301, hZ301, hown301, st301⟩ := ldcS X0 hx hZ0 hown0 (hw _ (List.mem_of_getElem? (i := 75) rfl)) (own_hw_str hw) e0 hS0 hk0 (g := (mkF m 1 #[.val (.ref hf), .val (.ref xs), .val (.int (0 : Int32)), .val (.int (64 : Int32)), .unset, .unset, .unset, .unset, .unset, .unset, .unset, .unset, .unset] [(.ref xs)])) rfl (hb hby d_jdk_2580_method_20_code_1) (n := 24) (by decide) (by decide) (by decide) (by decide)
  obtain ⟨_, _, ⟨T302, L302, k302, n302⟩, -, X302, ⟨Lc302, hQ302, l302, y302, z302⟩, st302⟩ := Jvm.LawKit.callS X301 hx (y := (⟨"java/util/Objects", "requireNonNull", "(Ljava/lang/Object;Ljava/lang/String;)Ljava/lang/Object;"⟩ : MethodName)) hown301 (mvT hZ301 (hw _ (List.mem_of_getElem? (i := 78) rfl))) (mvT hZ301 (hw _ (List.mem_of_getElem? (i := 79) rfl))) (mvT hZ301 (hw _ (List.mem_of_getElem? (i := 80) rfl))) (mvT hZ301 (hw _ (List.mem_of_getElem? (i := 81) rfl))) (by decide) (backOf (W := 0) (rm_rnn l Z a0 hw [] xs b301 h301 n0 (Nat.le_trans Z0 E301.1) ) hZ301 (hw _ (List.mem_of_getElem? (i := 81) rfl)) (hw _ (List.mem_of_getElem? (i := 80) rfl)) (by decide) (by decide)) (g := (mkF m 3 #[.val (.ref hf), .val (.ref xs), .val (.int (0 : Int32)), .val (.int (64 : Int32)), .unset, .unset, .unset, .unset, .unset, .unset, .unset, .unset, .unset] [(.ref b301), (.ref xs)])) rfl (by rw [hml]; rfl) (argsL := [(.ref xs), (.ref b301)]) (rest := []) (lenOf pd_6 rfl) rfl (by show 2 * 0 + _ ≤ _; exact Nat.le_of_eq rfl) (hb hby d_jdk_2580_method_20_code_3) (fun _ _ => ⟨rfl, e301, (by decide : 2 + 0 ≤ _), (by decide : 28 + 0 ≤ _)⟩)
  dsimp only [Pt.U, Pt.locs, Pt.cells, Pt.slots] at X302 l302 y302 z302 st302 hQ302
  replace l302 := l302.symm
  replace y302 := y302.symm
  replace z302 := z302.symm
  subst l302 y302 z302
  obtain ⟨rfl, Nq302, e302⟩ := hQ302
  have N302 := Fr.app N0 Nq302
  have c303 : Exa Z h301 xs "java/lang/String" := (q7.ext E301)
  have c305 : Old Z n0 h301 := (q6.ext E301)
  have c306 : Fld Z h301 xs "java/lang/String" "value" "[B" (.ref t1) := (q8.ext E301)
  have c307 : Fld Z h301 xs "java/lang/String" "coder" "B" (.int (0 : Int32)) := (q9.ext E301)
  have c308 : Arv Z h301 t1 k1 .byte nn vs (.int 0) := (q10.ext E301)
  obtain ⟨cq304, kq304, q304a, q304b, q304c⟩ := isOf hZ301 e302 c303
  obtain ⟨_, _, ⟨T304, L304, k304, n304⟩, -, X304, ⟨Lc304, hQ304, l304, y304, z304⟩, st304⟩ := X302.interfaceBack hx (xi := (⟨"java/lang/CharSequence", "length", "()I"⟩ : MethodName)) (y := (⟨"java/lang/String", "length", "()I"⟩ : MethodName)) hown301 (mvT hZ301 (hw _ (List.mem_of_getElem? (i := 63) rfl))) (mvT hZ301 (hw _ (List.mem_of_getElem? (i := 64) rfl))) (mvT hZ301 (hw _ (List.mem_of_getElem? (i := 65) rfl))) (mvT hZ301 (hw _ (List.mem_of_getElem? (i := 66) rfl))) (mvT hZ301 (hw _ (List.mem_of_getElem? (i := 45) rfl))) (mvT hZ301 (hw _ (List.mem_of_getElem? (i := 67) rfl))) (mvT hZ301 (hw _ (List.mem_of_getElem? (i := 68) rfl))) (mvT hZ301 (hw _ (List.mem_of_getElem? (i := 69) rfl))) (by decide) (StrChars.Road.lenW (W := 2) hZ301 (own_hw_lenW hw) (kI := 4) (hw _ (List.mem_of_getElem? (i := 11) rfl)) c303 c306 c307 c308 hcd1 hbd1 (q0.ext c305.2) hCS hle1 (by decide) (by decide)) q304a q304b q304c (g := (mkF m 10 #[.val (.ref hf), .val (.ref xs), .val (.int (0 : Int32)), .val (.int (64 : Int32)), .unset, .unset, .unset, .unset, .unset, .unset, .unset, .unset, .unset] [(.ref xs), (.int (64 : Int32)), (.int (0 : Int32))])) rfl (by rw [hml]; rfl) (Steps.refl _) (argsL := []) (rest := [(.int (64 : Int32)), (.int (0 : Int32))]) (lenOf pd_4 rfl) rfl (by show 2 * 0 + _ ≤ _; exact Nat.le_of_eq rfl) (hb hby d_jdk_2580_method_20_code_10) (fun _ _ => ⟨rfl, e302, (by decide : 2 + 0 ≤ _), (by decide : 28 + 0 ≤ _)⟩)
  dsimp only [Pt.U, Pt.locs, Pt.cells, Pt.slots] at X304 l304 y304 z304 st304 hQ304
  replace l304 := l304.symm
  replace y304 := y304.symm
  replace z304 := z304.symm
  subst l304 y304 z304
  obtain ⟨rfl, rfl, e304⟩ := hQ304
  have N304 := Fr.app N302 (Fr.nil n0)
  obtain ⟨_, _, ⟨T309, L309, k309, n309⟩, -, X309, ⟨Lc309, hQ309, l309, y309, z309⟩, st309⟩ := Jvm.LawKit.callS X304 hx (y := (⟨"java/util/Objects", "checkFromToIndex", "(III)I"⟩ : MethodName)) hown301 (mvT hZ301 (hw _ (List.mem_of_getElem? (i := 82) rfl))) (mvT hZ301 (hw _ (List.mem_of_getElem? (i := 83) rfl))) (mvT hZ301 (hw _ (List.mem_of_getElem? (i := 80) rfl))) (mvT hZ301 (hw _ (List.mem_of_getElem? (i := 84) rfl))) (by decide) (backOf (W := 0) (rm_cft l Z a0 hw []  h301 n0 (Nat.le_trans Z0 E301.1) ) hZ301 (hw _ (List.mem_of_getElem? (i := 84) rfl)) (hw _ (List.mem_of_getElem? (i := 80) rfl)) (by decide) (by decide)) (g := (mkF m 15 #[.val (.ref hf), .val (.ref xs), .val (.int (0 : Int32)), .val (.int (64 : Int32)), .unset, .unset, .unset, .unset, .unset, .unset, .unset, .unset, .unset] [(.int (64 : Int32)), (.int (64 : Int32)), (.int (0 : Int32))])) rfl (by rw [hml]; rfl) (argsL := [(.int (0 : Int32)), (.int (64 : Int32)), (.int (64 : Int32))]) (rest := []) (lenOf pd_7 rfl) rfl (by show 2 * 0 + _ ≤ _; exact Nat.le_of_eq rfl) (hb hby d_jdk_2580_method_20_code_15) (fun _ _ => ⟨rfl, e304, (by decide : 2 + 0 ≤ _), (by decide : 28 + 0 ≤ _)⟩)
  dsimp only [Pt.U, Pt.locs, Pt.cells, Pt.slots] at X309 l309 y309 z309 st309 hQ309
  replace l309 := l309.symm
  replace y309 := y309.symm
  replace z309 := z309.symm
  subst l309 y309 z309
  obtain ⟨rfl, Nq309, e309⟩ := hQ309
  have N309 := Fr.app N304 Nq309
  obtain ⟨cq310, kq310, q310a, q310b, q310c⟩ := isOf hZ301 e309 c303
  obtain ⟨_, _, ⟨T310, L310, k310, n310⟩, -, X310, ⟨Lc310, hQ310, l310, y310, z310⟩, st310⟩ := X309.interfaceBack hx (xi := (⟨"java/lang/CharSequence", "length", "()I"⟩ : MethodName)) (y := (⟨"java/lang/String", "length", "()I"⟩ : MethodName)) hown301 (mvT hZ301 (hw _ (List.mem_of_getElem? (i := 63) rfl))) (mvT hZ301 (hw _ (List.mem_of_getElem? (i := 64) rfl))) (mvT hZ301 (hw _ (List.mem_of_getElem? (i := 65) rfl))) (mvT hZ301 (hw _ (List.mem_of_getElem? (i := 66) rfl))) (mvT hZ301 (hw _ (List.mem_of_getElem? (i := 45) rfl))) (mvT hZ301 (hw _ (List.mem_of_getElem? (i := 67) rfl))) (mvT hZ301 (hw _ (List.mem_of_getElem? (i := 68) rfl))) (mvT hZ301 (hw _ (List.mem_of_getElem? (i := 69) rfl))) (by decide) (StrChars.Road.lenW (W := 1) hZ301 (own_hw_lenW hw) (kI := 4) (hw _ (List.mem_of_getElem? (i := 11) rfl)) c303 c306 c307 c308 hcd1 hbd1 (q0.ext c305.2) hCS hle1 (by decide) (by decide)) q310a q310b q310c (g := (mkF m 25 #[.val (.ref hf), .val (.ref xs), .val (.int (0 : Int32)), .val (.int (64 : Int32)), .unset, .unset, .unset, .unset, .unset, .unset, .unset, .unset, .unset] [(.ref xs), (.int (64 : Int32))])) rfl (by rw [hml]; rfl) (Steps.refl _) (argsL := []) (rest := [(.int (64 : Int32))]) (lenOf pd_4 rfl) rfl (by show 2 * 0 + _ ≤ _; exact Nat.le_of_eq rfl) (hb hby d_jdk_2580_method_20_code_25) (fun _ _ => ⟨rfl, e309, (by decide : 2 + 0 ≤ _), (by decide : 28 + 0 ≤ _)⟩)
  dsimp only [Pt.U, Pt.locs, Pt.cells, Pt.slots] at X310 l310 y310 z310 st310 hQ310
  replace l310 := l310.symm
  replace y310 := y310.symm
  replace z310 := z310.symm
  subst l310 y310 z310
  obtain ⟨rfl, rfl, e310⟩ := hQ310
  have N310 := Fr.app N309 (Fr.nil n0)
  obtain ⟨cq311, kq311, q311a, q311b, q311c⟩ := isOf hZ301 e310 c303
  obtain ⟨_, _, ⟨T311, L311, k311, n311⟩, -, X311, ⟨Lc311, hQ311, l311, y311, z311⟩, st311⟩ := X310.interfaceBack hx (xi := (⟨"java/lang/CharSequence", "isEmpty", "()Z"⟩ : MethodName)) (y := (⟨"java/lang/String", "isEmpty", "()Z"⟩ : MethodName)) hown301 (mvT hZ301 (hw _ (List.mem_of_getElem? (i := 89) rfl))) (mvT hZ301 (hw _ (List.mem_of_getElem? (i := 90) rfl))) (mvT hZ301 (hw _ (List.mem_of_getElem? (i := 91) rfl))) (mvT hZ301 (hw _ (List.mem_of_getElem? (i := 92) rfl))) (mvT hZ301 (hw _ (List.mem_of_getElem? (i := 93) rfl))) (mvT hZ301 (hw _ (List.mem_of_getElem? (i := 94) rfl))) (mvT hZ301 (hw _ (List.mem_of_getElem? (i := 95) rfl))) (mvT hZ301 (hw _ (List.mem_of_getElem? (i := 69) rfl))) (by decide) (backOf (W := 0) (rm_isN l Z a0 hw [] xs t1 k1 nn vs h301 n0 (Nat.le_trans Z0 E301.1) c306 c308 hnn) hZ301 (hw _ (List.mem_of_getElem? (i := 96) rfl)) (hw _ (List.mem_of_getElem? (i := 12) rfl)) (by decide) (by decide)) q311a q311b q311c (g := (mkF m 43 #[.val (.ref hf), .val (.ref xs), .val (.int (0 : Int32)), .val (.int (64 : Int32)), .unset, .unset, .unset, .unset, .unset, .unset, .unset, .unset, .unset] [(.ref xs)])) rfl (by rw [hml]; rfl) (Steps.refl _) (argsL := []) (rest := []) (lenOf pd_8 rfl) rfl (by show 2 * 0 + _ ≤ _; exact Nat.le_of_eq rfl) (hb hby d_jdk_2580_method_20_code_43) (fun _ _ => ⟨rfl, e310, (by decide : 2 + 0 ≤ _), (by decide : 28 + 0 ≤ _)⟩)
  dsimp only [Pt.U, Pt.locs, Pt.cells, Pt.slots] at X311 l311 y311 z311 st311 hQ311
  replace l311 := l311.symm
  replace y311 := y311.symm
  replace z311 := z311.symm
  subst l311 y311 z311
  obtain ⟨rfl, Nq311, e311⟩ := hQ311
  have N311 := Fr.app N310 Nq311
  obtain ⟨T312, X312, e312, st312⟩ := getF X311 hx hZ301 hown301 (host := "") (Or.inl (hw _ (List.mem_of_getElem? (i := 97) rfl))) Via.refl e311 (q16.ext c305.2) (g := (mkF m 56 #[.val (.ref hf), .val (.ref xs), .val (.int (0 : Int32)), .val (.int (64 : Int32)), .unset, .unset, .unset, .unset, .unset, .unset, .unset, .unset, .unset] [(.ref hf)])) rfl rfl (hb hby d_jdk_2580_method_20_code_56)
  obtain ⟨cq313, kq313, q313a, q313b, q313c⟩ := isOf hZ301 e312 (q19.ext c305.2)
  obtain ⟨_, _, ⟨T313, L313, k313, n313⟩, -, X313, ⟨Lc313, hQ313, l313, y313, z313⟩, st313⟩ := X312.virtualBack hx (y := (⟨"java/lang/String", "isEmpty", "()Z"⟩ : MethodName)) (z := (⟨"java/lang/String", "isEmpty", "()Z"⟩ : MethodName)) hown301 (mvT hZ301 (hw _ (List.mem_of_getElem? (i := 99) rfl))) (mvT hZ301 (hw _ (List.mem_of_getElem? (i := 100) rfl))) (notFace_of_selects (args := #[]) (mvT hZ301 (hw _ (List.mem_of_getElem? (i := 101) rfl)))) (mvT hZ301 (hw _ (List.mem_of_getElem? (i := 101) rfl))) (mvT hZ301 (hw _ (List.mem_of_getElem? (i := 93) rfl))) (by decide) (backOf (W := 0) (rm_isE l Z a0 hw [] dl dt kdt [] h301 n0 (Nat.le_trans Z0 E301.1) (q20.ext c305.2) (q21.ext c305.2)) hZ301 (hw _ (List.mem_of_getElem? (i := 96) rfl)) (hw _ (List.mem_of_getElem? (i := 12) rfl)) (by decide) (by decide)) q313a q313c (g := (mkF m 59 #[.val (.ref hf), .val (.ref xs), .val (.int (0 : Int32)), .val (.int (64 : Int32)), .unset, .unset, .unset, .unset, .unset, .unset, .unset, .unset, .unset] [(.ref dl)])) rfl (by rw [hml]; rfl) (Steps.refl _) (argsL := []) (rest := []) (lenOf pd_8 rfl) rfl (by show 2 * 0 + _ ≤ _; exact Nat.le_of_eq rfl) (hb hby d_jdk_2580_method_20_code_59) (fun _ _ => ⟨rfl, e312, (by decide : 2 + 0 ≤ _), (by decide : 28 + 0 ≤ _)⟩)
  dsimp only [Pt.U, Pt.locs, Pt.cells, Pt.slots] at X313 l313 y313 z313 st313 hQ313
  replace l313 := l313.symm
  replace y313 := y313.symm
  replace z313 := z313.symm
  subst l313 y313 z313
  obtain ⟨rfl, Nq313, e313⟩ := hQ313
  have N313 := Fr.app N311 Nq313
  obtain ⟨T314, X314, e314, st314⟩ := getF X313 hx hZ301 hown301 (host := "") (Or.inl (hw _ (List.mem_of_getElem? (i := 102) rfl))) Via.refl e313 (q17.ext c305.2) (g := (mkF m 66 #[.val (.ref hf), .val (.ref xs), .val (.int (0 : Int32)), .val (.int (64 : Int32)), .unset, .unset, .unset, .unset, .unset, .unset, .unset, .unset, .unset] [(.ref hf)])) rfl rfl (hb hby d_jdk_2580_method_20_code_66)
  obtain ⟨cq315, kq315, q315a, q315b, q315c⟩ := isOf hZ301 e314 (q19.ext c305.2)
  obtain ⟨_, _, ⟨T315, L315, k315, n315⟩, -, X315, ⟨Lc315, hQ315, l315, y315, z315⟩, st315⟩ := X314.virtualBack hx (y := (⟨"java/lang/String", "isEmpty", "()Z"⟩ : MethodName)) (z := (⟨"java/lang/String", "isEmpty", "()Z"⟩ : MethodName)) hown301 (mvT hZ301 (hw _ (List.mem_of_getElem? (i := 99) rfl))) (mvT hZ301 (hw _ (List.mem_of_getElem? (i := 100) rfl))) (notFace_of_selects (args := #[]) (mvT hZ301 (hw _ (List.mem_of_getElem? (i := 101) rfl)))) (mvT hZ301 (hw _ (List.mem_of_getElem? (i := 101) rfl))) (mvT hZ301 (hw _ (List.mem_of_getElem? (i := 93) rfl))) (by decide) (backOf (W := 0) (rm_isE l Z a0 hw [] dl dt kdt [] h301 n0 (Nat.le_trans Z0 E301.1) (q20.ext c305.2) (q21.ext c305.2)) hZ301 (hw _ (List.mem_of_getElem? (i := 96) rfl)) (hw _ (List.mem_of_getElem? (i := 12) rfl)) (by decide) (by decide)) q315a q315c (g := (mkF m 69 #[.val (.ref hf), .val (.ref xs), .val (.int (0 : Int32)), .val (.int (64 : Int32)), .unset, .unset, .unset, .unset, .unset, .unset, .unset, .unset, .unset] [(.ref dl)])) rfl (by rw [hml]; rfl) (Steps.refl _) (argsL := []) (rest := []) (lenOf pd_8 rfl) rfl (by show 2 * 0 + _ ≤ _; exact Nat.le_of_eq rfl) (hb hby d_jdk_2580_method_20_code_69) (fun _ _ => ⟨rfl, e314, (by decide : 2 + 0 ≤ _), (by decide : 28 + 0 ≤ _)⟩)
  dsimp only [Pt.U, Pt.locs, Pt.cells, Pt.slots] at X315 l315 y315 z315 st315 hQ315
  replace l315 := l315.symm
  replace y315 := y315.symm
  replace z315 := z315.symm
  subst l315 y315 z315
  obtain ⟨rfl, Nq315, e315⟩ := hQ315
  have N315 := Fr.app N313 Nq315
  obtain ⟨T316, X316, e316, st316⟩ := getF X315 hx hZ301 hown301 (host := "") (Or.inl (hw _ (List.mem_of_getElem? (i := 104) rfl))) Via.refl e315 (q18.ext c305.2) (g := (mkF m 76 #[.val (.ref hf), .val (.ref xs), .val (.int (0 : Int32)), .val (.int (64 : Int32)), .unset, .unset, .unset, .unset, .unset, .unset, .unset, .unset, .unset] [(.ref hf)])) rfl rfl (hb hby d_jdk_2580_method_20_code_76)
  obtain ⟨cq317, kq317, q317a, q317b, q317c⟩ := isOf hZ301 e316 (q19.ext c305.2)
  obtain ⟨_, _, ⟨T317, L317, k317, n317⟩, -, X317, ⟨Lc317, hQ317, l317, y317, z317⟩, st317⟩ := X316.virtualBack hx (y := (⟨"java/lang/String", "isEmpty", "()Z"⟩ : MethodName)) (z := (⟨"java/lang/String", "isEmpty", "()Z"⟩ : MethodName)) hown301 (mvT hZ301 (hw _ (List.mem_of_getElem? (i := 99) rfl))) (mvT hZ301 (hw _ (List.mem_of_getElem? (i := 100) rfl))) (notFace_of_selects (args := #[]) (mvT hZ301 (hw _ (List.mem_of_getElem? (i := 101) rfl)))) (mvT hZ301 (hw _ (List.mem_of_getElem? (i := 101) rfl))) (mvT hZ301 (hw _ (List.mem_of_getElem? (i := 93) rfl))) (by decide) (backOf (W := 0) (rm_isE l Z a0 hw [] dl dt kdt [] h301 n0 (Nat.le_trans Z0 E301.1) (q20.ext c305.2) (q21.ext c305.2)) hZ301 (hw _ (List.mem_of_getElem? (i := 96) rfl)) (hw _ (List.mem_of_getElem? (i := 12) rfl)) (by decide) (by decide)) q317a q317c (g := (mkF m 79 #[.val (.ref hf), .val (.ref xs), .val (.int (0 : Int32)), .val (.int (64 : Int32)), .unset, .unset, .unset, .unset, .unset, .unset, .unset, .unset, .unset] [(.ref dl)])) rfl (by rw [hml]; rfl) (Steps.refl _) (argsL := []) (rest := []) (lenOf pd_8 rfl) rfl (by show 2 * 0 + _ ≤ _; exact Nat.le_of_eq rfl) (hb hby d_jdk_2580_method_20_code_79) (fun _ _ => ⟨rfl, e316, (by decide : 2 + 0 ≤ _), (by decide : 28 + 0 ≤ _)⟩)
  dsimp only [Pt.U, Pt.locs, Pt.cells, Pt.slots] at X317 l317 y317 z317 st317 hQ317
  replace l317 := l317.symm
  replace y317 := y317.symm
  replace z317 := z317.symm
  subst l317 y317 z317
  obtain ⟨rfl, Nq317, e317⟩ := hQ317
  have N317 := Fr.app N315 Nq317
  obtain ⟨_, _, ⟨T318, L318, k318, n318⟩, -, X318, ⟨Lc318, hQ318, l318, y318, z318⟩, st318⟩ := Jvm.LawKit.callS X317 hx (y := (⟨"java/util/HexFormat", "parseNoDelimiter", "(Ljava/lang/CharSequence;)[B"⟩ : MethodName)) hown301 (mvT hZ301 (hw _ (List.mem_of_getElem? (i := 106) rfl))) (mvT hZ301 (hw _ (List.mem_of_getElem? (i := 107) rfl))) (mvT hZ301 (hw _ (List.mem_of_getElem? (i := 61) rfl))) (mvT hZ301 (hw _ (List.mem_of_getElem? (i := 108) rfl))) (by decide) (backOf (W := 0) (rm_pnd l Z a0 hw [] xs t1 k1 nn vs ds G fm dg kg h301 n0 (Nat.le_trans Z0 E301.1) q0 hCS q2 hFM q4 q5 c305 c303 c306 c307 c308 hcd1 hbd1 hle1 hD hl) hZ301 (hw _ (List.mem_of_getElem? (i := 108) rfl)) (hw _ (List.mem_of_getElem? (i := 61) rfl)) (by decide) (by decide)) (g := (mkF m 86 #[.val (.ref hf), .val (.ref xs), .val (.int (0 : Int32)), .val (.int (64 : Int32)), .unset, .unset, .unset, .unset, .unset, .unset, .unset, .unset, .unset] [(.ref xs)])) rfl (by rw [hml]; rfl) (argsL := [(.ref xs)]) (rest := []) (lenOf pd_9 rfl) rfl (by show 2 * 0 + _ ≤ _; exact Nat.le_of_eq rfl) (hb hby d_jdk_2580_method_20_code_86) (fun _ _ => ⟨rfl, e317, (by decide : 2 + 1 ≤ _), (by decide : 28 + 32 ≤ _)⟩)
  dsimp only [Pt.U, Pt.locs, Pt.cells, Pt.slots] at X318 l318 y318 z318 st318 hQ318
  replace l318 := l318.symm
  replace y318 := y318.symm
  replace z318 := z318.symm
  subst l318 y318 z318
  obtain ⟨ba_318, kb_318, rfl, Nq318, K318, f318_0, f318_1, f318_2⟩ := hQ318
  have N318 := Fr.app N317 Nq318
  obtain ⟨fs, hr, hrun, hended, hEnd⟩ := X318.leaveW hS301 (Nat.le_trans hk301 K318.1) (v := some (.ref ba_318)) (fun h => by rw [Bd.returns] at h; cases h)
  refine ⟨_, _, pre0 _ ?_, hrun, hended, _, _, rfl, ?_, hEnd.1, hEnd.2.1, hEnd.2.2.1, hEnd.2.2.2.mono (by decide) (by decide)⟩
  · refine XS.aloadN X0.here hx rfl (hb hby d_jdk_2580_method_20_code_0) rfl rfl ?_
    show Steps p.tables e below (s₁.setTop (mkF m 1 #[.val (.ref hf), .val (.ref xs), .val (.int (0 : Int32)), .val (.int (64 : Int32)), .unset, .unset, .unset, .unset, .unset, .unset, .unset, .unset, .unset] [(.ref xs)])) _
    refine st301 _ ?_
    show Steps p.tables e below (T301.setTop (mkF m 3 #[.val (.ref hf), .val (.ref xs), .val (.int (0 : Int32)), .val (.int (64 : Int32)), .unset, .unset, .unset, .unset, .unset, .unset, .unset, .unset, .unset] [(.ref b301), (.ref xs)])) _
    refine st302 _ ?_
    show Steps p.tables e below (T302.setTop (mkF m 6 #[.val (.ref hf), .val (.ref xs), .val (.int (0 : Int32)), .val (.int (64 : Int32)), .unset, .unset, .unset, .unset, .unset, .unset, .unset, .unset, .unset] [(.ref xs)])) _
    refine XS.pop X302.here hx rfl (hb hby d_jdk_2580_method_20_code_6) rfl rfl ?_
    show Steps p.tables e below (T302.setTop (mkF m 7 #[.val (.ref hf), .val (.ref xs), .val (.int (0 : Int32)), .val (.int (64 : Int32)), .unset, .unset, .unset, .unset, .unset, .unset, .unset, .unset, .unset] [])) _
    refine XS.iloadN X302.here hx rfl (hb hby d_jdk_2580_method_20_code_7) rfl ?_
    show Steps p.tables e below (T302.setTop (mkF m 8 #[.val (.ref hf), .val (.ref xs), .val (.int (0 : Int32)), .val (.int (64 : Int32)), .unset, .unset, .unset, .unset, .unset, .unset, .unset, .unset, .unset] [(.int (0 : Int32))])) _
    refine XS.iloadN X302.here hx rfl (hb hby d_jdk_2580_method_20_code_8) rfl ?_
    show Steps p.tables e below (T302.setTop (mkF m 9 #[.val (.ref hf), .val (.ref xs), .val (.int (0 : Int32)), .val (.int (64 : Int32)), .unset, .unset, .unset, .unset, .unset, .unset, .unset, .unset, .unset] [(.int (64 : Int32)), (.int (0 : Int32))])) _
    refine XS.aloadN X302.here hx rfl (hb hby d_jdk_2580_method_20_code_9) rfl rfl ?_
    show Steps p.tables e below (T302.setTop (mkF m 10 #[.val (.ref hf), .val (.ref xs), .val (.int (0 : Int32)), .val (.int (64 : Int32)), .unset, .unset, .unset, .unset, .unset, .unset, .unset, .unset, .unset] [(.ref xs), (.int (64 : Int32)), (.int (0 : Int32))])) _
    refine st304.trans ?_
    show Steps p.tables e below (T304.setTop (mkF m 15 #[.val (.ref hf), .val (.ref xs), .val (.int (0 : Int32)), .val (.int (64 : Int32)), .unset, .unset, .unset, .unset, .unset, .unset, .unset, .unset, .unset] [(.int (Int32.ofNat (ds).length)), (.int (64 : Int32)), (.int (0 : Int32))])) _
    rw [hl64]
    show Steps p.tables e below (T304.setTop (mkF m 15 #[.val (.ref hf), .val (.ref xs), .val (.int (0 : Int32)), .val (.int (64 : Int32)), .unset, .unset, .unset, .unset, .unset, .unset, .unset, .unset, .unset] [(.int (64 : Int32)), (.int (64 : Int32)), (.int (0 : Int32))])) _
    refine st309 _ ?_
    show Steps p.tables e below (T309.setTop (mkF m 18 #[.val (.ref hf), .val (.ref xs), .val (.int (0 : Int32)), .val (.int (64 : Int32)), .unset, .unset, .unset, .unset, .unset, .unset, .unset, .unset, .unset] [(.int (0 : Int32))])) _
    refine XS.pop X309.here hx rfl (hb hby d_jdk_2580_method_20_code_18) rfl rfl ?_
    show Steps p.tables e below (T309.setTop (mkF m 19 #[.val (.ref hf), .val (.ref xs), .val (.int (0 : Int32)), .val (.int (64 : Int32)), .unset, .unset, .unset, .unset, .unset, .unset, .unset, .unset, .unset] [])) _
    refine XS.iloadN X309.here hx rfl (hb hby d_jdk_2580_method_20_code_19) rfl ?_
    show Steps p.tables e below (T309.setTop (mkF m 20 #[.val (.ref hf), .val (.ref xs), .val (.int (0 : Int32)), .val (.int (64 : Int32)), .unset, .unset, .unset, .unset, .unset, .unset, .unset, .unset, .unset] [(.int (0 : Int32))])) _
    refine XS.ifNo X309.here hx rfl (hb hby d_jdk_2580_method_20_code_20) rfl ((if0 _ _).trans (teq ((by decide) : (0 : Int32) = (0 : Int32))).2) ?_
    show Steps p.tables e below (T309.setTop (mkF m 23 #[.val (.ref hf), .val (.ref xs), .val (.int (0 : Int32)), .val (.int (64 : Int32)), .unset, .unset, .unset, .unset, .unset, .unset, .unset, .unset, .unset] [])) _
    refine XS.iloadN X309.here hx rfl (hb hby d_jdk_2580_method_20_code_23) rfl ?_
    show Steps p.tables e below (T309.setTop (mkF m 24 #[.val (.ref hf), .val (.ref xs), .val (.int (0 : Int32)), .val (.int (64 : Int32)), .unset, .unset, .unset, .unset, .unset, .unset, .unset, .unset, .unset] [(.int (64 : Int32))])) _
    refine XS.aloadN X309.here hx rfl (hb hby d_jdk_2580_method_20_code_24) rfl rfl ?_
    show Steps p.tables e below (T309.setTop (mkF m 25 #[.val (.ref hf), .val (.ref xs), .val (.int (0 : Int32)), .val (.int (64 : Int32)), .unset, .unset, .unset, .unset, .unset, .unset, .unset, .unset, .unset] [(.ref xs), (.int (64 : Int32))])) _
    refine st310.trans ?_
    show Steps p.tables e below (T310.setTop (mkF m 30 #[.val (.ref hf), .val (.ref xs), .val (.int (0 : Int32)), .val (.int (64 : Int32)), .unset, .unset, .unset, .unset, .unset, .unset, .unset, .unset, .unset] [(.int (Int32.ofNat (ds).length)), (.int (64 : Int32))])) _
    rw [hl64]
    show Steps p.tables e below (T310.setTop (mkF m 30 #[.val (.ref hf), .val (.ref xs), .val (.int (0 : Int32)), .val (.int (64 : Int32)), .unset, .unset, .unset, .unset, .unset, .unset, .unset, .unset, .unset] [(.int (64 : Int32)), (.int (64 : Int32))])) _
    refine XS.icmpYes X310.here hx rfl (pc0 := 30) (pc' := 42) rfl (hb hby d_jdk_2580_method_20_code_30) rfl (teq ((by decide) : (64 : Int32) = (64 : Int32))).1 (by decide) (by decide) ?_
    show Steps p.tables e below (T310.setTop (mkF m 42 #[.val (.ref hf), .val (.ref xs), .val (.int (0 : Int32)), .val (.int (64 : Int32)), .unset, .unset, .unset, .unset, .unset, .unset, .unset, .unset, .unset] [])) _
    refine XS.aloadN X310.here hx rfl (hb hby d_jdk_2580_method_20_code_42) rfl rfl ?_
    show Steps p.tables e below (T310.setTop (mkF m 43 #[.val (.ref hf), .val (.ref xs), .val (.int (0 : Int32)), .val (.int (64 : Int32)), .unset, .unset, .unset, .unset, .unset, .unset, .unset, .unset, .unset] [(.ref xs)])) _
    refine st311.trans ?_
    show Steps p.tables e below (T311.setTop (mkF m 48 #[.val (.ref hf), .val (.ref xs), .val (.int (0 : Int32)), .val (.int (64 : Int32)), .unset, .unset, .unset, .unset, .unset, .unset, .unset, .unset, .unset] [(.int (0 : Int32))])) _
    refine XS.ifYes X311.here hx rfl (pc0 := 48) (pc' := 55) rfl (hb hby d_jdk_2580_method_20_code_48) rfl ((if0 _ _).trans (teq ((by decide) : (0 : Int32) = (0 : Int32))).1) (by decide) (by decide) ?_
    show Steps p.tables e below (T311.setTop (mkF m 55 #[.val (.ref hf), .val (.ref xs), .val (.int (0 : Int32)), .val (.int (64 : Int32)), .unset, .unset, .unset, .unset, .unset, .unset, .unset, .unset, .unset] [])) _
    refine XS.aloadN X311.here hx rfl (hb hby d_jdk_2580_method_20_code_55) rfl rfl ?_
    show Steps p.tables e below (T311.setTop (mkF m 56 #[.val (.ref hf), .val (.ref xs), .val (.int (0 : Int32)), .val (.int (64 : Int32)), .unset, .unset, .unset, .unset, .unset, .unset, .unset, .unset, .unset] [(.ref hf)])) _
    refine st312 _ ?_
    show Steps p.tables e below (T312.setTop (mkF m 59 #[.val (.ref hf), .val (.ref xs), .val (.int (0 : Int32)), .val (.int (64 : Int32)), .unset, .unset, .unset, .unset, .unset, .unset, .unset, .unset, .unset] [(.ref dl)])) _
    refine st313.trans ?_
    show Steps p.tables e below (T313.setTop (mkF m 62 #[.val (.ref hf), .val (.ref xs), .val (.int (0 : Int32)), .val (.int (64 : Int32)), .unset, .unset, .unset, .unset, .unset, .unset, .unset, .unset, .unset] [(.int (1 : Int32))])) _
    refine XS.ifNo X313.here hx rfl (hb hby d_jdk_2580_method_20_code_62) rfl ((if0 _ _).trans (feq ((by decide) : ¬ ((1 : Int32) = (0 : Int32)))).1) ?_
    show Steps p.tables e below (T313.setTop (mkF m 65 #[.val (.ref hf), .val (.ref xs), .val (.int (0 : Int32)), .val (.int (64 : Int32)), .unset, .unset, .unset, .unset, .unset, .unset, .unset, .unset, .unset] [])) _
    refine XS.aloadN X313.here hx rfl (hb hby d_jdk_2580_method_20_code_65) rfl rfl ?_
    show Steps p.tables e below (T313.setTop (mkF m 66 #[.val (.ref hf), .val (.ref xs), .val (.int (0 : Int32)), .val (.int (64 : Int32)), .unset, .unset, .unset, .unset, .unset, .unset, .unset, .unset, .unset] [(.ref hf)])) _
    refine st314 _ ?_
    show Steps p.tables e below (T314.setTop (mkF m 69 #[.val (.ref hf), .val (.ref xs), .val (.int (0 : Int32)), .val (.int (64 : Int32)), .unset, .unset, .unset, .unset, .unset, .unset, .unset, .unset, .unset] [(.ref dl)])) _
    refine st315.trans ?_
    show Steps p.tables e below (T315.setTop (mkF m 72 #[.val (.ref hf), .val (.ref xs), .val (.int (0 : Int32)), .val (.int (64 : Int32)), .unset, .unset, .unset, .unset, .unset, .unset, .unset, .unset, .unset] [(.int (1 : Int32))])) _
    refine XS.ifNo X315.here hx rfl (hb hby d_jdk_2580_method_20_code_72) rfl ((if0 _ _).trans (feq ((by decide) : ¬ ((1 : Int32) = (0 : Int32)))).1) ?_
    show Steps p.tables e below (T315.setTop (mkF m 75 #[.val (.ref hf), .val (.ref xs), .val (.int (0 : Int32)), .val (.int (64 : Int32)), .unset, .unset, .unset, .unset, .unset, .unset, .unset, .unset, .unset] [])) _
    refine XS.aloadN X315.here hx rfl (hb hby d_jdk_2580_method_20_code_75) rfl rfl ?_
    show Steps p.tables e below (T315.setTop (mkF m 76 #[.val (.ref hf), .val (.ref xs), .val (.int (0 : Int32)), .val (.int (64 : Int32)), .unset, .unset, .unset, .unset, .unset, .unset, .unset, .unset, .unset] [(.ref hf)])) _
    refine st316 _ ?_
    show Steps p.tables e below (T316.setTop (mkF m 79 #[.val (.ref hf), .val (.ref xs), .val (.int (0 : Int32)), .val (.int (64 : Int32)), .unset, .unset, .unset, .unset, .unset, .unset, .unset, .unset, .unset] [(.ref dl)])) _
    refine st317.trans ?_
    show Steps p.tables e below (T317.setTop (mkF m 82 #[.val (.ref hf), .val (.ref xs), .val (.int (0 : Int32)), .val (.int (64 : Int32)), .unset, .unset, .unset, .unset, .unset, .unset, .unset, .unset, .unset] [(.int (1 : Int32))])) _
    refine XS.ifNo X317.here hx rfl (hb hby d_jdk_2580_method_20_code_82) rfl ((if0 _ _).trans (feq ((by decide) : ¬ ((1 : Int32) = (0 : Int32)))).1) ?_
    show Steps p.tables e below (T317.setTop (mkF m 85 #[.val (.ref hf), .val (.ref xs), .val (.int (0 : Int32)), .val (.int (64 : Int32)), .unset, .unset, .unset, .unset, .unset, .unset, .unset, .unset, .unset] [])) _
    refine XS.aloadN X317.here hx rfl (hb hby d_jdk_2580_method_20_code_85) rfl rfl ?_
    show Steps p.tables e below (T317.setTop (mkF m 86 #[.val (.ref hf), .val (.ref xs), .val (.int (0 : Int32)), .val (.int (64 : Int32)), .unset, .unset, .unset, .unset, .unset, .unset, .unset, .unset, .unset] [(.ref xs)])) _
    refine st318 _ ?_
    show Steps p.tables e below (T318.setTop (mkF m 89 #[.val (.ref hf), .val (.ref xs), .val (.int (0 : Int32)), .val (.int (64 : Int32)), .unset, .unset, .unset, .unset, .unset, .unset, .unset, .unset, .unset] [(.ref ba_318)])) _
    jvm_step X318.here [X318.here.top, hx, (hb hby d_jdk_2580_method_20_code_89), X318.method', Bd.returns, Value.isRef, FieldType.isReference]
    first | (intro acts; rw [hr _ acts rfl rfl rfl]) | rw [hr _ _ rfl rfl rfl]
    exact Steps.refl _
  · show Q_ph3 Z hf dl dt kdt xs t1 k1 nn vs ds G fm dg kg h0 n0 _ T318.heap _
    exact ⟨ba_318, kb_318, rfl, N318, (((Keep.refl h0 ([] : List Addr)).ext E301).trans K318 all0), (Nat.le_trans E301.1 f318_0), f318_1, f318_2⟩
theorem d_jdk_2580_method_19_code_0 : decode jdk_2580_method_19_code 0 = .ok (.aload_n 0, 1) := by decide +kernel
theorem d_jdk_2580_method_19_code_1 : decode jdk_2580_method_19_code 1 = .ok (.aload_n 1, 1) := by decide +kernel
theorem d_jdk_2580_method_19_code_2 : decode jdk_2580_method_19_code 2 = .ok (.iconst 0, 1) := by decide +kernel
theorem d_jdk_2580_method_19_code_3 : decode jdk_2580_method_19_code 3 = .ok (.aload_n 1, 1) := by decide +kernel
theorem d_jdk_2580_method_19_code_4 : decode jdk_2580_method_19_code 4 = .ok (.invokeinterface 175 1, 5) := by decide +kernel
theorem d_jdk_2580_method_19_code_9 : decode jdk_2580_method_19_code 9 = .ok (.invokevirtual 178, 3) := by decide +kernel
theorem pd_10 : parseMethodDescriptor "(Ljava/lang/CharSequence;II)[B" = some ⟨[(.object "java/lang/CharSequence"), .int, .int], some (.array .byte)⟩ := by decide +kernel
theorem d_jdk_2580_method_19_code_12 : decode jdk_2580_method_19_code 12 = .ok (.areturn, 1) := by decide +kernel
def Q_ph1 (Z : State) (hf : Addr) (dl : Addr) (dt : Addr) (kdt : ClassId) (xs : Addr) (t1 : Addr) (k1 : ClassId) (nn : Int32) (vs : List Value) (ds : List Int32) (G : Int32) (fm : Value) (dg : Addr) (kg : ClassId) (h0 : Heap) (n0 : Nat) (v : Option Value) (h : Heap) (L : List Loc) : Prop := ∃ (ba : Addr) (kb : ClassId), (v = some (.ref ba)) ∧ (Fr n0 L) ∧ (Keep h0 h ([] : List Addr)) ∧ (h0.size ≤ ba) ∧ (Arv Z h ba kb .byte (32 : Int32) (own_bytes ds) (.int (0 : Int32))) ∧ (Exa Z h ba "[B")
set_option maxRecDepth 65536 in
set_option maxHeartbeats 40000000 in
theorem rm_ph1 (l : Launch) (Z : State) (a0 : Array Value) (hw : ∀ d ∈ tables_1, d.before a0 Z = true) (ws : List Jvm.Cond) (hf : Addr) (dl : Addr) (dt : Addr) (kdt : ClassId) (xs : Addr) (t1 : Addr) (k1 : ClassId) (nn : Int32) (vs : List Value) (ds : List Int32) (G : Int32) (fm : Value) (dg : Addr) (kg : ClassId) (h0 : Heap) (n0 : Nat) (Z0 : n0 ≤ h0.size) (q0 : Sta Z Z.heap "java/lang/String" "COMPACT_STRINGS" "Z" (.int G)) (hCS : ¬ (G = (0 : Int32))) (q2 : Sta Z Z.heap "jdk/internal/util/Preconditions" "SIOOBE_FORMATTER" "Ljava/util/function/BiFunction;" fm) (hFM : fm.isRef = true) (q4 : Sta Z Z.heap "java/util/HexFormat" "DIGITS" "[B" (.ref dg)) (q5 : Arv Z Z.heap dg kg .byte (256 : Int32) (own_D.map Value.int) (.int (0 : Int32))) (q6 : Old Z n0 h0) (q7 : Exa Z h0 xs "java/lang/String") (q8 : Fld Z h0 xs "java/lang/String" "value" "[B" (.ref t1)) (q9 : Fld Z h0 xs "java/lang/String" "coder" "B" (.int (0 : Int32))) (q10 : Arv Z h0 t1 k1 .byte nn vs (.int 0)) (hcd1 : StrChars.Road.CodA ds 0 nn vs) (hbd1 : ∀ c ∈ ds, ¬ c < 0 ∧ ¬ (65535 : Int32) < c) (hle1 : ds.length ≤ 4000) (hD : ∀ c ∈ ds, ¬ c < 0 ∧ ¬ (255 : Int32) < c ∧ ¬ own_dig c < 0) (q15 : Exa Z Z.heap hf "java/util/HexFormat") (q16 : Fld Z Z.heap hf "java/util/HexFormat" "delimiter" "Ljava/lang/String;" (.ref dl)) (q17 : Fld Z Z.heap hf "java/util/HexFormat" "prefix" "Ljava/lang/String;" (.ref dl)) (q18 : Fld Z Z.heap hf "java/util/HexFormat" "suffix" "Ljava/lang/String;" (.ref dl)) (q19 : Exa Z Z.heap dl "java/lang/String") (q20 : Fld Z Z.heap dl "java/lang/String" "value" "[B" (.ref dt)) (q21 : Arv Z Z.heap dt kdt .byte (0 : Int32) [] (.int 0)) (hl : ds.length = 64) (hnn : ¬ nn = (0 : Int32)) :
    MetFree l (⟨"java/util/HexFormat", "parseHex", "(Ljava/lang/CharSequence;)[B"⟩ : MethodName) (head1 (Jvm.Cond.code (⟨"java/util/HexFormat", "parseHex", "(Ljava/lang/CharSequence;)[B"⟩ : MethodName) jdk_2580_method_19_code 2 (some (.array .byte)) :: ws) ({ frames := 7, cells := 3, slots := 60, locals := 108 } : Room)) (fun a₁ U₁ => a₁ = #[(.ref hf), (.ref xs)] ∧ Z.Warmed39 U₁.vm ∧ U₁.heap = h0) (fun _ _ _ _ _ => True) (fun _ U₁ o₁ U₂ => ∃ v₁ L₁, o₁ = .returned v₁ ∧ Q_ph1 Z hf dl dt kdt xs t1 k1 nn vs ds G fm dg kg h0 n0 v₁ U₂.heap L₁ ∧ ReturnedEndW U₁ o₁ U₂ L₁ ({ frames := 7, cells := 3, slots := 60, locals := 108 } : Room).cells ({ frames := 7, cells := 3, slots := 60, locals := 108 } : Room).slots) := by
  refine MetFree.of_bodySF (plainFor_of_name pn_1) hisR ?_
  intro p e s m args below meth c s₁ Bd hml0 hP hK
  obtain ⟨rfl, hZ, hh⟩ := hP
  have hx := Bd.exec
  have hby := Bd.bytes
  have hml : c.maxLocals = 2 := hml0
  have hown : s.vm.findClass "java/util/HexFormat" = some m.cls := findClass_of_methodNamed Bd.named
  have hnm := (name_of_methodNamed Bd.named Bd.method).1
  have X0 : Stand p l e ({ frames := 7, cells := 3, slots := 60, locals := 108 } : Room) (s.setVm s.vm) m #[(.ref hf), (.ref xs)] below meth c s₁ [] 0 0 := Stand.of_body Bd
  have e0 : s₁.heap = h0 := by rw [← hh, Bd.state]; rfl
  have N0 := Fr.nil n0
  have hZ0 : Z.Warmed39 (s.setVm s.vm).vm := hZ
  have hown0 : (s.setVm s.vm).vm.findClass "java/util/HexFormat" = some m.cls := hown
  have hS0 : s.Since s.vm h0.size := (State.WarmedH.refl s).since _
  have hk0 : h0.size ≤ h0.size := Nat.le_refl _
  have pre0 : ∀ t, Steps p.tables e below (s₁.setTop (mkF m 0 #[.val (.ref hf), .val (.ref xs)] [])) t → Steps p.tables e below (s₁.setTop (entryFrame m #[(.ref hf), (.ref xs)] 2)) t := fun t k => castTop (ef_5 m hf xs) k
  have hl64 : Int32.ofNat ds.length = (64 : Int32) := by rw [hl]; rfl
  obtain ⟨cq301, kq301, q301a, q301b, q301c⟩ := isOf hZ0 e0 q7
  obtain ⟨_, _, ⟨T301, L301, k301, n301⟩, -, X301, ⟨Lc301, hQ301, l301, y301, z301⟩, st301⟩ := X0.interfaceBack hx (xi := (⟨"java/lang/CharSequence", "length", "()I"⟩ : MethodName)) (y := (⟨"java/lang/String", "length", "()I"⟩ : MethodName)) hown0 (mvT hZ0 (hw _ (List.mem_of_getElem? (i := 63) rfl))) (mvT hZ0 (hw _ (List.mem_of_getElem? (i := 64) rfl))) (mvT hZ0 (hw _ (List.mem_of_getElem? (i := 65) rfl))) (mvT hZ0 (hw _ (List.mem_of_getElem? (i := 66) rfl))) (mvT hZ0 (hw _ (List.mem_of_getElem? (i := 45) rfl))) (mvT hZ0 (hw _ (List.mem_of_getElem? (i := 67) rfl))) (mvT hZ0 (hw _ (List.mem_of_getElem? (i := 68) rfl))) (mvT hZ0 (hw _ (List.mem_of_getElem? (i := 69) rfl))) (by decide) (StrChars.Road.lenW (W := 3) hZ0 (own_hw_lenW hw) (kI := 4) (hw _ (List.mem_of_getElem? (i := 11) rfl)) q7 q8 q9 q10 hcd1 hbd1 (q0.ext q6.2) hCS hle1 (by decide) (by decide)) q301a q301b q301c (g := (mkF m 4 #[.val (.ref hf), .val (.ref xs)] [(.ref xs), (.int (0 : Int32)), (.ref xs), (.ref hf)])) rfl (by rw [hml]; rfl) (Steps.refl _) (argsL := []) (rest := [(.int (0 : Int32)), (.ref xs), (.ref hf)]) (lenOf pd_4 rfl) rfl (by show 2 * 0 + _ ≤ _; exact Nat.le_of_eq rfl) (hb hby d_jdk_2580_method_19_code_4) (fun _ _ => ⟨rfl, e0, (by decide : 0 + 0 ≤ _), (by decide : 0 + 0 ≤ _)⟩)
  dsimp only [Pt.U, Pt.locs, Pt.cells, Pt.slots] at X301 l301 y301 z301 st301 hQ301
  replace l301 := l301.symm
  replace y301 := y301.symm
  replace z301 := z301.symm
  subst l301 y301 z301
  obtain ⟨rfl, rfl, e301⟩ := hQ301
  have N301 := Fr.app N0 (Fr.nil n0)
  obtain ⟨cq302, kq302, q302a, q302b, q302c⟩ := isOf hZ0 e301 (q15.ext q6.2)
  obtain ⟨_, _, ⟨T302, L302, k302, n302⟩, -, X302', hS302', hz302', ⟨Lc302, hQ302, l302, y302, z302⟩, st302⟩ := X301.virtualBackS hx (y := (⟨"java/util/HexFormat", "parseHex", "(Ljava/lang/CharSequence;II)[B"⟩ : MethodName)) (z := (⟨"java/util/HexFormat", "parseHex", "(Ljava/lang/CharSequence;II)[B"⟩ : MethodName)) hown0 (mvT hZ0 (hw _ (List.mem_of_getElem? (i := 70) rfl))) (mvT hZ0 (hw _ (List.mem_of_getElem? (i := 71) rfl))) (notFace_of_selects (args := #[]) (mvT hZ0 (hw _ (List.mem_of_getElem? (i := 73) rfl)))) (mvT hZ0 (hw _ (List.mem_of_getElem? (i := 73) rfl))) (mvT hZ0 (hw _ (List.mem_of_getElem? (i := 72) rfl))) (by decide) (backOfS (W := 0) (rm_ph3 l Z a0 hw [] hf dl dt kdt xs t1 k1 nn vs ds G fm dg kg h0 n0 Z0 q0 hCS q2 hFM q4 q5 q6 q7 q8 q9 q10 hcd1 hbd1 hle1 hD q15 q16 q17 q18 q19 q20 q21 hl hnn) hZ0 (hw _ (List.mem_of_getElem? (i := 74) rfl)) (hw _ (List.mem_of_getElem? (i := 61) rfl)) (by decide) (by decide)) q302a q302c (g := (mkF m 9 #[.val (.ref hf), .val (.ref xs)] [(.int (64 : Int32)), (.int (0 : Int32)), (.ref xs), (.ref hf)])) rfl (by rw [hml]; rfl) (Steps.refl _) (argsL := [(.ref xs), (.int (0 : Int32)), (.int (64 : Int32))]) (rest := []) (lenOf pd_10 rfl) rfl (by show 2 * 0 + _ ≤ _; exact Nat.le_of_eq rfl) (hb hby d_jdk_2580_method_19_code_9) (fun _ _ => ⟨rfl, e301, (by decide : 0 + 3 ≤ _), (by decide : 0 + 60 ≤ _)⟩)
  dsimp only [Pt.U, Pt.locs, Pt.cells, Pt.slots] at X302' l302 y302 z302 st302 hQ302 hS302' hz302'
  replace l302 := l302.symm
  replace y302 := y302.symm
  replace z302 := z302.symm
  subst l302 y302 z302
  obtain ⟨ba_302, kb_302, rfl, Nq302, K302, f302_0, f302_1, f302_2⟩ := hQ302
  have N302 := Fr.app N301 Nq302
  obtain ⟨X302, hS302, hZ302, hown302⟩ := rebS hS0 (by rw [e301]; exact hk0) X302' hS302' hz302' hZ0 hown0
  obtain ⟨fs, hr, hrun, hended, hEnd⟩ := X302.leaveW hS302 (Nat.le_refl _) (v := some (.ref ba_302)) (fun h => by rw [Bd.returns] at h; cases h)
  refine ⟨_, _, pre0 _ ?_, hrun, hended, _, _, rfl, ?_, hEnd.1, hEnd.2.1, hEnd.2.2.1, hEnd.2.2.2.mono (by decide) (by decide)⟩
  · refine XS.aloadN X0.here hx rfl (hb hby d_jdk_2580_method_19_code_0) rfl rfl ?_
    show Steps p.tables e below (s₁.setTop (mkF m 1 #[.val (.ref hf), .val (.ref xs)] [(.ref hf)])) _
    refine XS.aloadN X0.here hx rfl (hb hby d_jdk_2580_method_19_code_1) rfl rfl ?_
    show Steps p.tables e below (s₁.setTop (mkF m 2 #[.val (.ref hf), .val (.ref xs)] [(.ref xs), (.ref hf)])) _
    refine XS.iconst X0.here hx rfl (hb hby d_jdk_2580_method_19_code_2) ?_
    show Steps p.tables e below (s₁.setTop (mkF m 3 #[.val (.ref hf), .val (.ref xs)] [(.int (0 : Int32)), (.ref xs), (.ref hf)])) _
    refine XS.aloadN X0.here hx rfl (hb hby d_jdk_2580_method_19_code_3) rfl rfl ?_
    show Steps p.tables e below (s₁.setTop (mkF m 4 #[.val (.ref hf), .val (.ref xs)] [(.ref xs), (.int (0 : Int32)), (.ref xs), (.ref hf)])) _
    refine st301.trans ?_
    show Steps p.tables e below (T301.setTop (mkF m 9 #[.val (.ref hf), .val (.ref xs)] [(.int (Int32.ofNat (ds).length)), (.int (0 : Int32)), (.ref xs), (.ref hf)])) _
    rw [hl64]
    show Steps p.tables e below (T301.setTop (mkF m 9 #[.val (.ref hf), .val (.ref xs)] [(.int (64 : Int32)), (.int (0 : Int32)), (.ref xs), (.ref hf)])) _
    refine st302.trans ?_
    show Steps p.tables e below (T302.setTop (mkF m 12 #[.val (.ref hf), .val (.ref xs)] [(.ref ba_302)])) _
    jvm_step X302.here [X302.here.top, hx, (hb hby d_jdk_2580_method_19_code_12), X302.method', Bd.returns, Value.isRef, FieldType.isReference]
    first | (intro acts; rw [hr _ acts rfl rfl rfl]) | rw [hr _ _ rfl rfl rfl]
    exact Steps.refl _
  · show Q_ph1 Z hf dl dt kdt xs t1 k1 nn vs ds G fm dg kg h0 n0 _ T302.heap _
    exact ⟨ba_302, kb_302, rfl, N302, ((Keep.refl h0 ([] : List Addr)).trans K302 all0), (Nat.le_trans (Nat.le_refl _) f302_0), f302_1, f302_2⟩
theorem d_prog_2_method_1_code_0 : decode prog_2_method_1_code 0 = .ok (.aload_n 0, 1) := by decide +kernel
theorem d_prog_2_method_1_code_1 : decode prog_2_method_1_code 1 = .ok (.invokespecial 1, 3) := by decide +kernel
theorem d_prog_2_method_1_code_4 : decode prog_2_method_1_code 4 = .ok (.aload_n 0, 1) := by decide +kernel
theorem d_prog_2_method_1_code_5 : decode prog_2_method_1_code 5 = .ok (.aload_n 1, 1) := by decide +kernel
theorem d_prog_2_method_1_code_6 : decode prog_2_method_1_code 6 = .ok (.putfield 7, 3) := by decide +kernel
theorem d_prog_2_method_1_code_9 : decode prog_2_method_1_code 9 = .ok (.return_, 1) := by decide +kernel
theorem pn_5 : plainName "com/example/lungfish/lungfish/message/MessageHash" = true := by first | (simp [plainName, overriddenIn]; done) | decide +kernel
def Q_mhI (Z : State) (xm : Addr) (ba : Addr) (h0 : Heap) (n0 : Nat) (v : Option Value) (h : Heap) (L : List Loc) : Prop := (v = none) ∧ (Fr n0 L) ∧ (Keep h0 h ([xm] : List Addr)) ∧ (Fld Z h xm "com/example/lungfish/lungfish/message/MessageHash" "bytes" "[B" (.ref ba))
set_option maxRecDepth 65536 in
set_option maxHeartbeats 40000000 in
theorem rm_mhI (l : Launch) (Z : State) (a0 : Array Value) (hw : ∀ d ∈ tables_1, d.before a0 Z = true) (ws : List Jvm.Cond) (xm : Addr) (ba : Addr) (h0 : Heap) (n0 : Nat) (Z0 : n0 ≤ h0.size) (q0 : Exa Z h0 xm "com/example/lungfish/lungfish/message/MessageHash") (q1 : Fld Z h0 xm "com/example/lungfish/lungfish/message/MessageHash" "bytes" "[B" .null) (q2 : n0 ≤ xm) :
    MetFree l (⟨"com/example/lungfish/lungfish/message/MessageHash", "<init>", "([B)V"⟩ : MethodName) (head1 (Jvm.Cond.code (⟨"com/example/lungfish/lungfish/message/MessageHash", "<init>", "([B)V"⟩ : MethodName) prog_2_method_1_code 2 none :: ws) ({ frames := 1, cells := 0, slots := 0, locals := 12 } : Room)) (fun a₁ U₁ => a₁ = #[(.ref xm), (.ref ba)] ∧ Z.Warmed39 U₁.vm ∧ U₁.heap = h0) (fun _ _ _ _ _ => True) (fun _ U₁ o₁ U₂ => ∃ v₁ L₁, o₁ = .returned v₁ ∧ Q_mhI Z xm ba h0 n0 v₁ U₂.heap L₁ ∧ FrameEnd U₁ o₁ U₂ L₁ ({ frames := 1, cells := 0, slots := 0, locals := 12 } : Room).cells ({ frames := 1, cells := 0, slots := 0, locals := 12 } : Room).slots) := by
  refine MetFree.of_bodySF (plainFor_of_name pn_5) hisR ?_
  intro p e s m args below meth c s₁ Bd hml0 hP hK
  obtain ⟨rfl, hZ, hh⟩ := hP
  have hx := Bd.exec
  have hby := Bd.bytes
  have hml : c.maxLocals = 2 := hml0
  have hown : s.vm.findClass "com/example/lungfish/lungfish/message/MessageHash" = some m.cls := findClass_of_methodNamed Bd.named
  have hnm := (name_of_methodNamed Bd.named Bd.method).1
  have X0 : Stand p l e ({ frames := 1, cells := 0, slots := 0, locals := 12 } : Room) s m #[(.ref xm), (.ref ba)] below meth c s₁ [] 0 0 := Stand.of_body Bd
  have e0 : s₁.heap = h0 := by rw [← hh, Bd.state]; rfl
  have N0 := Fr.nil n0
  have pre0 : ∀ t, Steps p.tables e below (s₁.setTop (mkF m 0 #[.val (.ref xm), .val (.ref ba)] [])) t → Steps p.tables e below (s₁.setTop (entryFrame m #[(.ref xm), (.ref ba)] 2)) t := fun t k => castTop (ef_5 m xm ba) k
  obtain ⟨T301, X301, e301, st301⟩ := initO X0 hx hZ hown (hw _ (List.mem_of_getElem? (i := 143) rfl)) (hw _ (List.mem_of_getElem? (i := 21) rfl)) (hw _ (List.mem_of_getElem? (i := 22) rfl)) e0 (g := (mkF m 1 #[.val (.ref xm), .val (.ref ba)] [(.ref xm)])) rfl (by rw [hml]; rfl) rfl (hb hby d_prog_2_method_1_code_1) (by decide) (W := 0) (by show 2 * 0 + _ ≤ _; exact Nat.le_of_eq rfl) (by decide)
  obtain ⟨T302, h302, X302, e302, W302, st302⟩ := putF X301 hx hZ hown (host := "") (Or.inl (hw _ (List.mem_of_getElem? (i := 144) rfl))) Via.refl e301 q1 q0 (Or.inr ⟨(hw _ (List.mem_of_getElem? (i := 145) rfl)), rfl, hnm⟩) (hw _ (List.mem_of_getElem? (i := 54) rfl)) (ty := (.array .byte)) (by decide) rfl rfl (g := (mkF m 6 #[.val (.ref xm), .val (.ref ba)] [(.ref ba), (.ref xm)])) rfl rfl (hb hby d_prog_2_method_1_code_6)
  have N302 := Fr.snoc X302 N0 q2
  have F302 : Fld Z h302 xm "com/example/lungfish/lungfish/message/MessageHash" "bytes" "[B" (.ref ba) := q1.same W302
  obtain ⟨fs, hr, hrun, hended, hW, hsame⟩ := X302.leave (v := none) (fun _ => rfl)
  refine ⟨_, _, pre0 _ ?_, hrun, hended, _, _, rfl, ?_, ⟨_, rfl⟩, hW, hsame.mono (by decide) (by decide)⟩
  · refine XS.aloadN X0.here hx rfl (hb hby d_prog_2_method_1_code_0) rfl rfl ?_
    show Steps p.tables e below (s₁.setTop (mkF m 1 #[.val (.ref xm), .val (.ref ba)] [(.ref xm)])) _
    refine st301 _ ?_
    show Steps p.tables e below (T301.setTop (mkF m 4 #[.val (.ref xm), .val (.ref ba)] [])) _
    refine XS.aloadN X301.here hx rfl (hb hby d_prog_2_method_1_code_4) rfl rfl ?_
    show Steps p.tables e below (T301.setTop (mkF m 5 #[.val (.ref xm), .val (.ref ba)] [(.ref xm)])) _
    refine XS.aloadN X301.here hx rfl (hb hby d_prog_2_method_1_code_5) rfl rfl ?_
    show Steps p.tables e below (T301.setTop (mkF m 6 #[.val (.ref xm), .val (.ref ba)] [(.ref ba), (.ref xm)])) _
    refine st302 _ ?_
    show Steps p.tables e below (T302.setTop (mkF m 9 #[.val (.ref xm), .val (.ref ba)] [])) _
    exact X302.returnOut hx Bd.returns (hb hby d_prog_2_method_1_code_9) hr
  · show Q_mhI Z xm ba h0 n0 _ T302.heap _
    rw [e302]
    exact ⟨rfl, N302, ((Keep.refl h0 ([xm] : List Addr)).wr W302 (Or.inl (by simp))), F302⟩
theorem d_prog_2_method_4_code_0 : decode prog_2_method_4_code 0 = .ok (.aload_n 0, 1) := by decide +kernel
theorem d_prog_2_method_4_code_1 : decode prog_2_method_4_code 1 = .ok (.invokevirtual 96, 3) := by decide +kernel
theorem d_prog_2_method_4_code_4 : decode prog_2_method_4_code 4 = .ok (.bipush 64, 2) := by decide +kernel
theorem d_prog_2_method_4_code_6 : decode prog_2_method_4_code 6 = .ok (.if_icmp .eq 13, 3) := by decide +kernel
theorem d_prog_2_method_4_code_19 : decode prog_2_method_4_code 19 = .ok (.new 8, 3) := by decide +kernel
theorem d_prog_2_method_4_code_22 : decode prog_2_method_4_code 22 = .ok (.dup, 1) := by decide +kernel
theorem d_prog_2_method_4_code_23 : decode prog_2_method_4_code 23 = .ok (.getstatic 102, 3) := by decide +kernel
theorem d_prog_2_method_4_code_26 : decode prog_2_method_4_code 26 = .ok (.aload_n 0, 1) := by decide +kernel
theorem d_prog_2_method_4_code_27 : decode prog_2_method_4_code 27 = .ok (.invokevirtual 106, 3) := by decide +kernel
theorem d_prog_2_method_4_code_30 : decode prog_2_method_4_code 30 = .ok (.invokespecial 80, 3) := by decide +kernel
theorem pd_11 : parseMethodDescriptor "([B)V" = some ⟨[(.array .byte)], none⟩ := by decide +kernel
theorem d_prog_2_method_4_code_33 : decode prog_2_method_4_code 33 = .ok (.areturn, 1) := by decide +kernel
def Q_mhp (Z : State) (hf : Addr) (dl : Addr) (dt : Addr) (kdt : ClassId) (xs : Addr) (t1 : Addr) (k1 : ClassId) (nn : Int32) (vs : List Value) (ds : List Int32) (G : Int32) (fm : Value) (dg : Addr) (kg : ClassId) (h0 : Heap) (n0 : Nat) (v : Option Value) (h : Heap) (L : List Loc) : Prop := ∃ (xm : Addr) (ba : Addr) (kb : ClassId), (v = some (.ref xm)) ∧ (Fr n0 L) ∧ (Keep h0 h ([] : List Addr)) ∧ (h0.size ≤ xm) ∧ (Exa Z h xm "com/example/lungfish/lungfish/message/MessageHash") ∧ (Fld Z h xm "com/example/lungfish/lungfish/message/MessageHash" "bytes" "[B" (.ref ba)) ∧ (h0.size ≤ ba) ∧ (Arv Z h ba kb .byte (32 : Int32) (own_bytes ds) (.int (0 : Int32))) ∧ (Exa Z h ba "[B")
set_option maxRecDepth 65536 in
set_option maxHeartbeats 40000000 in
theorem rm_mhp (l : Launch) (Z : State) (a0 : Array Value) (hw : ∀ d ∈ tables_1, d.before a0 Z = true) (ws : List Jvm.Cond) (hf : Addr) (dl : Addr) (dt : Addr) (kdt : ClassId) (xs : Addr) (t1 : Addr) (k1 : ClassId) (nn : Int32) (vs : List Value) (ds : List Int32) (G : Int32) (fm : Value) (dg : Addr) (kg : ClassId) (h0 : Heap) (n0 : Nat) (Z0 : n0 ≤ h0.size) (q0 : Sta Z Z.heap "com/example/lungfish/lungfish/message/MessageHash" "HEX" "Ljava/util/HexFormat;" (.ref hf)) (q1 : Sta Z Z.heap "java/lang/String" "COMPACT_STRINGS" "Z" (.int G)) (hCS : ¬ (G = (0 : Int32))) (q3 : Sta Z Z.heap "jdk/internal/util/Preconditions" "SIOOBE_FORMATTER" "Ljava/util/function/BiFunction;" fm) (hFM : fm.isRef = true) (q5 : Sta Z Z.heap "java/util/HexFormat" "DIGITS" "[B" (.ref dg)) (q6 : Arv Z Z.heap dg kg .byte (256 : Int32) (own_D.map Value.int) (.int (0 : Int32))) (q7 : Old Z n0 h0) (q8 : Exa Z h0 xs "java/lang/String") (q9 : Fld Z h0 xs "java/lang/String" "value" "[B" (.ref t1)) (q10 : Fld Z h0 xs "java/lang/String" "coder" "B" (.int (0 : Int32))) (q11 : Arv Z h0 t1 k1 .byte nn vs (.int 0)) (hcd1 : StrChars.Road.CodA ds 0 nn vs) (hbd1 : ∀ c ∈ ds, ¬ c < 0 ∧ ¬ (65535 : Int32) < c) (hle1 : ds.length ≤ 4000) (hD : ∀ c ∈ ds, ¬ c < 0 ∧ ¬ (255 : Int32) < c ∧ ¬ own_dig c < 0) (q16 : Exa Z Z.heap hf "java/util/HexFormat") (q17 : Fld Z Z.heap hf "java/util/HexFormat" "delimiter" "Ljava/lang/String;" (.ref dl)) (q18 : Fld Z Z.heap hf "java/util/HexFormat" "prefix" "Ljava/lang/String;" (.ref dl)) (q19 : Fld Z Z.heap hf "java/util/HexFormat" "suffix" "Ljava/lang/String;" (.ref dl)) (q20 : Exa Z Z.heap dl "java/lang/String") (q21 : Fld Z Z.heap dl "java/lang/String" "value" "[B" (.ref dt)) (q22 : Arv Z Z.heap dt kdt .byte (0 : Int32) [] (.int 0)) (hl : ds.length = 64) (hnn : ¬ nn = (0 : Int32)) :
    MetFree l (⟨"com/example/lungfish/lungfish/message/MessageHash", "parse", "(Ljava/lang/String;)Lcom/example/lungfish/lungfish/message/MessageHash;"⟩ : MethodName) (head1 (Jvm.Cond.code (⟨"com/example/lungfish/lungfish/message/MessageHash", "parse", "(Ljava/lang/String;)Lcom/example/lungfish/lungfish/message/MessageHash;"⟩ : MethodName) prog_2_method_4_code 1 (some (.object "com/example/lungfish/lungfish/message/MessageHash")) :: ws) ({ frames := 8, cells := 4, slots := 61, locals := 123 } : Room)) (fun a₁ U₁ => a₁ = #[(.ref xs)] ∧ Z.Warmed39 U₁.vm ∧ U₁.heap = h0) (fun _ _ _ _ _ => True) (fun _ U₁ o₁ U₂ => ∃ v₁ L₁, o₁ = .returned v₁ ∧ Q_mhp Z hf dl dt kdt xs t1 k1 nn vs ds G fm dg kg h0 n0 v₁ U₂.heap L₁ ∧ ReturnedEndW U₁ o₁ U₂ L₁ ({ frames := 8, cells := 4, slots := 61, locals := 123 } : Room).cells ({ frames := 8, cells := 4, slots := 61, locals := 123 } : Room).slots) := by
  refine MetFree.of_bodySF (plainFor_of_name pn_5) hisR ?_
  intro p e s m args below meth c s₁ Bd hml0 hP hK
  obtain ⟨rfl, hZ, hh⟩ := hP
  have hx := Bd.exec
  have hby := Bd.bytes
  have hml : c.maxLocals = 1 := hml0
  have hown : s.vm.findClass "com/example/lungfish/lungfish/message/MessageHash" = some m.cls := findClass_of_methodNamed Bd.named
  have hnm := (name_of_methodNamed Bd.named Bd.method).1
  have X0 : Stand p l e ({ frames := 8, cells := 4, slots := 61, locals := 123 } : Room) (s.setVm s.vm) m #[(.ref xs)] below meth c s₁ [] 0 0 := Stand.of_body Bd
  have e0 : s₁.heap = h0 := by rw [← hh, Bd.state]; rfl
  have N0 := Fr.nil n0
  have hZ0 : Z.Warmed39 (s.setVm s.vm).vm := hZ
  have hown0 : (s.setVm s.vm).vm.findClass "com/example/lungfish/lungfish/message/MessageHash" = some m.cls := hown
  have hS0 : s.Since s.vm h0.size := (State.WarmedH.refl s).since _
  have hk0 : h0.size ≤ h0.size := Nat.le_refl _
  have pre0 : ∀ t, Steps p.tables e below (s₁.setTop (mkF m 0 #[.val (.ref xs)] [])) t → Steps p.tables e below (s₁.setTop (entryFrame m #[(.ref xs)] 1)) t := fun t k => castTop (ef_8 m xs) k
  have hl64 : Int32.ofNat ds.length = (64 : Int32) := by rw [hl]; rfl
  obtain ⟨cq301, kq301, q301a, q301b, q301c⟩ := isOf hZ0 e0 q8
  obtain ⟨_, _, ⟨T301, L301, k301, n301⟩, -, X301, ⟨Lc301, hQ301, l301, y301, z301⟩, st301⟩ := X0.virtualBack hx (y := (⟨"java/lang/String", "length", "()I"⟩ : MethodName)) (z := (⟨"java/lang/String", "length", "()I"⟩ : MethodName)) hown0 (mvT hZ0 (hw _ (List.mem_of_getElem? (i := 43) rfl))) (mvT hZ0 (hw _ (List.mem_of_getElem? (i := 44) rfl))) (notFace_of_selects (args := #[]) (mvT hZ0 (hw _ (List.mem_of_getElem? (i := 46) rfl)))) (mvT hZ0 (hw _ (List.mem_of_getElem? (i := 46) rfl))) (mvT hZ0 (hw _ (List.mem_of_getElem? (i := 45) rfl))) (by decide) (StrChars.Road.lenW (W := 0) hZ0 (own_hw_lenW hw) (kI := 4) (hw _ (List.mem_of_getElem? (i := 11) rfl)) q8 q9 q10 q11 hcd1 hbd1 (q1.ext q7.2) hCS hle1 (by decide) (by decide)) q301a q301c (g := (mkF m 1 #[.val (.ref xs)] [(.ref xs)])) rfl (by rw [hml]; rfl) (Steps.refl _) (argsL := []) (rest := []) (lenOf pd_4 rfl) rfl (by show 2 * 0 + _ ≤ _; exact Nat.le_of_eq rfl) (hb hby d_prog_2_method_4_code_1) (fun _ _ => ⟨rfl, e0, (by decide : 0 + 0 ≤ _), (by decide : 0 + 0 ≤ _)⟩)
  dsimp only [Pt.U, Pt.locs, Pt.cells, Pt.slots] at X301 l301 y301 z301 st301 hQ301
  replace l301 := l301.symm
  replace y301 := y301.symm
  replace z301 := z301.symm
  subst l301 y301 z301
  obtain ⟨rfl, rfl, e301⟩ := hQ301
  have N301 := Fr.app N0 (Fr.nil n0)
  obtain ⟨T302, h302, X302, e302, E302, A302, D302, -, st302⟩ := newO X301 hx hZ0 hown0 (hw _ (List.mem_of_getElem? (i := 53) rfl)) (hw _ (List.mem_of_getElem? (i := 54) rfl)) (hw _ (List.mem_of_getElem? (i := 41) rfl)) e301 (g := (mkF m 19 #[.val (.ref xs)] [])) rfl (hb hby d_prog_2_method_4_code_19) (by decide) (by decide)
  obtain ⟨b302, g302⟩ : ∃ z, z = h0.size := ⟨_, rfl⟩
  rw [← g302] at A302 D302 st302
  have D302_bytes : Fld Z h302 b302 "com/example/lungfish/lungfish/message/MessageHash" "bytes" "[B" .null := D302 (Or.inr (hw _ (List.mem_of_getElem? (i := 145) rfl))) (ty := (.array .byte)) (by decide)
  have c304 : Old Z n0 h302 := (q7.ext E302)
  obtain ⟨T303, X303, e303, st303⟩ := getS2 X302 hx hZ0 hown0 (host := "") (Or.inl (hw _ (List.mem_of_getElem? (i := 55) rfl))) Via.refl e302 (q0.ext c304.2) (g := (mkF m 23 #[.val (.ref xs)] [(.ref b302), (.ref b302)])) rfl (hb hby d_prog_2_method_4_code_23)
  have c305 : Exa Z h302 xs "java/lang/String" := (q8.ext E302)
  have c306 : Fld Z h302 xs "java/lang/String" "value" "[B" (.ref t1) := (q9.ext E302)
  have c307 : Fld Z h302 xs "java/lang/String" "coder" "B" (.int (0 : Int32)) := (q10.ext E302)
  have c308 : Arv Z h302 t1 k1 .byte nn vs (.int 0) := (q11.ext E302)
  obtain ⟨cq309, kq309, q309a, q309b, q309c⟩ := isOf hZ0 e303 (q16.ext c304.2)
  obtain ⟨_, _, ⟨T309, L309, k309, n309⟩, -, X309', hS309', hz309', ⟨Lc309, hQ309, l309, y309, z309⟩, st309⟩ := X303.virtualBackS hx (y := (⟨"java/util/HexFormat", "parseHex", "(Ljava/lang/CharSequence;)[B"⟩ : MethodName)) (z := (⟨"java/util/HexFormat", "parseHex", "(Ljava/lang/CharSequence;)[B"⟩ : MethodName)) hown0 (mvT hZ0 (hw _ (List.mem_of_getElem? (i := 57) rfl))) (mvT hZ0 (hw _ (List.mem_of_getElem? (i := 58) rfl))) (notFace_of_selects (args := #[]) (mvT hZ0 (hw _ (List.mem_of_getElem? (i := 60) rfl)))) (mvT hZ0 (hw _ (List.mem_of_getElem? (i := 60) rfl))) (mvT hZ0 (hw _ (List.mem_of_getElem? (i := 59) rfl))) (by decide) (backOfS (W := 2) (rm_ph1 l Z a0 hw [] hf dl dt kdt xs t1 k1 nn vs ds G fm dg kg h302 n0 (Nat.le_trans Z0 E302.1) q1 hCS q3 hFM q5 q6 c304 c305 c306 c307 c308 hcd1 hbd1 hle1 hD q16 q17 q18 q19 q20 q21 q22 hl hnn) hZ0 (hw _ (List.mem_of_getElem? (i := 62) rfl)) (hw _ (List.mem_of_getElem? (i := 61) rfl)) (by decide) (by decide)) q309a q309c (g := (mkF m 27 #[.val (.ref xs)] [(.ref xs), (.ref hf), (.ref b302), (.ref b302)])) rfl (by rw [hml]; rfl) (Steps.refl _) (argsL := [(.ref xs)]) (rest := [(.ref b302), (.ref b302)]) (lenOf pd_9 rfl) rfl (by show 2 * 0 + _ ≤ _; exact Nat.le_of_eq rfl) (hb hby d_prog_2_method_4_code_27) (fun _ _ => ⟨rfl, e303, (by decide : 1 + 3 ≤ _), (by decide : 1 + 60 ≤ _)⟩)
  dsimp only [Pt.U, Pt.locs, Pt.cells, Pt.slots] at X309' l309 y309 z309 st309 hQ309 hS309' hz309'
  replace l309 := l309.symm
  replace y309 := y309.symm
  replace z309 := z309.symm
  subst l309 y309 z309
  obtain ⟨ba_309, kb_309, rfl, Nq309, K309, f309_0, f309_1, f309_2⟩ := hQ309
  have N309 := Fr.app N301 Nq309
  obtain ⟨X309, hS309, hZ309, hown309⟩ := rebS hS0 (by rw [e303]; exact (Nat.le_trans hk0 E302.1)) X309' hS309' hz309' hZ0 hown0
  have c310 : Exa Z T309.heap b302 "com/example/lungfish/lungfish/message/MessageHash" := (A302.keep K309)
  have c311 : Fld Z T309.heap b302 "com/example/lungfish/lungfish/message/MessageHash" "bytes" "[B" .null := (D302_bytes.keep K309 nin0)
  have ge312 : n0 ≤ b302 := Nat.le_trans Z0 (Nat.le_trans (Nat.le_refl _) (Nat.le_of_eq g302.symm))
  obtain ⟨_, _, ⟨T313, L313, k313, n313⟩, -, X313, ⟨Lc313, hQ313, l313, y313, z313⟩, st313⟩ := X309.specialBack hx (y := (⟨"com/example/lungfish/lungfish/message/MessageHash", "<init>", "([B)V"⟩ : MethodName)) rfl hown309 (mvT hZ309 (hw _ (List.mem_of_getElem? (i := 140) rfl))) (mvT hZ309 (hw _ (List.mem_of_getElem? (i := 141) rfl))) (mvT hZ309 (hw _ (List.mem_of_getElem? (i := 142) rfl))) (by decide) (backOf (W := 1) (rm_mhI l Z a0 hw [] b302 ba_309 T309.heap n0 (Nat.le_trans Z0 (Nat.le_trans E302.1 K309.1)) c310 c311 ge312) hZ309 (hw _ (List.mem_of_getElem? (i := 142) rfl)) (hw _ (List.mem_of_getElem? (i := 41) rfl)) (by decide) (by decide)) (g := (mkF m 30 #[.val (.ref xs)] [(.ref ba_309), (.ref b302), (.ref b302)])) rfl (by rw [hml]; rfl) (Steps.refl _) (a := b302) (argsL := [(.ref ba_309)]) (rest := [(.ref b302)]) (lenOf pd_11 rfl) rfl (by show 2 * 0 + _ ≤ _; exact Nat.le_of_eq rfl) (hb hby d_prog_2_method_4_code_30) (fun _ _ => ⟨rfl, rfl, (by decide : 4 + 0 ≤ _), (by decide : 61 + 0 ≤ _)⟩)
  dsimp only [Pt.U, Pt.locs, Pt.cells, Pt.slots] at X313 l313 y313 z313 st313 hQ313
  replace l313 := l313.symm
  replace y313 := y313.symm
  replace z313 := z313.symm
  subst l313 y313 z313
  obtain ⟨rfl, Nq313, K313, f313_0⟩ := hQ313
  have N313 := Fr.app N309 Nq313
  have ne314 : b302 ≠ ba_309 := Nat.ne_of_lt (Nat.lt_of_lt_of_le A302.lt f309_0)
  have c315 : Arv Z T313.heap ba_309 kb_309 .byte (32 : Int32) (own_bytes ds) (.int (0 : Int32)) := (f309_1.keep K313 (ninS (Ne.symm ne314) nin0))
  have c316 : Exa Z T313.heap b302 "com/example/lungfish/lungfish/message/MessageHash" := (c310.keep K313)
  have c317 : Exa Z T313.heap ba_309 "[B" := (f309_2.keep K313)
  obtain ⟨fs, hr, hrun, hended, hEnd⟩ := X313.leaveW hS309 (Nat.le_trans (Nat.le_refl _) K313.1) (v := some (.ref b302)) (fun h => by rw [Bd.returns] at h; cases h)
  refine ⟨_, _, pre0 _ ?_, hrun, hended, _, _, rfl, ?_, hEnd.1, hEnd.2.1, hEnd.2.2.1, hEnd.2.2.2.mono (by decide) (by decide)⟩
  · refine XS.aloadN X0.here hx rfl (hb hby d_prog_2_method_4_code_0) rfl rfl ?_
    show Steps p.tables e below (s₁.setTop (mkF m 1 #[.val (.ref xs)] [(.ref xs)])) _
    refine st301.trans ?_
    show Steps p.tables e below (T301.setTop (mkF m 4 #[.val (.ref xs)] [(.int (Int32.ofNat (ds).length))])) _
    rw [hl64]
    show Steps p.tables e below (T301.setTop (mkF m 4 #[.val (.ref xs)] [(.int (64 : Int32))])) _
    refine XS.bipush X301.here hx rfl (hb hby d_prog_2_method_4_code_4) ?_
    show Steps p.tables e below (T301.setTop (mkF m 6 #[.val (.ref xs)] [(.int (64 : Int32)), (.int (64 : Int32))])) _
    refine XS.icmpYes X301.here hx rfl (pc0 := 6) (pc' := 19) rfl (hb hby d_prog_2_method_4_code_6) rfl (teq ((by decide) : (64 : Int32) = (64 : Int32))).1 (by decide) (by decide) ?_
    show Steps p.tables e below (T301.setTop (mkF m 19 #[.val (.ref xs)] [])) _
    refine st302 _ ?_
    show Steps p.tables e below (T302.setTop (mkF m 22 #[.val (.ref xs)] [(.ref b302)])) _
    refine XS.dup X302.here hx rfl (hb hby d_prog_2_method_4_code_22) rfl rfl ?_
    show Steps p.tables e below (T302.setTop (mkF m 23 #[.val (.ref xs)] [(.ref b302), (.ref b302)])) _
    refine st303 _ ?_
    show Steps p.tables e below (T303.setTop (mkF m 26 #[.val (.ref xs)] [(.ref hf), (.ref b302), (.ref b302)])) _
    refine XS.aloadN X303.here hx rfl (hb hby d_prog_2_method_4_code_26) rfl rfl ?_
    show Steps p.tables e below (T303.setTop (mkF m 27 #[.val (.ref xs)] [(.ref xs), (.ref hf), (.ref b302), (.ref b302)])) _
    refine st309.trans ?_
    show Steps p.tables e below (T309.setTop (mkF m 30 #[.val (.ref xs)] [(.ref ba_309), (.ref b302), (.ref b302)])) _
    refine st313.trans ?_
    show Steps p.tables e below (T313.setTop (mkF m 33 #[.val (.ref xs)] [(.ref b302)])) _
    jvm_step X313.here [X313.here.top, hx, (hb hby d_prog_2_method_4_code_33), X313.method', Bd.returns, Value.isRef, FieldType.isReference]
    first | (intro acts; rw [hr _ acts rfl rfl rfl]) | rw [hr _ _ rfl rfl rfl]
    exact Steps.refl _
  · show Q_mhp Z hf dl dt kdt xs t1 k1 nn vs ds G fm dg kg h0 n0 _ T313.heap _
    exact ⟨b302, ba_309, kb_309, rfl, N313, ((((Keep.refl h0 ([] : List Addr)).ext E302).trans K309 all0).trans K313 (allS (Or.inr (Nat.le_trans (Nat.le_refl _) (Nat.le_of_eq g302.symm))) all0)), (Nat.le_trans (Nat.le_refl _) (Nat.le_of_eq g302.symm)), c316, f313_0, (Nat.le_trans E302.1 f309_0), c315, c317⟩
theorem d_prog_2_method_5_code_0 : decode prog_2_method_5_code 0 = .ok (.aload_n 0, 1) := by decide +kernel
theorem d_prog_2_method_5_code_1 : decode prog_2_method_5_code 1 = .ok (.getfield 7, 3) := by decide +kernel
theorem d_prog_2_method_5_code_4 : decode prog_2_method_5_code 4 = .ok (.invokevirtual 91, 3) := by decide +kernel
theorem d_prog_2_method_5_code_7 : decode prog_2_method_5_code 7 = .ok (.checkcast 92, 3) := by decide +kernel
theorem d_prog_2_method_5_code_10 : decode prog_2_method_5_code 10 = .ok (.areturn, 1) := by decide +kernel
def Q_tba (Z : State) (xm : Addr) (xb : Addr) (kb : ClassId) (vs : List Value) (h0 : Heap) (n0 : Nat) (v : Option Value) (h : Heap) (L : List Loc) : Prop := ∃ (ba : Addr), (v = some (.ref ba)) ∧ (Fr n0 L) ∧ (Keep h0 h ([] : List Addr)) ∧ (h0.size ≤ ba) ∧ (Arv Z h ba kb .byte (32 : Int32) vs (.int (0 : Int32)))
set_option maxRecDepth 65536 in
set_option maxHeartbeats 40000000 in
theorem rm_tba (l : Launch) (Z : State) (a0 : Array Value) (hw : ∀ d ∈ tables_1, d.before a0 Z = true) (ws : List Jvm.Cond) (xm : Addr) (xb : Addr) (kb : ClassId) (vs : List Value) (h0 : Heap) (n0 : Nat) (Z0 : n0 ≤ h0.size) (q0 : Fld Z h0 xm "com/example/lungfish/lungfish/message/MessageHash" "bytes" "[B" (.ref xb)) (q1 : Arv Z h0 xb kb .byte (32 : Int32) vs (.int (0 : Int32))) (q2 : Exa Z h0 xb "[B") :
    MetFree l (⟨"com/example/lungfish/lungfish/message/MessageHash", "toByteArray", "()[B"⟩ : MethodName) (head1 (Jvm.Cond.code (⟨"com/example/lungfish/lungfish/message/MessageHash", "toByteArray", "()[B"⟩ : MethodName) prog_2_method_5_code 1 (some (.array .byte)) :: ws) ({ frames := 1, cells := 1, slots := 32, locals := 14 } : Room)) (fun a₁ U₁ => a₁ = #[(.ref xm)] ∧ Z.Warmed39 U₁.vm ∧ U₁.heap = h0) (fun _ _ _ _ _ => True) (fun _ U₁ o₁ U₂ => ∃ v₁ L₁, o₁ = .returned v₁ ∧ Q_tba Z xm xb kb vs h0 n0 v₁ U₂.heap L₁ ∧ FrameEnd U₁ o₁ U₂ L₁ ({ frames := 1, cells := 1, slots := 32, locals := 14 } : Room).cells ({ frames := 1, cells := 1, slots := 32, locals := 14 } : Room).slots) := by
  refine MetFree.of_bodySF (plainFor_of_name pn_5) hisR ?_
  intro p e s m args below meth c s₁ Bd hml0 hP hK
  obtain ⟨rfl, hZ, hh⟩ := hP
  have hx := Bd.exec
  have hby := Bd.bytes
  have hml : c.maxLocals = 1 := hml0
  have hown : s.vm.findClass "com/example/lungfish/lungfish/message/MessageHash" = some m.cls := findClass_of_methodNamed Bd.named
  have hnm := (name_of_methodNamed Bd.named Bd.method).1
  have X0 : Stand p l e ({ frames := 1, cells := 1, slots := 32, locals := 14 } : Room) s m #[(.ref xm)] below meth c s₁ [] 0 0 := Stand.of_body Bd
  have e0 : s₁.heap = h0 := by rw [← hh, Bd.state]; rfl
  have N0 := Fr.nil n0
  have pre0 : ∀ t, Steps p.tables e below (s₁.setTop (mkF m 0 #[.val (.ref xm)] [])) t → Steps p.tables e below (s₁.setTop (entryFrame m #[(.ref xm)] 1)) t := fun t k => castTop (ef_8 m xm) k
  obtain ⟨T301, X301, e301, st301⟩ := getF X0 hx hZ hown (host := "") (Or.inl (hw _ (List.mem_of_getElem? (i := 144) rfl))) Via.refl e0 q0 (g := (mkF m 1 #[.val (.ref xm)] [(.ref xm)])) rfl rfl (hb hby d_prog_2_method_5_code_1)
  obtain ⟨T302, h302, X302, e302, E302, A302, Q302, st302⟩ := cloneH X301 hx hZ hown (hw _ (List.mem_of_getElem? (i := 151) rfl)) (hw _ (List.mem_of_getElem? (i := 152) rfl)) (hw _ (List.mem_of_getElem? (i := 156) rfl)) (hw _ (List.mem_of_getElem? (i := 154) rfl)) (hw _ (List.mem_of_getElem? (i := 155) rfl)) (hw _ (List.mem_of_getElem? (i := 157) rfl)) e301 (q1).arh q2 (g := (mkF m 4 #[.val (.ref xm)] [(.ref xb)])) rfl (by rw [hml]; rfl) rfl (hb hby d_prog_2_method_5_code_4) (by decide) (W := 0) (by show 2 * 0 + _ ≤ _; exact Nat.le_of_eq rfl) (by decide) (cap := 32) (by decide) (by decide) (by decide)
  obtain ⟨b302, g302⟩ : ∃ z, z = h0.size := ⟨_, rfl⟩
  rw [← g302] at A302 Q302 st302
  have V302 : Arv Z h302 b302 kb .byte (32 : Int32) vs (.int (0 : Int32)) := A302
  obtain ⟨T303, X303, e303, st303⟩ := castY X302 hx hZ hown (hw _ (List.mem_of_getElem? (i := 158) rfl)) e302 (Ins.self Q302) (g := (mkF m 7 #[.val (.ref xm)] [(.ref b302)])) rfl rfl (hb hby d_prog_2_method_5_code_7)
  obtain ⟨fs, hr, hrun, hended, hW, hsame⟩ := X303.leave (v := some (.ref b302)) (fun h => by rw [Bd.returns] at h; cases h)
  refine ⟨_, _, pre0 _ ?_, hrun, hended, _, _, rfl, ?_, ⟨_, rfl⟩, hW, hsame.mono (by decide) (by decide)⟩
  · refine XS.aloadN X0.here hx rfl (hb hby d_prog_2_method_5_code_0) rfl rfl ?_
    show Steps p.tables e below (s₁.setTop (mkF m 1 #[.val (.ref xm)] [(.ref xm)])) _
    refine st301 _ ?_
    show Steps p.tables e below (T301.setTop (mkF m 4 #[.val (.ref xm)] [(.ref xb)])) _
    refine st302 _ ?_
    show Steps p.tables e below (T302.setTop (mkF m 7 #[.val (.ref xm)] [(.ref b302)])) _
    refine st303 _ ?_
    show Steps p.tables e below (T303.setTop (mkF m 10 #[.val (.ref xm)] [(.ref b302)])) _
    jvm_step X303.here [X303.here.top, hx, (hb hby d_prog_2_method_5_code_10), X303.method', Bd.returns, Value.isRef, FieldType.isReference]
    first | (intro acts; rw [hr _ acts rfl rfl rfl]) | rw [hr _ _ rfl rfl rfl]
    exact Steps.refl _
  · show Q_tba Z xm xb kb vs h0 n0 _ T303.heap _
    rw [e303]
    exact ⟨b302, rfl, N0, ((Keep.refl h0 ([] : List Addr)).ext E302), (Nat.le_trans (Nat.le_refl _) (Nat.le_of_eq g302.symm)), V302⟩
theorem d_method_5_code_0 : decode method_5_code 0 = .ok (.aload_n 0, 1) := by decide +kernel
theorem d_method_5_code_1 : decode method_5_code 1 = .ok (.iload_n 1, 1) := by decide +kernel
theorem d_method_5_code_2 : decode method_5_code 2 = .ok (.baload, 1) := by decide +kernel
theorem d_method_5_code_3 : decode method_5_code 3 = .ok (.lload_n 2, 1) := by decide +kernel
theorem d_method_5_code_4 : decode method_5_code 4 = .ok (.bipush 56, 2) := by decide +kernel
theorem d_method_5_code_6 : decode method_5_code 6 = .ok (.lushr, 1) := by decide +kernel
theorem d_method_5_code_7 : decode method_5_code 7 = .ok (.l2i, 1) := by decide +kernel
theorem d_method_5_code_8 : decode method_5_code 8 = .ok (.i2b, 1) := by decide +kernel
theorem d_method_5_code_9 : decode method_5_code 9 = .ok (.if_icmp .ne 104, 3) := by decide +kernel
theorem d_method_5_code_12 : decode method_5_code 12 = .ok (.aload_n 0, 1) := by decide +kernel
theorem d_method_5_code_13 : decode method_5_code 13 = .ok (.iload_n 1, 1) := by decide +kernel
theorem d_method_5_code_14 : decode method_5_code 14 = .ok (.iconst 1, 1) := by decide +kernel
theorem d_method_5_code_15 : decode method_5_code 15 = .ok (.iadd, 1) := by decide +kernel
theorem d_method_5_code_16 : decode method_5_code 16 = .ok (.baload, 1) := by decide +kernel
theorem d_method_5_code_17 : decode method_5_code 17 = .ok (.lload_n 2, 1) := by decide +kernel
theorem d_method_5_code_18 : decode method_5_code 18 = .ok (.bipush 48, 2) := by decide +kernel
theorem d_method_5_code_20 : decode method_5_code 20 = .ok (.lushr, 1) := by decide +kernel
theorem d_method_5_code_21 : decode method_5_code 21 = .ok (.l2i, 1) := by decide +kernel
theorem d_method_5_code_22 : decode method_5_code 22 = .ok (.i2b, 1) := by decide +kernel
theorem d_method_5_code_23 : decode method_5_code 23 = .ok (.if_icmp .ne 90, 3) := by decide +kernel
theorem d_method_5_code_26 : decode method_5_code 26 = .ok (.aload_n 0, 1) := by decide +kernel
theorem d_method_5_code_27 : decode method_5_code 27 = .ok (.iload_n 1, 1) := by decide +kernel
theorem d_method_5_code_28 : decode method_5_code 28 = .ok (.iconst 2, 1) := by decide +kernel
theorem d_method_5_code_29 : decode method_5_code 29 = .ok (.iadd, 1) := by decide +kernel
theorem d_method_5_code_30 : decode method_5_code 30 = .ok (.baload, 1) := by decide +kernel
theorem d_method_5_code_31 : decode method_5_code 31 = .ok (.lload_n 2, 1) := by decide +kernel
theorem d_method_5_code_32 : decode method_5_code 32 = .ok (.bipush 40, 2) := by decide +kernel
theorem d_method_5_code_34 : decode method_5_code 34 = .ok (.lushr, 1) := by decide +kernel
theorem d_method_5_code_35 : decode method_5_code 35 = .ok (.l2i, 1) := by decide +kernel
theorem d_method_5_code_36 : decode method_5_code 36 = .ok (.i2b, 1) := by decide +kernel
theorem d_method_5_code_37 : decode method_5_code 37 = .ok (.if_icmp .ne 76, 3) := by decide +kernel
theorem d_method_5_code_40 : decode method_5_code 40 = .ok (.aload_n 0, 1) := by decide +kernel
theorem d_method_5_code_41 : decode method_5_code 41 = .ok (.iload_n 1, 1) := by decide +kernel
theorem d_method_5_code_42 : decode method_5_code 42 = .ok (.iconst 3, 1) := by decide +kernel
theorem d_method_5_code_43 : decode method_5_code 43 = .ok (.iadd, 1) := by decide +kernel
theorem d_method_5_code_44 : decode method_5_code 44 = .ok (.baload, 1) := by decide +kernel
theorem d_method_5_code_45 : decode method_5_code 45 = .ok (.lload_n 2, 1) := by decide +kernel
theorem d_method_5_code_46 : decode method_5_code 46 = .ok (.bipush 32, 2) := by decide +kernel
theorem d_method_5_code_48 : decode method_5_code 48 = .ok (.lushr, 1) := by decide +kernel
theorem d_method_5_code_49 : decode method_5_code 49 = .ok (.l2i, 1) := by decide +kernel
theorem d_method_5_code_50 : decode method_5_code 50 = .ok (.i2b, 1) := by decide +kernel
theorem d_method_5_code_51 : decode method_5_code 51 = .ok (.if_icmp .ne 62, 3) := by decide +kernel
theorem d_method_5_code_54 : decode method_5_code 54 = .ok (.aload_n 0, 1) := by decide +kernel
theorem d_method_5_code_55 : decode method_5_code 55 = .ok (.iload_n 1, 1) := by decide +kernel
theorem d_method_5_code_56 : decode method_5_code 56 = .ok (.iconst 4, 1) := by decide +kernel
theorem d_method_5_code_57 : decode method_5_code 57 = .ok (.iadd, 1) := by decide +kernel
theorem d_method_5_code_58 : decode method_5_code 58 = .ok (.baload, 1) := by decide +kernel
theorem d_method_5_code_59 : decode method_5_code 59 = .ok (.lload_n 2, 1) := by decide +kernel
theorem d_method_5_code_60 : decode method_5_code 60 = .ok (.bipush 24, 2) := by decide +kernel
theorem d_method_5_code_62 : decode method_5_code 62 = .ok (.lushr, 1) := by decide +kernel
theorem d_method_5_code_63 : decode method_5_code 63 = .ok (.l2i, 1) := by decide +kernel
theorem d_method_5_code_64 : decode method_5_code 64 = .ok (.i2b, 1) := by decide +kernel
theorem d_method_5_code_65 : decode method_5_code 65 = .ok (.if_icmp .ne 48, 3) := by decide +kernel
theorem d_method_5_code_68 : decode method_5_code 68 = .ok (.aload_n 0, 1) := by decide +kernel
theorem d_method_5_code_69 : decode method_5_code 69 = .ok (.iload_n 1, 1) := by decide +kernel
theorem d_method_5_code_70 : decode method_5_code 70 = .ok (.iconst 5, 1) := by decide +kernel
theorem d_method_5_code_71 : decode method_5_code 71 = .ok (.iadd, 1) := by decide +kernel
theorem d_method_5_code_72 : decode method_5_code 72 = .ok (.baload, 1) := by decide +kernel
theorem d_method_5_code_73 : decode method_5_code 73 = .ok (.lload_n 2, 1) := by decide +kernel
theorem d_method_5_code_74 : decode method_5_code 74 = .ok (.bipush 16, 2) := by decide +kernel
theorem d_method_5_code_76 : decode method_5_code 76 = .ok (.lushr, 1) := by decide +kernel
theorem d_method_5_code_77 : decode method_5_code 77 = .ok (.l2i, 1) := by decide +kernel
theorem d_method_5_code_78 : decode method_5_code 78 = .ok (.i2b, 1) := by decide +kernel
theorem d_method_5_code_79 : decode method_5_code 79 = .ok (.if_icmp .ne 34, 3) := by decide +kernel
theorem d_method_5_code_82 : decode method_5_code 82 = .ok (.aload_n 0, 1) := by decide +kernel
theorem d_method_5_code_83 : decode method_5_code 83 = .ok (.iload_n 1, 1) := by decide +kernel
theorem d_method_5_code_84 : decode method_5_code 84 = .ok (.bipush 6, 2) := by decide +kernel
theorem d_method_5_code_86 : decode method_5_code 86 = .ok (.iadd, 1) := by decide +kernel
theorem d_method_5_code_87 : decode method_5_code 87 = .ok (.baload, 1) := by decide +kernel
theorem d_method_5_code_88 : decode method_5_code 88 = .ok (.lload_n 2, 1) := by decide +kernel
theorem d_method_5_code_89 : decode method_5_code 89 = .ok (.bipush 8, 2) := by decide +kernel
theorem d_method_5_code_91 : decode method_5_code 91 = .ok (.lushr, 1) := by decide +kernel
theorem d_method_5_code_92 : decode method_5_code 92 = .ok (.l2i, 1) := by decide +kernel
theorem d_method_5_code_93 : decode method_5_code 93 = .ok (.i2b, 1) := by decide +kernel
theorem d_method_5_code_94 : decode method_5_code 94 = .ok (.if_icmp .ne 19, 3) := by decide +kernel
theorem d_method_5_code_97 : decode method_5_code 97 = .ok (.aload_n 0, 1) := by decide +kernel
theorem d_method_5_code_98 : decode method_5_code 98 = .ok (.iload_n 1, 1) := by decide +kernel
theorem d_method_5_code_99 : decode method_5_code 99 = .ok (.bipush 7, 2) := by decide +kernel
theorem d_method_5_code_101 : decode method_5_code 101 = .ok (.iadd, 1) := by decide +kernel
theorem d_method_5_code_102 : decode method_5_code 102 = .ok (.baload, 1) := by decide +kernel
theorem d_method_5_code_103 : decode method_5_code 103 = .ok (.lload_n 2, 1) := by decide +kernel
theorem d_method_5_code_104 : decode method_5_code 104 = .ok (.l2i, 1) := by decide +kernel
theorem d_method_5_code_105 : decode method_5_code 105 = .ok (.i2b, 1) := by decide +kernel
theorem d_method_5_code_106 : decode method_5_code 106 = .ok (.if_icmp .ne 7, 3) := by decide +kernel
theorem d_method_5_code_109 : decode method_5_code 109 = .ok (.iconst 1, 1) := by decide +kernel
theorem d_method_5_code_110 : decode method_5_code 110 = .ok (.goto 4, 3) := by decide +kernel
theorem d_method_5_code_114 : decode method_5_code 114 = .ok (.ireturn, 1) := by decide +kernel
theorem ef_10 (m : MethodId) (x0 : Addr) (x1 : Int32) (x2 : Int64) : entryFrame m #[(.ref x0), (.int x1), (.long x2)] 4 = mkF m 0 #[.val (.ref x0), .val (.int x1), .val (.long x2), .second] [] := by first | (simp [entryFrame, mkF, argsToLocals, Value.category]; done) | rfl
def Q_same8 (Z : State) (ba : Addr) (oo : Nat) (xj : Int64) (kb : ClassId) (ds : List Int32) (h0 : Heap) (n0 : Nat) (v : Option Value) (h : Heap) (L : List Loc) : Prop := (v = some (.int (1 : Int32))) ∧ (Fr n0 L) ∧ (h = h0)
set_option maxRecDepth 65536 in
set_option maxHeartbeats 40000000 in
theorem rm_same8 (l : Launch) (Z : State) (a0 : Array Value) (hw : ∀ d ∈ tables_1, d.before a0 Z = true) (ws : List Jvm.Cond) (ba : Addr) (oo : Nat) (xj : Int64) (kb : ClassId) (ds : List Int32) (h0 : Heap) (n0 : Nat) (Z0 : n0 ≤ h0.size) (q0 : Arv Z h0 ba kb .byte (32 : Int32) (own_bytes ds) (.int (0 : Int32))) (hoo : oo + 8 ≤ 32) (hy0 : own_bt ds oo = ((((xj.toUInt64 >>> ((56 : Int32) &&& 0x3f).toInt64.toUInt64).toInt64).toInt32).toInt8.toInt32)) (hy1 : own_bt ds (oo + 1) = ((((xj.toUInt64 >>> ((48 : Int32) &&& 0x3f).toInt64.toUInt64).toInt64).toInt32).toInt8.toInt32)) (hy2 : own_bt ds (oo + 2) = ((((xj.toUInt64 >>> ((40 : Int32) &&& 0x3f).toInt64.toUInt64).toInt64).toInt32).toInt8.toInt32)) (hy3 : own_bt ds (oo + 3) = ((((xj.toUInt64 >>> ((32 : Int32) &&& 0x3f).toInt64.toUInt64).toInt64).toInt32).toInt8.toInt32)) (hy4 : own_bt ds (oo + 4) = ((((xj.toUInt64 >>> ((24 : Int32) &&& 0x3f).toInt64.toUInt64).toInt64).toInt32).toInt8.toInt32)) (hy5 : own_bt ds (oo + 5) = ((((xj.toUInt64 >>> ((16 : Int32) &&& 0x3f).toInt64.toUInt64).toInt64).toInt32).toInt8.toInt32)) (hy6 : own_bt ds (oo + 6) = ((((xj.toUInt64 >>> ((8 : Int32) &&& 0x3f).toInt64.toUInt64).toInt64).toInt32).toInt8.toInt32)) (hy7 : own_bt ds (oo + 7) = ((xj.toInt32).toInt8.toInt32)) :
    MetFree l (⟨"com/example/lungfish/lungfish/message/MessageHashParsePinLaw", "same8", "([BIJ)Z"⟩ : MethodName) (head1 (Jvm.Cond.code (⟨"com/example/lungfish/lungfish/message/MessageHashParsePinLaw", "same8", "([BIJ)Z"⟩ : MethodName) method_5_code 4 (some .boolean) :: ws) ({ frames := 0, cells := 0, slots := 0, locals := 0 } : Room)) (fun a₁ U₁ => a₁ = #[(.ref ba), (.int (Int32.ofNat oo)), (.long xj)] ∧ Z.Warmed39 U₁.vm ∧ U₁.heap = h0) (fun _ _ _ _ _ => True) (fun _ U₁ o₁ U₂ => ∃ v₁ L₁, o₁ = .returned v₁ ∧ Q_same8 Z ba oo xj kb ds h0 n0 v₁ U₂.heap L₁ ∧ FrameEnd U₁ o₁ U₂ L₁ ({ frames := 0, cells := 0, slots := 0, locals := 0 } : Room).cells ({ frames := 0, cells := 0, slots := 0, locals := 0 } : Room).slots) := by
  refine MetFree.of_bodySF (plainFor_of_name pn_0) hisR ?_
  intro p e s m args below meth c s₁ Bd hml0 hP hK
  obtain ⟨rfl, hZ, hh⟩ := hP
  have hx := Bd.exec
  have hby := Bd.bytes
  have hml : c.maxLocals = 4 := hml0
  have hown : s.vm.findClass "com/example/lungfish/lungfish/message/MessageHashParsePinLaw" = some m.cls := findClass_of_methodNamed Bd.named
  have hnm := (name_of_methodNamed Bd.named Bd.method).1
  have X0 : Stand p l e ({ frames := 0, cells := 0, slots := 0, locals := 0 } : Room) s m #[(.ref ba), (.int (Int32.ofNat oo)), (.long xj)] below meth c s₁ [] 0 0 := Stand.of_body Bd
  have e0 : s₁.heap = h0 := by rw [← hh, Bd.state]; rfl
  have N0 := Fr.nil n0
  have pre0 : ∀ t, Steps p.tables e below (s₁.setTop (mkF m 0 #[.val (.ref ba), .val (.int (Int32.ofNat oo)), .val (.long xj), .second] [])) t → Steps p.tables e below (s₁.setTop (entryFrame m #[(.ref ba), (.int (Int32.ofNat oo)), (.long xj)] 4)) t := fun t k => castTop (ef_10 m ba (Int32.ofNat oo) xj) k
  obtain ⟨cl301, Ar301, qq301, S301, M301, Hh301, U301⟩ := id q0
  have ib301 : ¬ ((Int32.ofNat oo) < 0 ∨ cl301.slots.size ≤ ((Int32.ofNat oo)).toNatClampNeg) := inb_of S301 (own_inb (n := 32) (by omega) (by omega))
  obtain ⟨cl302, Ar302, qq302, S302, M302, Hh302, U302⟩ := id q0
  have ib302 : ¬ ((Int32.ofNat (oo + 1)) < 0 ∨ cl302.slots.size ≤ ((Int32.ofNat (oo + 1))).toNatClampNeg) := inb_of S302 (own_inb (n := 32) (by omega) (by omega))
  obtain ⟨cl303, Ar303, qq303, S303, M303, Hh303, U303⟩ := id q0
  have ib303 : ¬ ((Int32.ofNat (oo + 2)) < 0 ∨ cl303.slots.size ≤ ((Int32.ofNat (oo + 2))).toNatClampNeg) := inb_of S303 (own_inb (n := 32) (by omega) (by omega))
  obtain ⟨cl304, Ar304, qq304, S304, M304, Hh304, U304⟩ := id q0
  have ib304 : ¬ ((Int32.ofNat (oo + 3)) < 0 ∨ cl304.slots.size ≤ ((Int32.ofNat (oo + 3))).toNatClampNeg) := inb_of S304 (own_inb (n := 32) (by omega) (by omega))
  obtain ⟨cl305, Ar305, qq305, S305, M305, Hh305, U305⟩ := id q0
  have ib305 : ¬ ((Int32.ofNat (oo + 4)) < 0 ∨ cl305.slots.size ≤ ((Int32.ofNat (oo + 4))).toNatClampNeg) := inb_of S305 (own_inb (n := 32) (by omega) (by omega))
  obtain ⟨cl306, Ar306, qq306, S306, M306, Hh306, U306⟩ := id q0
  have ib306 : ¬ ((Int32.ofNat (oo + 5)) < 0 ∨ cl306.slots.size ≤ ((Int32.ofNat (oo + 5))).toNatClampNeg) := inb_of S306 (own_inb (n := 32) (by omega) (by omega))
  obtain ⟨cl307, Ar307, qq307, S307, M307, Hh307, U307⟩ := id q0
  have ib307 : ¬ ((Int32.ofNat (oo + 6)) < 0 ∨ cl307.slots.size ≤ ((Int32.ofNat (oo + 6))).toNatClampNeg) := inb_of S307 (own_inb (n := 32) (by omega) (by omega))
  obtain ⟨cl308, Ar308, qq308, S308, M308, Hh308, U308⟩ := id q0
  have ib308 : ¬ ((Int32.ofNat (oo + 7)) < 0 ∨ cl308.slots.size ≤ ((Int32.ofNat (oo + 7))).toNatClampNeg) := inb_of S308 (own_inb (n := 32) (by omega) (by omega))
  obtain ⟨fs, hr, hrun, hended, hW, hsame⟩ := X0.leave (v := some (.int (1 : Int32))) (fun h => by rw [Bd.returns] at h; cases h)
  refine ⟨_, _, pre0 _ ?_, hrun, hended, _, _, rfl, ?_, ⟨_, rfl⟩, hW, hsame.mono (by decide) (by decide)⟩
  · refine XS.aloadN X0.here hx rfl (hb hby d_method_5_code_0) rfl rfl ?_
    show Steps p.tables e below (s₁.setTop (mkF m 1 #[.val (.ref ba), .val (.int (Int32.ofNat oo)), .val (.long xj), .second] [(.ref ba)])) _
    refine XS.iloadN X0.here hx rfl (hb hby d_method_5_code_1) rfl ?_
    show Steps p.tables e below (s₁.setTop (mkF m 2 #[.val (.ref ba), .val (.int (Int32.ofNat oo)), .val (.long xj), .second] [(.int (Int32.ofNat oo)), (.ref ba)])) _
    refine X0.baloadBytes hx (j := (Int32.ofNat oo)) (v := (.int (own_bt ds oo))) (by rw [e0]; exact Ar301.1) (State.isArrayOf_alike hZ.alike Ar301.2.1) Ar301.2.2 ib301 (Hh301.at ib301 (own_byat (by omega))) (g := (mkF m 2 #[.val (.ref ba), .val (.int (Int32.ofNat oo)), .val (.long xj), .second] [(.int (Int32.ofNat oo)), (.ref ba)])) rfl rfl (hb hby d_method_5_code_2) _ ?_
    show Steps p.tables e below (s₁.setTop (mkF m 3 #[.val (.ref ba), .val (.int (Int32.ofNat oo)), .val (.long xj), .second] [(.int (own_bt ds oo))])) _
    refine XS.lloadN X0.here hx rfl (hb hby d_method_5_code_3) rfl ?_
    show Steps p.tables e below (s₁.setTop (mkF m 4 #[.val (.ref ba), .val (.int (Int32.ofNat oo)), .val (.long xj), .second] [(.long xj), (.int (own_bt ds oo))])) _
    refine XS.bipush X0.here hx rfl (hb hby d_method_5_code_4) ?_
    show Steps p.tables e below (s₁.setTop (mkF m 6 #[.val (.ref ba), .val (.int (Int32.ofNat oo)), .val (.long xj), .second] [(.int (56 : Int32)), (.long xj), (.int (own_bt ds oo))])) _
    refine XS.lushr X0.here hx rfl (hb hby d_method_5_code_6) rfl ?_
    show Steps p.tables e below (s₁.setTop (mkF m 7 #[.val (.ref ba), .val (.int (Int32.ofNat oo)), .val (.long xj), .second] [(.long ((xj.toUInt64 >>> ((56 : Int32) &&& 0x3f).toInt64.toUInt64).toInt64)), (.int (own_bt ds oo))])) _
    refine XS.l2i X0.here hx rfl (hb hby d_method_5_code_7) rfl ?_
    show Steps p.tables e below (s₁.setTop (mkF m 8 #[.val (.ref ba), .val (.int (Int32.ofNat oo)), .val (.long xj), .second] [(.int (((xj.toUInt64 >>> ((56 : Int32) &&& 0x3f).toInt64.toUInt64).toInt64).toInt32)), (.int (own_bt ds oo))])) _
    refine XS.i2b X0.here hx rfl (hb hby d_method_5_code_8) rfl ?_
    show Steps p.tables e below (s₁.setTop (mkF m 9 #[.val (.ref ba), .val (.int (Int32.ofNat oo)), .val (.long xj), .second] [(.int ((((xj.toUInt64 >>> ((56 : Int32) &&& 0x3f).toInt64.toUInt64).toInt64).toInt32).toInt8.toInt32)), (.int (own_bt ds oo))])) _
    refine XS.icmpNo X0.here hx rfl (hb hby d_method_5_code_9) rfl (teq (hy0 : (own_bt ds oo) = ((((xj.toUInt64 >>> ((56 : Int32) &&& 0x3f).toInt64.toUInt64).toInt64).toInt32).toInt8.toInt32))).2 ?_
    show Steps p.tables e below (s₁.setTop (mkF m 12 #[.val (.ref ba), .val (.int (Int32.ofNat oo)), .val (.long xj), .second] [])) _
    refine XS.aloadN X0.here hx rfl (hb hby d_method_5_code_12) rfl rfl ?_
    show Steps p.tables e below (s₁.setTop (mkF m 13 #[.val (.ref ba), .val (.int (Int32.ofNat oo)), .val (.long xj), .second] [(.ref ba)])) _
    refine XS.iloadN X0.here hx rfl (hb hby d_method_5_code_13) rfl ?_
    show Steps p.tables e below (s₁.setTop (mkF m 14 #[.val (.ref ba), .val (.int (Int32.ofNat oo)), .val (.long xj), .second] [(.int (Int32.ofNat oo)), (.ref ba)])) _
    refine XS.iconst X0.here hx rfl (hb hby d_method_5_code_14) ?_
    show Steps p.tables e below (s₁.setTop (mkF m 15 #[.val (.ref ba), .val (.int (Int32.ofNat oo)), .val (.long xj), .second] [(.int (1 : Int32)), (.int (Int32.ofNat oo)), (.ref ba)])) _
    refine XS.iadd X0.here hx rfl (hb hby d_method_5_code_15) rfl ?_
    show Steps p.tables e below (s₁.setTop (mkF m 16 #[.val (.ref ba), .val (.int (Int32.ofNat oo)), .val (.long xj), .second] [(.int ((Int32.ofNat oo) + (1 : Int32))), (.ref ba)])) _
    rw [(show Int32.ofNat oo + (1 : Int32) = Int32.ofNat (oo + 1) from own_addn oo 1)]
    show Steps p.tables e below (s₁.setTop (mkF m 16 #[.val (.ref ba), .val (.int (Int32.ofNat oo)), .val (.long xj), .second] [(.int (Int32.ofNat (oo + 1))), (.ref ba)])) _
    refine X0.baloadBytes hx (j := (Int32.ofNat (oo + 1))) (v := (.int (own_bt ds (oo + 1)))) (by rw [e0]; exact Ar302.1) (State.isArrayOf_alike hZ.alike Ar302.2.1) Ar302.2.2 ib302 (Hh302.at ib302 (own_byat (by omega))) (g := (mkF m 16 #[.val (.ref ba), .val (.int (Int32.ofNat oo)), .val (.long xj), .second] [(.int (Int32.ofNat (oo + 1))), (.ref ba)])) rfl rfl (hb hby d_method_5_code_16) _ ?_
    show Steps p.tables e below (s₁.setTop (mkF m 17 #[.val (.ref ba), .val (.int (Int32.ofNat oo)), .val (.long xj), .second] [(.int (own_bt ds (oo + 1)))])) _
    refine XS.lloadN X0.here hx rfl (hb hby d_method_5_code_17) rfl ?_
    show Steps p.tables e below (s₁.setTop (mkF m 18 #[.val (.ref ba), .val (.int (Int32.ofNat oo)), .val (.long xj), .second] [(.long xj), (.int (own_bt ds (oo + 1)))])) _
    refine XS.bipush X0.here hx rfl (hb hby d_method_5_code_18) ?_
    show Steps p.tables e below (s₁.setTop (mkF m 20 #[.val (.ref ba), .val (.int (Int32.ofNat oo)), .val (.long xj), .second] [(.int (48 : Int32)), (.long xj), (.int (own_bt ds (oo + 1)))])) _
    refine XS.lushr X0.here hx rfl (hb hby d_method_5_code_20) rfl ?_
    show Steps p.tables e below (s₁.setTop (mkF m 21 #[.val (.ref ba), .val (.int (Int32.ofNat oo)), .val (.long xj), .second] [(.long ((xj.toUInt64 >>> ((48 : Int32) &&& 0x3f).toInt64.toUInt64).toInt64)), (.int (own_bt ds (oo + 1)))])) _
    refine XS.l2i X0.here hx rfl (hb hby d_method_5_code_21) rfl ?_
    show Steps p.tables e below (s₁.setTop (mkF m 22 #[.val (.ref ba), .val (.int (Int32.ofNat oo)), .val (.long xj), .second] [(.int (((xj.toUInt64 >>> ((48 : Int32) &&& 0x3f).toInt64.toUInt64).toInt64).toInt32)), (.int (own_bt ds (oo + 1)))])) _
    refine XS.i2b X0.here hx rfl (hb hby d_method_5_code_22) rfl ?_
    show Steps p.tables e below (s₁.setTop (mkF m 23 #[.val (.ref ba), .val (.int (Int32.ofNat oo)), .val (.long xj), .second] [(.int ((((xj.toUInt64 >>> ((48 : Int32) &&& 0x3f).toInt64.toUInt64).toInt64).toInt32).toInt8.toInt32)), (.int (own_bt ds (oo + 1)))])) _
    refine XS.icmpNo X0.here hx rfl (hb hby d_method_5_code_23) rfl (teq (hy1 : (own_bt ds (oo + 1)) = ((((xj.toUInt64 >>> ((48 : Int32) &&& 0x3f).toInt64.toUInt64).toInt64).toInt32).toInt8.toInt32))).2 ?_
    show Steps p.tables e below (s₁.setTop (mkF m 26 #[.val (.ref ba), .val (.int (Int32.ofNat oo)), .val (.long xj), .second] [])) _
    refine XS.aloadN X0.here hx rfl (hb hby d_method_5_code_26) rfl rfl ?_
    show Steps p.tables e below (s₁.setTop (mkF m 27 #[.val (.ref ba), .val (.int (Int32.ofNat oo)), .val (.long xj), .second] [(.ref ba)])) _
    refine XS.iloadN X0.here hx rfl (hb hby d_method_5_code_27) rfl ?_
    show Steps p.tables e below (s₁.setTop (mkF m 28 #[.val (.ref ba), .val (.int (Int32.ofNat oo)), .val (.long xj), .second] [(.int (Int32.ofNat oo)), (.ref ba)])) _
    refine XS.iconst X0.here hx rfl (hb hby d_method_5_code_28) ?_
    show Steps p.tables e below (s₁.setTop (mkF m 29 #[.val (.ref ba), .val (.int (Int32.ofNat oo)), .val (.long xj), .second] [(.int (2 : Int32)), (.int (Int32.ofNat oo)), (.ref ba)])) _
    refine XS.iadd X0.here hx rfl (hb hby d_method_5_code_29) rfl ?_
    show Steps p.tables e below (s₁.setTop (mkF m 30 #[.val (.ref ba), .val (.int (Int32.ofNat oo)), .val (.long xj), .second] [(.int ((Int32.ofNat oo) + (2 : Int32))), (.ref ba)])) _
    rw [(show Int32.ofNat oo + (2 : Int32) = Int32.ofNat (oo + 2) from own_addn oo 2)]
    show Steps p.tables e below (s₁.setTop (mkF m 30 #[.val (.ref ba), .val (.int (Int32.ofNat oo)), .val (.long xj), .second] [(.int (Int32.ofNat (oo + 2))), (.ref ba)])) _
    refine X0.baloadBytes hx (j := (Int32.ofNat (oo + 2))) (v := (.int (own_bt ds (oo + 2)))) (by rw [e0]; exact Ar303.1) (State.isArrayOf_alike hZ.alike Ar303.2.1) Ar303.2.2 ib303 (Hh303.at ib303 (own_byat (by omega))) (g := (mkF m 30 #[.val (.ref ba), .val (.int (Int32.ofNat oo)), .val (.long xj), .second] [(.int (Int32.ofNat (oo + 2))), (.ref ba)])) rfl rfl (hb hby d_method_5_code_30) _ ?_
    show Steps p.tables e below (s₁.setTop (mkF m 31 #[.val (.ref ba), .val (.int (Int32.ofNat oo)), .val (.long xj), .second] [(.int (own_bt ds (oo + 2)))])) _
    refine XS.lloadN X0.here hx rfl (hb hby d_method_5_code_31) rfl ?_
    show Steps p.tables e below (s₁.setTop (mkF m 32 #[.val (.ref ba), .val (.int (Int32.ofNat oo)), .val (.long xj), .second] [(.long xj), (.int (own_bt ds (oo + 2)))])) _
    refine XS.bipush X0.here hx rfl (hb hby d_method_5_code_32) ?_
    show Steps p.tables e below (s₁.setTop (mkF m 34 #[.val (.ref ba), .val (.int (Int32.ofNat oo)), .val (.long xj), .second] [(.int (40 : Int32)), (.long xj), (.int (own_bt ds (oo + 2)))])) _
    refine XS.lushr X0.here hx rfl (hb hby d_method_5_code_34) rfl ?_
    show Steps p.tables e below (s₁.setTop (mkF m 35 #[.val (.ref ba), .val (.int (Int32.ofNat oo)), .val (.long xj), .second] [(.long ((xj.toUInt64 >>> ((40 : Int32) &&& 0x3f).toInt64.toUInt64).toInt64)), (.int (own_bt ds (oo + 2)))])) _
    refine XS.l2i X0.here hx rfl (hb hby d_method_5_code_35) rfl ?_
    show Steps p.tables e below (s₁.setTop (mkF m 36 #[.val (.ref ba), .val (.int (Int32.ofNat oo)), .val (.long xj), .second] [(.int (((xj.toUInt64 >>> ((40 : Int32) &&& 0x3f).toInt64.toUInt64).toInt64).toInt32)), (.int (own_bt ds (oo + 2)))])) _
    refine XS.i2b X0.here hx rfl (hb hby d_method_5_code_36) rfl ?_
    show Steps p.tables e below (s₁.setTop (mkF m 37 #[.val (.ref ba), .val (.int (Int32.ofNat oo)), .val (.long xj), .second] [(.int ((((xj.toUInt64 >>> ((40 : Int32) &&& 0x3f).toInt64.toUInt64).toInt64).toInt32).toInt8.toInt32)), (.int (own_bt ds (oo + 2)))])) _
    refine XS.icmpNo X0.here hx rfl (hb hby d_method_5_code_37) rfl (teq (hy2 : (own_bt ds (oo + 2)) = ((((xj.toUInt64 >>> ((40 : Int32) &&& 0x3f).toInt64.toUInt64).toInt64).toInt32).toInt8.toInt32))).2 ?_
    show Steps p.tables e below (s₁.setTop (mkF m 40 #[.val (.ref ba), .val (.int (Int32.ofNat oo)), .val (.long xj), .second] [])) _
    refine XS.aloadN X0.here hx rfl (hb hby d_method_5_code_40) rfl rfl ?_
    show Steps p.tables e below (s₁.setTop (mkF m 41 #[.val (.ref ba), .val (.int (Int32.ofNat oo)), .val (.long xj), .second] [(.ref ba)])) _
    refine XS.iloadN X0.here hx rfl (hb hby d_method_5_code_41) rfl ?_
    show Steps p.tables e below (s₁.setTop (mkF m 42 #[.val (.ref ba), .val (.int (Int32.ofNat oo)), .val (.long xj), .second] [(.int (Int32.ofNat oo)), (.ref ba)])) _
    refine XS.iconst X0.here hx rfl (hb hby d_method_5_code_42) ?_
    show Steps p.tables e below (s₁.setTop (mkF m 43 #[.val (.ref ba), .val (.int (Int32.ofNat oo)), .val (.long xj), .second] [(.int (3 : Int32)), (.int (Int32.ofNat oo)), (.ref ba)])) _
    refine XS.iadd X0.here hx rfl (hb hby d_method_5_code_43) rfl ?_
    show Steps p.tables e below (s₁.setTop (mkF m 44 #[.val (.ref ba), .val (.int (Int32.ofNat oo)), .val (.long xj), .second] [(.int ((Int32.ofNat oo) + (3 : Int32))), (.ref ba)])) _
    rw [(show Int32.ofNat oo + (3 : Int32) = Int32.ofNat (oo + 3) from own_addn oo 3)]
    show Steps p.tables e below (s₁.setTop (mkF m 44 #[.val (.ref ba), .val (.int (Int32.ofNat oo)), .val (.long xj), .second] [(.int (Int32.ofNat (oo + 3))), (.ref ba)])) _
    refine X0.baloadBytes hx (j := (Int32.ofNat (oo + 3))) (v := (.int (own_bt ds (oo + 3)))) (by rw [e0]; exact Ar304.1) (State.isArrayOf_alike hZ.alike Ar304.2.1) Ar304.2.2 ib304 (Hh304.at ib304 (own_byat (by omega))) (g := (mkF m 44 #[.val (.ref ba), .val (.int (Int32.ofNat oo)), .val (.long xj), .second] [(.int (Int32.ofNat (oo + 3))), (.ref ba)])) rfl rfl (hb hby d_method_5_code_44) _ ?_
    show Steps p.tables e below (s₁.setTop (mkF m 45 #[.val (.ref ba), .val (.int (Int32.ofNat oo)), .val (.long xj), .second] [(.int (own_bt ds (oo + 3)))])) _
    refine XS.lloadN X0.here hx rfl (hb hby d_method_5_code_45) rfl ?_
    show Steps p.tables e below (s₁.setTop (mkF m 46 #[.val (.ref ba), .val (.int (Int32.ofNat oo)), .val (.long xj), .second] [(.long xj), (.int (own_bt ds (oo + 3)))])) _
    refine XS.bipush X0.here hx rfl (hb hby d_method_5_code_46) ?_
    show Steps p.tables e below (s₁.setTop (mkF m 48 #[.val (.ref ba), .val (.int (Int32.ofNat oo)), .val (.long xj), .second] [(.int (32 : Int32)), (.long xj), (.int (own_bt ds (oo + 3)))])) _
    refine XS.lushr X0.here hx rfl (hb hby d_method_5_code_48) rfl ?_
    show Steps p.tables e below (s₁.setTop (mkF m 49 #[.val (.ref ba), .val (.int (Int32.ofNat oo)), .val (.long xj), .second] [(.long ((xj.toUInt64 >>> ((32 : Int32) &&& 0x3f).toInt64.toUInt64).toInt64)), (.int (own_bt ds (oo + 3)))])) _
    refine XS.l2i X0.here hx rfl (hb hby d_method_5_code_49) rfl ?_
    show Steps p.tables e below (s₁.setTop (mkF m 50 #[.val (.ref ba), .val (.int (Int32.ofNat oo)), .val (.long xj), .second] [(.int (((xj.toUInt64 >>> ((32 : Int32) &&& 0x3f).toInt64.toUInt64).toInt64).toInt32)), (.int (own_bt ds (oo + 3)))])) _
    refine XS.i2b X0.here hx rfl (hb hby d_method_5_code_50) rfl ?_
    show Steps p.tables e below (s₁.setTop (mkF m 51 #[.val (.ref ba), .val (.int (Int32.ofNat oo)), .val (.long xj), .second] [(.int ((((xj.toUInt64 >>> ((32 : Int32) &&& 0x3f).toInt64.toUInt64).toInt64).toInt32).toInt8.toInt32)), (.int (own_bt ds (oo + 3)))])) _
    refine XS.icmpNo X0.here hx rfl (hb hby d_method_5_code_51) rfl (teq (hy3 : (own_bt ds (oo + 3)) = ((((xj.toUInt64 >>> ((32 : Int32) &&& 0x3f).toInt64.toUInt64).toInt64).toInt32).toInt8.toInt32))).2 ?_
    show Steps p.tables e below (s₁.setTop (mkF m 54 #[.val (.ref ba), .val (.int (Int32.ofNat oo)), .val (.long xj), .second] [])) _
    refine XS.aloadN X0.here hx rfl (hb hby d_method_5_code_54) rfl rfl ?_
    show Steps p.tables e below (s₁.setTop (mkF m 55 #[.val (.ref ba), .val (.int (Int32.ofNat oo)), .val (.long xj), .second] [(.ref ba)])) _
    refine XS.iloadN X0.here hx rfl (hb hby d_method_5_code_55) rfl ?_
    show Steps p.tables e below (s₁.setTop (mkF m 56 #[.val (.ref ba), .val (.int (Int32.ofNat oo)), .val (.long xj), .second] [(.int (Int32.ofNat oo)), (.ref ba)])) _
    refine XS.iconst X0.here hx rfl (hb hby d_method_5_code_56) ?_
    show Steps p.tables e below (s₁.setTop (mkF m 57 #[.val (.ref ba), .val (.int (Int32.ofNat oo)), .val (.long xj), .second] [(.int (4 : Int32)), (.int (Int32.ofNat oo)), (.ref ba)])) _
    refine XS.iadd X0.here hx rfl (hb hby d_method_5_code_57) rfl ?_
    show Steps p.tables e below (s₁.setTop (mkF m 58 #[.val (.ref ba), .val (.int (Int32.ofNat oo)), .val (.long xj), .second] [(.int ((Int32.ofNat oo) + (4 : Int32))), (.ref ba)])) _
    rw [(show Int32.ofNat oo + (4 : Int32) = Int32.ofNat (oo + 4) from own_addn oo 4)]
    show Steps p.tables e below (s₁.setTop (mkF m 58 #[.val (.ref ba), .val (.int (Int32.ofNat oo)), .val (.long xj), .second] [(.int (Int32.ofNat (oo + 4))), (.ref ba)])) _
    refine X0.baloadBytes hx (j := (Int32.ofNat (oo + 4))) (v := (.int (own_bt ds (oo + 4)))) (by rw [e0]; exact Ar305.1) (State.isArrayOf_alike hZ.alike Ar305.2.1) Ar305.2.2 ib305 (Hh305.at ib305 (own_byat (by omega))) (g := (mkF m 58 #[.val (.ref ba), .val (.int (Int32.ofNat oo)), .val (.long xj), .second] [(.int (Int32.ofNat (oo + 4))), (.ref ba)])) rfl rfl (hb hby d_method_5_code_58) _ ?_
    show Steps p.tables e below (s₁.setTop (mkF m 59 #[.val (.ref ba), .val (.int (Int32.ofNat oo)), .val (.long xj), .second] [(.int (own_bt ds (oo + 4)))])) _
    refine XS.lloadN X0.here hx rfl (hb hby d_method_5_code_59) rfl ?_
    show Steps p.tables e below (s₁.setTop (mkF m 60 #[.val (.ref ba), .val (.int (Int32.ofNat oo)), .val (.long xj), .second] [(.long xj), (.int (own_bt ds (oo + 4)))])) _
    refine XS.bipush X0.here hx rfl (hb hby d_method_5_code_60) ?_
    show Steps p.tables e below (s₁.setTop (mkF m 62 #[.val (.ref ba), .val (.int (Int32.ofNat oo)), .val (.long xj), .second] [(.int (24 : Int32)), (.long xj), (.int (own_bt ds (oo + 4)))])) _
    refine XS.lushr X0.here hx rfl (hb hby d_method_5_code_62) rfl ?_
    show Steps p.tables e below (s₁.setTop (mkF m 63 #[.val (.ref ba), .val (.int (Int32.ofNat oo)), .val (.long xj), .second] [(.long ((xj.toUInt64 >>> ((24 : Int32) &&& 0x3f).toInt64.toUInt64).toInt64)), (.int (own_bt ds (oo + 4)))])) _
    refine XS.l2i X0.here hx rfl (hb hby d_method_5_code_63) rfl ?_
    show Steps p.tables e below (s₁.setTop (mkF m 64 #[.val (.ref ba), .val (.int (Int32.ofNat oo)), .val (.long xj), .second] [(.int (((xj.toUInt64 >>> ((24 : Int32) &&& 0x3f).toInt64.toUInt64).toInt64).toInt32)), (.int (own_bt ds (oo + 4)))])) _
    refine XS.i2b X0.here hx rfl (hb hby d_method_5_code_64) rfl ?_
    show Steps p.tables e below (s₁.setTop (mkF m 65 #[.val (.ref ba), .val (.int (Int32.ofNat oo)), .val (.long xj), .second] [(.int ((((xj.toUInt64 >>> ((24 : Int32) &&& 0x3f).toInt64.toUInt64).toInt64).toInt32).toInt8.toInt32)), (.int (own_bt ds (oo + 4)))])) _
    refine XS.icmpNo X0.here hx rfl (hb hby d_method_5_code_65) rfl (teq (hy4 : (own_bt ds (oo + 4)) = ((((xj.toUInt64 >>> ((24 : Int32) &&& 0x3f).toInt64.toUInt64).toInt64).toInt32).toInt8.toInt32))).2 ?_
    show Steps p.tables e below (s₁.setTop (mkF m 68 #[.val (.ref ba), .val (.int (Int32.ofNat oo)), .val (.long xj), .second] [])) _
    refine XS.aloadN X0.here hx rfl (hb hby d_method_5_code_68) rfl rfl ?_
    show Steps p.tables e below (s₁.setTop (mkF m 69 #[.val (.ref ba), .val (.int (Int32.ofNat oo)), .val (.long xj), .second] [(.ref ba)])) _
    refine XS.iloadN X0.here hx rfl (hb hby d_method_5_code_69) rfl ?_
    show Steps p.tables e below (s₁.setTop (mkF m 70 #[.val (.ref ba), .val (.int (Int32.ofNat oo)), .val (.long xj), .second] [(.int (Int32.ofNat oo)), (.ref ba)])) _
    refine XS.iconst X0.here hx rfl (hb hby d_method_5_code_70) ?_
    show Steps p.tables e below (s₁.setTop (mkF m 71 #[.val (.ref ba), .val (.int (Int32.ofNat oo)), .val (.long xj), .second] [(.int (5 : Int32)), (.int (Int32.ofNat oo)), (.ref ba)])) _
    refine XS.iadd X0.here hx rfl (hb hby d_method_5_code_71) rfl ?_
    show Steps p.tables e below (s₁.setTop (mkF m 72 #[.val (.ref ba), .val (.int (Int32.ofNat oo)), .val (.long xj), .second] [(.int ((Int32.ofNat oo) + (5 : Int32))), (.ref ba)])) _
    rw [(show Int32.ofNat oo + (5 : Int32) = Int32.ofNat (oo + 5) from own_addn oo 5)]
    show Steps p.tables e below (s₁.setTop (mkF m 72 #[.val (.ref ba), .val (.int (Int32.ofNat oo)), .val (.long xj), .second] [(.int (Int32.ofNat (oo + 5))), (.ref ba)])) _
    refine X0.baloadBytes hx (j := (Int32.ofNat (oo + 5))) (v := (.int (own_bt ds (oo + 5)))) (by rw [e0]; exact Ar306.1) (State.isArrayOf_alike hZ.alike Ar306.2.1) Ar306.2.2 ib306 (Hh306.at ib306 (own_byat (by omega))) (g := (mkF m 72 #[.val (.ref ba), .val (.int (Int32.ofNat oo)), .val (.long xj), .second] [(.int (Int32.ofNat (oo + 5))), (.ref ba)])) rfl rfl (hb hby d_method_5_code_72) _ ?_
    show Steps p.tables e below (s₁.setTop (mkF m 73 #[.val (.ref ba), .val (.int (Int32.ofNat oo)), .val (.long xj), .second] [(.int (own_bt ds (oo + 5)))])) _
    refine XS.lloadN X0.here hx rfl (hb hby d_method_5_code_73) rfl ?_
    show Steps p.tables e below (s₁.setTop (mkF m 74 #[.val (.ref ba), .val (.int (Int32.ofNat oo)), .val (.long xj), .second] [(.long xj), (.int (own_bt ds (oo + 5)))])) _
    refine XS.bipush X0.here hx rfl (hb hby d_method_5_code_74) ?_
    show Steps p.tables e below (s₁.setTop (mkF m 76 #[.val (.ref ba), .val (.int (Int32.ofNat oo)), .val (.long xj), .second] [(.int (16 : Int32)), (.long xj), (.int (own_bt ds (oo + 5)))])) _
    refine XS.lushr X0.here hx rfl (hb hby d_method_5_code_76) rfl ?_
    show Steps p.tables e below (s₁.setTop (mkF m 77 #[.val (.ref ba), .val (.int (Int32.ofNat oo)), .val (.long xj), .second] [(.long ((xj.toUInt64 >>> ((16 : Int32) &&& 0x3f).toInt64.toUInt64).toInt64)), (.int (own_bt ds (oo + 5)))])) _
    refine XS.l2i X0.here hx rfl (hb hby d_method_5_code_77) rfl ?_
    show Steps p.tables e below (s₁.setTop (mkF m 78 #[.val (.ref ba), .val (.int (Int32.ofNat oo)), .val (.long xj), .second] [(.int (((xj.toUInt64 >>> ((16 : Int32) &&& 0x3f).toInt64.toUInt64).toInt64).toInt32)), (.int (own_bt ds (oo + 5)))])) _
    refine XS.i2b X0.here hx rfl (hb hby d_method_5_code_78) rfl ?_
    show Steps p.tables e below (s₁.setTop (mkF m 79 #[.val (.ref ba), .val (.int (Int32.ofNat oo)), .val (.long xj), .second] [(.int ((((xj.toUInt64 >>> ((16 : Int32) &&& 0x3f).toInt64.toUInt64).toInt64).toInt32).toInt8.toInt32)), (.int (own_bt ds (oo + 5)))])) _
    refine XS.icmpNo X0.here hx rfl (hb hby d_method_5_code_79) rfl (teq (hy5 : (own_bt ds (oo + 5)) = ((((xj.toUInt64 >>> ((16 : Int32) &&& 0x3f).toInt64.toUInt64).toInt64).toInt32).toInt8.toInt32))).2 ?_
    show Steps p.tables e below (s₁.setTop (mkF m 82 #[.val (.ref ba), .val (.int (Int32.ofNat oo)), .val (.long xj), .second] [])) _
    refine XS.aloadN X0.here hx rfl (hb hby d_method_5_code_82) rfl rfl ?_
    show Steps p.tables e below (s₁.setTop (mkF m 83 #[.val (.ref ba), .val (.int (Int32.ofNat oo)), .val (.long xj), .second] [(.ref ba)])) _
    refine XS.iloadN X0.here hx rfl (hb hby d_method_5_code_83) rfl ?_
    show Steps p.tables e below (s₁.setTop (mkF m 84 #[.val (.ref ba), .val (.int (Int32.ofNat oo)), .val (.long xj), .second] [(.int (Int32.ofNat oo)), (.ref ba)])) _
    refine XS.bipush X0.here hx rfl (hb hby d_method_5_code_84) ?_
    show Steps p.tables e below (s₁.setTop (mkF m 86 #[.val (.ref ba), .val (.int (Int32.ofNat oo)), .val (.long xj), .second] [(.int (6 : Int32)), (.int (Int32.ofNat oo)), (.ref ba)])) _
    refine XS.iadd X0.here hx rfl (hb hby d_method_5_code_86) rfl ?_
    show Steps p.tables e below (s₁.setTop (mkF m 87 #[.val (.ref ba), .val (.int (Int32.ofNat oo)), .val (.long xj), .second] [(.int ((Int32.ofNat oo) + (6 : Int32))), (.ref ba)])) _
    rw [(show Int32.ofNat oo + (6 : Int32) = Int32.ofNat (oo + 6) from own_addn oo 6)]
    show Steps p.tables e below (s₁.setTop (mkF m 87 #[.val (.ref ba), .val (.int (Int32.ofNat oo)), .val (.long xj), .second] [(.int (Int32.ofNat (oo + 6))), (.ref ba)])) _
    refine X0.baloadBytes hx (j := (Int32.ofNat (oo + 6))) (v := (.int (own_bt ds (oo + 6)))) (by rw [e0]; exact Ar307.1) (State.isArrayOf_alike hZ.alike Ar307.2.1) Ar307.2.2 ib307 (Hh307.at ib307 (own_byat (by omega))) (g := (mkF m 87 #[.val (.ref ba), .val (.int (Int32.ofNat oo)), .val (.long xj), .second] [(.int (Int32.ofNat (oo + 6))), (.ref ba)])) rfl rfl (hb hby d_method_5_code_87) _ ?_
    show Steps p.tables e below (s₁.setTop (mkF m 88 #[.val (.ref ba), .val (.int (Int32.ofNat oo)), .val (.long xj), .second] [(.int (own_bt ds (oo + 6)))])) _
    refine XS.lloadN X0.here hx rfl (hb hby d_method_5_code_88) rfl ?_
    show Steps p.tables e below (s₁.setTop (mkF m 89 #[.val (.ref ba), .val (.int (Int32.ofNat oo)), .val (.long xj), .second] [(.long xj), (.int (own_bt ds (oo + 6)))])) _
    refine XS.bipush X0.here hx rfl (hb hby d_method_5_code_89) ?_
    show Steps p.tables e below (s₁.setTop (mkF m 91 #[.val (.ref ba), .val (.int (Int32.ofNat oo)), .val (.long xj), .second] [(.int (8 : Int32)), (.long xj), (.int (own_bt ds (oo + 6)))])) _
    refine XS.lushr X0.here hx rfl (hb hby d_method_5_code_91) rfl ?_
    show Steps p.tables e below (s₁.setTop (mkF m 92 #[.val (.ref ba), .val (.int (Int32.ofNat oo)), .val (.long xj), .second] [(.long ((xj.toUInt64 >>> ((8 : Int32) &&& 0x3f).toInt64.toUInt64).toInt64)), (.int (own_bt ds (oo + 6)))])) _
    refine XS.l2i X0.here hx rfl (hb hby d_method_5_code_92) rfl ?_
    show Steps p.tables e below (s₁.setTop (mkF m 93 #[.val (.ref ba), .val (.int (Int32.ofNat oo)), .val (.long xj), .second] [(.int (((xj.toUInt64 >>> ((8 : Int32) &&& 0x3f).toInt64.toUInt64).toInt64).toInt32)), (.int (own_bt ds (oo + 6)))])) _
    refine XS.i2b X0.here hx rfl (hb hby d_method_5_code_93) rfl ?_
    show Steps p.tables e below (s₁.setTop (mkF m 94 #[.val (.ref ba), .val (.int (Int32.ofNat oo)), .val (.long xj), .second] [(.int ((((xj.toUInt64 >>> ((8 : Int32) &&& 0x3f).toInt64.toUInt64).toInt64).toInt32).toInt8.toInt32)), (.int (own_bt ds (oo + 6)))])) _
    refine XS.icmpNo X0.here hx rfl (hb hby d_method_5_code_94) rfl (teq (hy6 : (own_bt ds (oo + 6)) = ((((xj.toUInt64 >>> ((8 : Int32) &&& 0x3f).toInt64.toUInt64).toInt64).toInt32).toInt8.toInt32))).2 ?_
    show Steps p.tables e below (s₁.setTop (mkF m 97 #[.val (.ref ba), .val (.int (Int32.ofNat oo)), .val (.long xj), .second] [])) _
    refine XS.aloadN X0.here hx rfl (hb hby d_method_5_code_97) rfl rfl ?_
    show Steps p.tables e below (s₁.setTop (mkF m 98 #[.val (.ref ba), .val (.int (Int32.ofNat oo)), .val (.long xj), .second] [(.ref ba)])) _
    refine XS.iloadN X0.here hx rfl (hb hby d_method_5_code_98) rfl ?_
    show Steps p.tables e below (s₁.setTop (mkF m 99 #[.val (.ref ba), .val (.int (Int32.ofNat oo)), .val (.long xj), .second] [(.int (Int32.ofNat oo)), (.ref ba)])) _
    refine XS.bipush X0.here hx rfl (hb hby d_method_5_code_99) ?_
    show Steps p.tables e below (s₁.setTop (mkF m 101 #[.val (.ref ba), .val (.int (Int32.ofNat oo)), .val (.long xj), .second] [(.int (7 : Int32)), (.int (Int32.ofNat oo)), (.ref ba)])) _
    refine XS.iadd X0.here hx rfl (hb hby d_method_5_code_101) rfl ?_
    show Steps p.tables e below (s₁.setTop (mkF m 102 #[.val (.ref ba), .val (.int (Int32.ofNat oo)), .val (.long xj), .second] [(.int ((Int32.ofNat oo) + (7 : Int32))), (.ref ba)])) _
    rw [(show Int32.ofNat oo + (7 : Int32) = Int32.ofNat (oo + 7) from own_addn oo 7)]
    show Steps p.tables e below (s₁.setTop (mkF m 102 #[.val (.ref ba), .val (.int (Int32.ofNat oo)), .val (.long xj), .second] [(.int (Int32.ofNat (oo + 7))), (.ref ba)])) _
    refine X0.baloadBytes hx (j := (Int32.ofNat (oo + 7))) (v := (.int (own_bt ds (oo + 7)))) (by rw [e0]; exact Ar308.1) (State.isArrayOf_alike hZ.alike Ar308.2.1) Ar308.2.2 ib308 (Hh308.at ib308 (own_byat (by omega))) (g := (mkF m 102 #[.val (.ref ba), .val (.int (Int32.ofNat oo)), .val (.long xj), .second] [(.int (Int32.ofNat (oo + 7))), (.ref ba)])) rfl rfl (hb hby d_method_5_code_102) _ ?_
    show Steps p.tables e below (s₁.setTop (mkF m 103 #[.val (.ref ba), .val (.int (Int32.ofNat oo)), .val (.long xj), .second] [(.int (own_bt ds (oo + 7)))])) _
    refine XS.lloadN X0.here hx rfl (hb hby d_method_5_code_103) rfl ?_
    show Steps p.tables e below (s₁.setTop (mkF m 104 #[.val (.ref ba), .val (.int (Int32.ofNat oo)), .val (.long xj), .second] [(.long xj), (.int (own_bt ds (oo + 7)))])) _
    refine XS.l2i X0.here hx rfl (hb hby d_method_5_code_104) rfl ?_
    show Steps p.tables e below (s₁.setTop (mkF m 105 #[.val (.ref ba), .val (.int (Int32.ofNat oo)), .val (.long xj), .second] [(.int (xj.toInt32)), (.int (own_bt ds (oo + 7)))])) _
    refine XS.i2b X0.here hx rfl (hb hby d_method_5_code_105) rfl ?_
    show Steps p.tables e below (s₁.setTop (mkF m 106 #[.val (.ref ba), .val (.int (Int32.ofNat oo)), .val (.long xj), .second] [(.int ((xj.toInt32).toInt8.toInt32)), (.int (own_bt ds (oo + 7)))])) _
    refine XS.icmpNo X0.here hx rfl (hb hby d_method_5_code_106) rfl (teq (hy7 : (own_bt ds (oo + 7)) = ((xj.toInt32).toInt8.toInt32))).2 ?_
    show Steps p.tables e below (s₁.setTop (mkF m 109 #[.val (.ref ba), .val (.int (Int32.ofNat oo)), .val (.long xj), .second] [])) _
    refine XS.iconst X0.here hx rfl (hb hby d_method_5_code_109) ?_
    show Steps p.tables e below (s₁.setTop (mkF m 110 #[.val (.ref ba), .val (.int (Int32.ofNat oo)), .val (.long xj), .second] [(.int (1 : Int32))])) _
    refine XS.goto X0.here hx rfl (pc0 := 110) (pc' := 114) rfl (hb hby d_method_5_code_110) (by decide) (by decide) ?_
    show Steps p.tables e below (s₁.setTop (mkF m 114 #[.val (.ref ba), .val (.int (Int32.ofNat oo)), .val (.long xj), .second] [(.int (1 : Int32))])) _
    exact retN X0 hx (t := .boolean) Bd.returns (by simp) (hb hby d_method_5_code_114) hr
  · show Q_same8 Z ba oo xj kb ds h0 n0 _ s₁.heap _
    rw [e0]
    exact ⟨rfl, N0, rfl⟩
theorem pd_12 : parseMethodDescriptor "([CIJI)V" = some ⟨[(.array .char), .int, .long, .int], none⟩ := by decide +kernel
theorem pd_13 : parseMethodDescriptor "([C)V" = some ⟨[(.array .char)], none⟩ := by decide +kernel
theorem pd_14 : parseMethodDescriptor "(Ljava/lang/String;)Lcom/example/lungfish/lungfish/message/MessageHash;" = some ⟨[(.object "java/lang/String")], some (.object "com/example/lungfish/lungfish/message/MessageHash")⟩ := by decide +kernel
theorem pd_15 : parseMethodDescriptor "()[B" = some ⟨[], some (.array .byte)⟩ := by decide +kernel
theorem pd_16 : parseMethodDescriptor "([BIJ)Z" = some ⟨[(.array .byte), .int, .long], some .boolean⟩ := by decide +kernel
theorem ef_11 (m : MethodId) (x0 : Int64) (x1 : Int64) (x2 : Int64) (x3 : Int64) (x4 : Int64) : entryFrame m #[(.long x0), (.long x1), (.long x2), (.long x3), (.long x4)] maxLocals = mkF m 0 #[.val (.long x0), .second, .val (.long x1), .second, .val (.long x2), .second, .val (.long x3), .second, .val (.long x4), .second, .unset, .unset] [] := by first | (simp [entryFrame, mkF, argsToLocals, Value.category, maxLocals]; done) | rfl
def Q_law (Z : State) (i0 : Int64) (i1 : Int64) (i2 : Int64) (i3 : Int64) (i4 : Int64) (G : Int32) (fm : Value) (dg : Addr) (kg : ClassId) (hf : Addr) (dl : Addr) (dt : Addr) (kdt : ClassId) (h0 : Heap) (n0 : Nat) (v : Option Value) (h : Heap) (L : List Loc) : Prop := (v = some (.int (1 : Int32))) ∧ (Fr n0 L)
set_option maxRecDepth 65536 in
set_option maxHeartbeats 40000000 in
theorem rm_law (l : Launch) (Z : State) (a0 : Array Value) (hw : ∀ d ∈ tables_1, d.before a0 Z = true) (ws : List Jvm.Cond) (i0 : Int64) (i1 : Int64) (i2 : Int64) (i3 : Int64) (i4 : Int64) (G : Int32) (fm : Value) (dg : Addr) (kg : ClassId) (hf : Addr) (dl : Addr) (dt : Addr) (kdt : ClassId) (h0 : Heap) (n0 : Nat) (Z0 : n0 ≤ h0.size) (q0 : Sta Z Z.heap "java/lang/String" "COMPACT_STRINGS" "Z" (.int G)) (hCS : ¬ (G = (0 : Int32))) (q2 : Sta Z Z.heap "jdk/internal/util/Preconditions" "SIOOBE_FORMATTER" "Ljava/util/function/BiFunction;" fm) (hFM : fm.isRef = true) (q4 : Sta Z Z.heap "java/util/HexFormat" "DIGITS" "[B" (.ref dg)) (q5 : Arv Z Z.heap dg kg .byte (256 : Int32) (own_D.map Value.int) (.int (0 : Int32))) (q6 : Sta Z Z.heap "com/example/lungfish/lungfish/message/MessageHash" "HEX" "Ljava/util/HexFormat;" (.ref hf)) (q7 : Exa Z Z.heap hf "java/util/HexFormat") (q8 : Fld Z Z.heap hf "java/util/HexFormat" "delimiter" "Ljava/lang/String;" (.ref dl)) (q9 : Fld Z Z.heap hf "java/util/HexFormat" "prefix" "Ljava/lang/String;" (.ref dl)) (q10 : Fld Z Z.heap hf "java/util/HexFormat" "suffix" "Ljava/lang/String;" (.ref dl)) (q11 : Exa Z Z.heap dl "java/lang/String") (q12 : Fld Z Z.heap dl "java/lang/String" "value" "[B" (.ref dt)) (q13 : Arv Z Z.heap dt kdt .byte (0 : Int32) [] (.int 0)) (q14 : Old Z n0 h0) :
    MetFree l x (head1 (Jvm.Cond.code x code maxLocals ret :: ws) room_1) (fun a₁ U₁ => a₁ = #[(.long i0), (.long i1), (.long i2), (.long i3), (.long i4)] ∧ Z.Warmed39 U₁.vm ∧ U₁.heap = h0) (fun _ _ _ _ _ => True) (fun _ U₁ o₁ U₂ => ∃ v₁ L₁, o₁ = .returned v₁ ∧ Q_law Z i0 i1 i2 i3 i4 G fm dg kg hf dl dt kdt h0 n0 v₁ U₂.heap L₁ ∧ ReturnedEndW U₁ o₁ U₂ L₁ room_1.cells room_1.slots) := by
  refine MetFree.of_bodySF (plainFor_of_name pn_0) hisR ?_
  intro p e s m args below meth c s₁ Bd hml0 hP hK
  obtain ⟨rfl, hZ, hh⟩ := hP
  have hx := Bd.exec
  have hby := Bd.bytes
  have hml : c.maxLocals = 12 := hml0
  have hown : s.vm.findClass "com/example/lungfish/lungfish/message/MessageHashParsePinLaw" = some m.cls := findClass_of_methodNamed Bd.named
  have hnm := (name_of_methodNamed Bd.named Bd.method).1
  have X0 : Stand p l e room_1 (s.setVm s.vm) m #[(.long i0), (.long i1), (.long i2), (.long i3), (.long i4)] below meth c s₁ [] 0 0 := Stand.of_body Bd
  have e0 : s₁.heap = h0 := by rw [← hh, Bd.state]; rfl
  have N0 := Fr.nil n0
  have hZ0 : Z.Warmed39 (s.setVm s.vm).vm := hZ
  have hown0 : (s.setVm s.vm).vm.findClass "com/example/lungfish/lungfish/message/MessageHashParsePinLaw" = some m.cls := hown
  have hS0 : s.Since s.vm h0.size := (State.WarmedH.refl s).since _
  have hk0 : h0.size ≤ h0.size := Nat.le_refl _
  have pre0 : ∀ t, Steps p.tables e below (s₁.setTop (mkF m 0 #[.val (.long i0), .second, .val (.long i1), .second, .val (.long i2), .second, .val (.long i3), .second, .val (.long i4), .second, .unset, .unset] [])) t → Steps p.tables e below (s₁.setTop (entryFrame m #[(.long i0), (.long i1), (.long i2), (.long i3), (.long i4)] maxLocals)) t := fun t k => castTop (ef_11 m i0 i1 i2 i3 i4) k
  obtain ⟨T301, h301, ky301, X301, e301, E301, A301, st301⟩ := newP X0 hx hZ0 (hw _ (List.mem_of_getElem? (i := 0) rfl)) e0 (g := (mkF m 2 #[.val (.long i0), .second, .val (.long i1), .second, .val (.long i2), .second, .val (.long i3), .second, .val (.long i4), .second, .unset, .unset] [(.int (64 : Int32))])) rfl (hb hby at_2) rfl ((by decide) : ¬ ((64 : Int32) < (0 : Int32))) (cap := 64) ((by decide) : (64 : Int32).toNatClampNeg ≤ 64) (by decide) (by decide) (by decide)
  obtain ⟨b301, g301⟩ : ∃ z, z = h0.size := ⟨_, rfl⟩
  rw [← g301] at A301 st301
  have V301 : Arv Z h301 b301 ky301 .char (64 : Int32) [] (.int (0 : Int32)) := Arv.new A301 (by decide)
  have U301 : Arv Z h301 b301 ky301 .char (64 : Int32) [(.int (0 : Int32)), (.int (0 : Int32)), (.int (0 : Int32)), (.int (0 : Int32)), (.int (0 : Int32)), (.int (0 : Int32)), (.int (0 : Int32)), (.int (0 : Int32)), (.int (0 : Int32)), (.int (0 : Int32)), (.int (0 : Int32)), (.int (0 : Int32)), (.int (0 : Int32)), (.int (0 : Int32)), (.int (0 : Int32)), (.int (0 : Int32)), (.int (0 : Int32)), (.int (0 : Int32)), (.int (0 : Int32)), (.int (0 : Int32)), (.int (0 : Int32)), (.int (0 : Int32)), (.int (0 : Int32)), (.int (0 : Int32)), (.int (0 : Int32)), (.int (0 : Int32)), (.int (0 : Int32)), (.int (0 : Int32)), (.int (0 : Int32)), (.int (0 : Int32)), (.int (0 : Int32)), (.int (0 : Int32)), (.int (0 : Int32)), (.int (0 : Int32)), (.int (0 : Int32)), (.int (0 : Int32)), (.int (0 : Int32)), (.int (0 : Int32)), (.int (0 : Int32)), (.int (0 : Int32)), (.int (0 : Int32)), (.int (0 : Int32)), (.int (0 : Int32)), (.int (0 : Int32)), (.int (0 : Int32)), (.int (0 : Int32)), (.int (0 : Int32)), (.int (0 : Int32)), (.int (0 : Int32)), (.int (0 : Int32)), (.int (0 : Int32)), (.int (0 : Int32)), (.int (0 : Int32)), (.int (0 : Int32)), (.int (0 : Int32)), (.int (0 : Int32)), (.int (0 : Int32)), (.int (0 : Int32)), (.int (0 : Int32)), (.int (0 : Int32)), (.int (0 : Int32)), (.int (0 : Int32)), (.int (0 : Int32)), (.int (0 : Int32))] (.int (0 : Int32)) := V301.pad (pad_rep [] (.int (0 : Int32)) 64)
  have R302 : Arv Z h301 b301 ky301 .char (64 : Int32) ((List.replicate 64 (0 : Int32)).map Value.int) (.int (0 : Int32)) := by have q := U301; exact q
  have hlb : (List.replicate 64 (0 : Int32)).length = 64 := List.length_replicate
  have ge303 : n0 ≤ b301 := Nat.le_trans Z0 (Nat.le_trans (Nat.le_refl _) (Nat.le_of_eq g301.symm))
  obtain ⟨_, _, ⟨T304, L304, k304, n304⟩, -, X304, ⟨Lc304, hQ304, l304, y304, z304⟩, st304⟩ := Jvm.LawKit.callS X301 hx (y := (⟨"com/example/lungfish/lungfish/message/MessageHashParsePinLaw", "put16", "([CIJI)V"⟩ : MethodName)) hown0 (mvT hZ0 (hw _ (List.mem_of_getElem? (i := 2) rfl))) (mvT hZ0 (hw _ (List.mem_of_getElem? (i := 3) rfl))) (mvT hZ0 (hw _ (List.mem_of_getElem? (i := 4) rfl))) (mvT hZ0 (hw _ (List.mem_of_getElem? (i := 5) rfl))) (by decide) (backOf (W := 0) (rm_put16 l Z a0 hw [] b301 0 i0 ((i4 &&& (65535 : Int64)).toInt32) ky301 (List.replicate 64 (0 : Int32)) h301 n0 (Nat.le_trans Z0 E301.1) R302 ge303 (hlb) (by decide)) hZ0 (hw _ (List.mem_of_getElem? (i := 5) rfl)) (hw _ (List.mem_of_getElem? (i := 4) rfl)) (by decide) (by decide)) (g := (mkF m 17 #[.val (.long i0), .second, .val (.long i1), .second, .val (.long i2), .second, .val (.long i3), .second, .val (.long i4), .second, .val (.ref b301), .unset] [(.int ((i4 &&& (65535 : Int64)).toInt32)), (.long i0), (.int (0 : Int32)), (.ref b301)])) rfl (by rw [hml]; rfl) (argsL := [(.ref b301), (.int (0 : Int32)), (.long i0), (.int ((i4 &&& (65535 : Int64)).toInt32))]) (rest := []) (lenOf pd_12 rfl) rfl (by show 2 * 0 + _ ≤ _; exact Nat.le_of_eq rfl) (hb hby at_17) (fun _ _ => ⟨rfl, e301, (by decide : 1 + 0 ≤ _), (by decide : 64 + 0 ≤ _)⟩)
  dsimp only [Pt.U, Pt.locs, Pt.cells, Pt.slots] at X304 l304 y304 z304 st304 hQ304
  replace l304 := l304.symm
  replace y304 := y304.symm
  replace z304 := z304.symm
  subst l304 y304 z304
  obtain ⟨r0_304, r1_304, r2_304, r3_304, r4_304, r5_304, r6_304, r7_304, r8_304, r9_304, r10_304, r11_304, r12_304, r13_304, r14_304, r15_304, rfl, Nq304, K304, f304_0, f304_1, f304_2, f304_3, f304_4, f304_5, f304_6, f304_7, f304_8, f304_9, f304_10, f304_11, f304_12, f304_13, f304_14, f304_15, f304_16⟩ := hQ304
  have N304 := Fr.app N0 Nq304
  obtain ⟨u0_, hu0_⟩ : ∃ z : List Int32, z = (((((((((((((((((List.replicate 64 (0 : Int32)).set 0 r0_304).set (0 + 1) r1_304).set (0 + 2) r2_304).set (0 + 3) r3_304).set (0 + 4) r4_304).set (0 + 5) r5_304).set (0 + 6) r6_304).set (0 + 7) r7_304).set (0 + 8) r8_304).set (0 + 9) r9_304).set (0 + 10) r10_304).set (0 + 11) r11_304).set (0 + 12) r12_304).set (0 + 13) r13_304).set (0 + 14) r14_304).set (0 + 15) r15_304) := ⟨_, rfl⟩
  have hlu0_ : u0_.length = 64 := by rw [hu0_]; simp only [List.length_set]; exact hlb
  have R305 : Arv Z T304.heap b301 ky301 .char (64 : Int32) (u0_.map Value.int) (.int (0 : Int32)) := by have q := f304_0; rw [hu0_]; exact q
  obtain ⟨_, _, ⟨T306, L306, k306, n306⟩, -, X306, ⟨Lc306, hQ306, l306, y306, z306⟩, st306⟩ := Jvm.LawKit.callS X304 hx (y := (⟨"com/example/lungfish/lungfish/message/MessageHashParsePinLaw", "put16", "([CIJI)V"⟩ : MethodName)) hown0 (mvT hZ0 (hw _ (List.mem_of_getElem? (i := 2) rfl))) (mvT hZ0 (hw _ (List.mem_of_getElem? (i := 3) rfl))) (mvT hZ0 (hw _ (List.mem_of_getElem? (i := 4) rfl))) (mvT hZ0 (hw _ (List.mem_of_getElem? (i := 5) rfl))) (by decide) (backOf (W := 0) (rm_put16 l Z a0 hw [] b301 16 i1 ((((i4.toUInt64 >>> ((16 : Int32) &&& 0x3f).toInt64.toUInt64).toInt64) &&& (65535 : Int64)).toInt32) ky301 u0_ T304.heap n0 (Nat.le_trans Z0 (Nat.le_trans E301.1 K304.1)) R305 ge303 (hlu0_) (by decide)) hZ0 (hw _ (List.mem_of_getElem? (i := 5) rfl)) (hw _ (List.mem_of_getElem? (i := 4) rfl)) (by decide) (by decide)) (g := (mkF m 35 #[.val (.long i0), .second, .val (.long i1), .second, .val (.long i2), .second, .val (.long i3), .second, .val (.long i4), .second, .val (.ref b301), .unset] [(.int ((((i4.toUInt64 >>> ((16 : Int32) &&& 0x3f).toInt64.toUInt64).toInt64) &&& (65535 : Int64)).toInt32)), (.long i1), (.int (16 : Int32)), (.ref b301)])) rfl (by rw [hml]; rfl) (argsL := [(.ref b301), (.int (16 : Int32)), (.long i1), (.int ((((i4.toUInt64 >>> ((16 : Int32) &&& 0x3f).toInt64.toUInt64).toInt64) &&& (65535 : Int64)).toInt32))]) (rest := []) (lenOf pd_12 rfl) rfl (by show 2 * 0 + _ ≤ _; exact Nat.le_of_eq rfl) (hb hby at_35) (fun _ _ => ⟨rfl, rfl, (by decide : 1 + 0 ≤ _), (by decide : 64 + 0 ≤ _)⟩)
  dsimp only [Pt.U, Pt.locs, Pt.cells, Pt.slots] at X306 l306 y306 z306 st306 hQ306
  replace l306 := l306.symm
  replace y306 := y306.symm
  replace z306 := z306.symm
  subst l306 y306 z306
  obtain ⟨r0_306, r1_306, r2_306, r3_306, r4_306, r5_306, r6_306, r7_306, r8_306, r9_306, r10_306, r11_306, r12_306, r13_306, r14_306, r15_306, rfl, Nq306, K306, f306_0, f306_1, f306_2, f306_3, f306_4, f306_5, f306_6, f306_7, f306_8, f306_9, f306_10, f306_11, f306_12, f306_13, f306_14, f306_15, f306_16⟩ := hQ306
  have N306 := Fr.app N304 Nq306
  obtain ⟨u1_, hu1_⟩ : ∃ z : List Int32, z = ((((((((((((((((u0_.set 16 r0_306).set (16 + 1) r1_306).set (16 + 2) r2_306).set (16 + 3) r3_306).set (16 + 4) r4_306).set (16 + 5) r5_306).set (16 + 6) r6_306).set (16 + 7) r7_306).set (16 + 8) r8_306).set (16 + 9) r9_306).set (16 + 10) r10_306).set (16 + 11) r11_306).set (16 + 12) r12_306).set (16 + 13) r13_306).set (16 + 14) r14_306).set (16 + 15) r15_306) := ⟨_, rfl⟩
  have hlu1_ : u1_.length = 64 := by rw [hu1_]; simp only [List.length_set]; exact hlu0_
  have R307 : Arv Z T306.heap b301 ky301 .char (64 : Int32) (u1_.map Value.int) (.int (0 : Int32)) := by have q := f306_0; rw [hu1_]; exact q
  obtain ⟨_, _, ⟨T308, L308, k308, n308⟩, -, X308, ⟨Lc308, hQ308, l308, y308, z308⟩, st308⟩ := Jvm.LawKit.callS X306 hx (y := (⟨"com/example/lungfish/lungfish/message/MessageHashParsePinLaw", "put16", "([CIJI)V"⟩ : MethodName)) hown0 (mvT hZ0 (hw _ (List.mem_of_getElem? (i := 2) rfl))) (mvT hZ0 (hw _ (List.mem_of_getElem? (i := 3) rfl))) (mvT hZ0 (hw _ (List.mem_of_getElem? (i := 4) rfl))) (mvT hZ0 (hw _ (List.mem_of_getElem? (i := 5) rfl))) (by decide) (backOf (W := 0) (rm_put16 l Z a0 hw [] b301 32 i2 ((((i4.toUInt64 >>> ((32 : Int32) &&& 0x3f).toInt64.toUInt64).toInt64) &&& (65535 : Int64)).toInt32) ky301 u1_ T306.heap n0 (Nat.le_trans Z0 (Nat.le_trans (Nat.le_trans E301.1 K304.1) K306.1)) R307 ge303 (hlu1_) (by decide)) hZ0 (hw _ (List.mem_of_getElem? (i := 5) rfl)) (hw _ (List.mem_of_getElem? (i := 4) rfl)) (by decide) (by decide)) (g := (mkF m 54 #[.val (.long i0), .second, .val (.long i1), .second, .val (.long i2), .second, .val (.long i3), .second, .val (.long i4), .second, .val (.ref b301), .unset] [(.int ((((i4.toUInt64 >>> ((32 : Int32) &&& 0x3f).toInt64.toUInt64).toInt64) &&& (65535 : Int64)).toInt32)), (.long i2), (.int (32 : Int32)), (.ref b301)])) rfl (by rw [hml]; rfl) (argsL := [(.ref b301), (.int (32 : Int32)), (.long i2), (.int ((((i4.toUInt64 >>> ((32 : Int32) &&& 0x3f).toInt64.toUInt64).toInt64) &&& (65535 : Int64)).toInt32))]) (rest := []) (lenOf pd_12 rfl) rfl (by show 2 * 0 + _ ≤ _; exact Nat.le_of_eq rfl) (hb hby at_54) (fun _ _ => ⟨rfl, rfl, (by decide : 1 + 0 ≤ _), (by decide : 64 + 0 ≤ _)⟩)
  dsimp only [Pt.U, Pt.locs, Pt.cells, Pt.slots] at X308 l308 y308 z308 st308 hQ308
  replace l308 := l308.symm
  replace y308 := y308.symm
  replace z308 := z308.symm
  subst l308 y308 z308
  obtain ⟨r0_308, r1_308, r2_308, r3_308, r4_308, r5_308, r6_308, r7_308, r8_308, r9_308, r10_308, r11_308, r12_308, r13_308, r14_308, r15_308, rfl, Nq308, K308, f308_0, f308_1, f308_2, f308_3, f308_4, f308_5, f308_6, f308_7, f308_8, f308_9, f308_10, f308_11, f308_12, f308_13, f308_14, f308_15, f308_16⟩ := hQ308
  have N308 := Fr.app N306 Nq308
  obtain ⟨u2_, hu2_⟩ : ∃ z : List Int32, z = ((((((((((((((((u1_.set 32 r0_308).set (32 + 1) r1_308).set (32 + 2) r2_308).set (32 + 3) r3_308).set (32 + 4) r4_308).set (32 + 5) r5_308).set (32 + 6) r6_308).set (32 + 7) r7_308).set (32 + 8) r8_308).set (32 + 9) r9_308).set (32 + 10) r10_308).set (32 + 11) r11_308).set (32 + 12) r12_308).set (32 + 13) r13_308).set (32 + 14) r14_308).set (32 + 15) r15_308) := ⟨_, rfl⟩
  have hlu2_ : u2_.length = 64 := by rw [hu2_]; simp only [List.length_set]; exact hlu1_
  have R309 : Arv Z T308.heap b301 ky301 .char (64 : Int32) (u2_.map Value.int) (.int (0 : Int32)) := by have q := f308_0; rw [hu2_]; exact q
  obtain ⟨_, _, ⟨T310, L310, k310, n310⟩, -, X310, ⟨Lc310, hQ310, l310, y310, z310⟩, st310⟩ := Jvm.LawKit.callS X308 hx (y := (⟨"com/example/lungfish/lungfish/message/MessageHashParsePinLaw", "put16", "([CIJI)V"⟩ : MethodName)) hown0 (mvT hZ0 (hw _ (List.mem_of_getElem? (i := 2) rfl))) (mvT hZ0 (hw _ (List.mem_of_getElem? (i := 3) rfl))) (mvT hZ0 (hw _ (List.mem_of_getElem? (i := 4) rfl))) (mvT hZ0 (hw _ (List.mem_of_getElem? (i := 5) rfl))) (by decide) (backOf (W := 0) (rm_put16 l Z a0 hw [] b301 48 i3 ((((i4.toUInt64 >>> ((48 : Int32) &&& 0x3f).toInt64.toUInt64).toInt64) &&& (65535 : Int64)).toInt32) ky301 u2_ T308.heap n0 (Nat.le_trans Z0 (Nat.le_trans (Nat.le_trans (Nat.le_trans E301.1 K304.1) K306.1) K308.1)) R309 ge303 (hlu2_) (by decide)) hZ0 (hw _ (List.mem_of_getElem? (i := 5) rfl)) (hw _ (List.mem_of_getElem? (i := 4) rfl)) (by decide) (by decide)) (g := (mkF m 73 #[.val (.long i0), .second, .val (.long i1), .second, .val (.long i2), .second, .val (.long i3), .second, .val (.long i4), .second, .val (.ref b301), .unset] [(.int ((((i4.toUInt64 >>> ((48 : Int32) &&& 0x3f).toInt64.toUInt64).toInt64) &&& (65535 : Int64)).toInt32)), (.long i3), (.int (48 : Int32)), (.ref b301)])) rfl (by rw [hml]; rfl) (argsL := [(.ref b301), (.int (48 : Int32)), (.long i3), (.int ((((i4.toUInt64 >>> ((48 : Int32) &&& 0x3f).toInt64.toUInt64).toInt64) &&& (65535 : Int64)).toInt32))]) (rest := []) (lenOf pd_12 rfl) rfl (by show 2 * 0 + _ ≤ _; exact Nat.le_of_eq rfl) (hb hby at_73) (fun _ _ => ⟨rfl, rfl, (by decide : 1 + 0 ≤ _), (by decide : 64 + 0 ≤ _)⟩)
  dsimp only [Pt.U, Pt.locs, Pt.cells, Pt.slots] at X310 l310 y310 z310 st310 hQ310
  replace l310 := l310.symm
  replace y310 := y310.symm
  replace z310 := z310.symm
  subst l310 y310 z310
  obtain ⟨r0_310, r1_310, r2_310, r3_310, r4_310, r5_310, r6_310, r7_310, r8_310, r9_310, r10_310, r11_310, r12_310, r13_310, r14_310, r15_310, rfl, Nq310, K310, f310_0, f310_1, f310_2, f310_3, f310_4, f310_5, f310_6, f310_7, f310_8, f310_9, f310_10, f310_11, f310_12, f310_13, f310_14, f310_15, f310_16⟩ := hQ310
  have N310 := Fr.app N308 Nq310
  obtain ⟨u3_, hu3_⟩ : ∃ z : List Int32, z = ((((((((((((((((u2_.set 48 r0_310).set (48 + 1) r1_310).set (48 + 2) r2_310).set (48 + 3) r3_310).set (48 + 4) r4_310).set (48 + 5) r5_310).set (48 + 6) r6_310).set (48 + 7) r7_310).set (48 + 8) r8_310).set (48 + 9) r9_310).set (48 + 10) r10_310).set (48 + 11) r11_310).set (48 + 12) r12_310).set (48 + 13) r13_310).set (48 + 14) r14_310).set (48 + 15) r15_310) := ⟨_, rfl⟩
  have hlu3_ : u3_.length = 64 := by rw [hu3_]; simp only [List.length_set]; exact hlu2_
  have R311 : Arv Z T310.heap b301 ky301 .char (64 : Int32) (u3_.map Value.int) (.int (0 : Int32)) := by have q := f310_0; rw [hu3_]; exact q
  obtain ⟨ds, hds⟩ : ∃ ds : List Int32, ds = ([r0_304, r1_304, r2_304, r3_304, r4_304, r5_304, r6_304, r7_304, r8_304, r9_304, r10_304, r11_304, r12_304, r13_304, r14_304, r15_304, r0_306, r1_306, r2_306, r3_306, r4_306, r5_306, r6_306, r7_306, r8_306, r9_306, r10_306, r11_306, r12_306, r13_306, r14_306, r15_306, r0_308, r1_308, r2_308, r3_308, r4_308, r5_308, r6_308, r7_308, r8_308, r9_308, r10_308, r11_308, r12_308, r13_308, r14_308, r15_308, r0_310, r1_310, r2_310, r3_310, r4_310, r5_310, r6_310, r7_310, r8_310, r9_310, r10_310, r11_310, r12_310, r13_310, r14_310, r15_310] : List Int32) := ⟨_, rfl⟩
  have R312 : Arv Z T310.heap b301 ky301 .char (64 : Int32) (ds.map Value.int) (.int (0 : Int32)) := by have q := R311; rw [hu3_, hu2_, hu1_, hu0_, own_64 r0_304 r1_304 r2_304 r3_304 r4_304 r5_304 r6_304 r7_304 r8_304 r9_304 r10_304 r11_304 r12_304 r13_304 r14_304 r15_304 r0_306 r1_306 r2_306 r3_306 r4_306 r5_306 r6_306 r7_306 r8_306 r9_306 r10_306 r11_306 r12_306 r13_306 r14_306 r15_306 r0_308 r1_308 r2_308 r3_308 r4_308 r5_308 r6_308 r7_308 r8_308 r9_308 r10_308 r11_308 r12_308 r13_308 r14_308 r15_308 r0_310 r1_310 r2_310 r3_310 r4_310 r5_310 r6_310 r7_310 r8_310 r9_310 r10_310 r11_310 r12_310 r13_310 r14_310 r15_310, ← hds] at q; exact q
  have hl : ds.length = 64 := by rw [hds]; rfl
  have hH : ∀ k, k < 64 → own_H (ds.getD k 0) (own_N [i0, i1, i2, i3] k) := by rw [hds]; exact own_all64 (P := fun k => own_H (([r0_304, r1_304, r2_304, r3_304, r4_304, r5_304, r6_304, r7_304, r8_304, r9_304, r10_304, r11_304, r12_304, r13_304, r14_304, r15_304, r0_306, r1_306, r2_306, r3_306, r4_306, r5_306, r6_306, r7_306, r8_306, r9_306, r10_306, r11_306, r12_306, r13_306, r14_306, r15_306, r0_308, r1_308, r2_308, r3_308, r4_308, r5_308, r6_308, r7_308, r8_308, r9_308, r10_308, r11_308, r12_308, r13_308, r14_308, r15_308, r0_310, r1_310, r2_310, r3_310, r4_310, r5_310, r6_310, r7_310, r8_310, r9_310, r10_310, r11_310, r12_310, r13_310, r14_310, r15_310] : List Int32).getD k 0) (own_N [i0, i1, i2, i3] k)) f304_1 f304_2 f304_3 f304_4 f304_5 f304_6 f304_7 f304_8 f304_9 f304_10 f304_11 f304_12 f304_13 f304_14 f304_15 f304_16 f306_1 f306_2 f306_3 f306_4 f306_5 f306_6 f306_7 f306_8 f306_9 f306_10 f306_11 f306_12 f306_13 f306_14 f306_15 f306_16 f308_1 f308_2 f308_3 f308_4 f308_5 f308_6 f308_7 f308_8 f308_9 f308_10 f308_11 f308_12 f308_13 f308_14 f308_15 f308_16 f310_1 f310_2 f310_3 f310_4 f310_5 f310_6 f310_7 f310_8 f310_9 f310_10 f310_11 f310_12 f310_13 f310_14 f310_15 f310_16
  have hp : ∀ c ∈ ds, ¬ c < 0 ∧ ¬ (255 : Int32) < c := own_mem (P := fun c => ¬ c < 0 ∧ ¬ (255 : Int32) < c) (fun k hk => ⟨(hH k (by omega)).2.1, (hH k (by omega)).2.2.1⟩)
  have hD : ∀ c ∈ ds, ¬ c < 0 ∧ ¬ (255 : Int32) < c ∧ ¬ own_dig c < 0 := own_mem (P := fun c => ¬ c < 0 ∧ ¬ (255 : Int32) < c ∧ ¬ own_dig c < 0) (fun k hk => ⟨(hH k (by omega)).2.1, (hH k (by omega)).2.2.1, (hH k (by omega)).2.2.2.2⟩)
  obtain ⟨T313, h313, X313, e313, E313, A313, D313, -, st313⟩ := newO X310 hx hZ0 hown0 (hw _ (List.mem_of_getElem? (i := 10) rfl)) (hw _ (List.mem_of_getElem? (i := 11) rfl)) (hw _ (List.mem_of_getElem? (i := 12) rfl)) rfl (g := (mkF m 76 #[.val (.long i0), .second, .val (.long i1), .second, .val (.long i2), .second, .val (.long i3), .second, .val (.long i4), .second, .val (.ref b301), .unset] [])) rfl (hb hby at_76) (by decide) (by decide)
  obtain ⟨b313, g313⟩ : ∃ z, z = T310.heap.size := ⟨_, rfl⟩
  rw [← g313] at A313 D313 st313
  have D313_coder : Fld Z h313 b313 "java/lang/String" "coder" "B" (.int (0 : Int32)) := D313 (Or.inr (hw _ (List.mem_of_getElem? (i := 36) rfl))) (ty := .byte) (by decide)
  have D313_value : Fld Z h313 b313 "java/lang/String" "value" "[B" .null := D313 (Or.inr (hw _ (List.mem_of_getElem? (i := 38) rfl))) (ty := (.array .byte)) (by decide)
  have c315 : Old Z n0 h313 := ((((((q14.ext E301).keep K304 (allS ge303 all0)).keep K306 (allS ge303 all0)).keep K308 (allS ge303 all0)).keep K310 (allS ge303 all0)).ext E313)
  have c316 : Arv Z h313 b301 ky301 .char (64 : Int32) (ds.map Value.int) (.int (0 : Int32)) := (R312.ext E313)
  have ge317 : n0 ≤ b313 := Nat.le_trans Z0 (Nat.le_trans (Nat.le_trans (Nat.le_trans (Nat.le_trans (Nat.le_trans E301.1 K304.1) K306.1) K308.1) K310.1) (Nat.le_of_eq g313.symm))
  obtain ⟨_, _, ⟨T314, L314, k314, n314⟩, -, X314, ⟨Lc314, hQ314, l314, y314, z314⟩, st314⟩ := X313.specialBack hx (y := (⟨"java/lang/String", "<init>", "([C)V"⟩ : MethodName)) rfl hown0 (mvT hZ0 (hw _ (List.mem_of_getElem? (i := 13) rfl))) (mvT hZ0 (hw _ (List.mem_of_getElem? (i := 14) rfl))) (mvT hZ0 (hw _ (List.mem_of_getElem? (i := 15) rfl))) (by decide) (StrChars.Road.backV (W := 1) hZ0 (own_hw_backV hw) (kI := 4) (hw _ (List.mem_of_getElem? (i := 11) rfl)) (cs := ds) (bs := (ds).map (fun c => c.toInt8.toInt32)) (n := 64) ge317 (Nat.le_trans Z0 (Nat.le_trans (Nat.le_trans (Nat.le_trans (Nat.le_trans (Nat.le_trans E301.1 K304.1) K306.1) K308.1) K310.1) E313.1)) A313 D313_value D313_coder c316 (q0.ext c315.2) hCS hl rfl (by decide) (by decide) hp rfl (by decide) (by decide)) (g := (mkF m 82 #[.val (.long i0), .second, .val (.long i1), .second, .val (.long i2), .second, .val (.long i3), .second, .val (.long i4), .second, .val (.ref b301), .unset] [(.ref b301), (.ref b313), (.ref b313)])) rfl (by rw [hml]; rfl) (Steps.refl _) (a := b313) (argsL := [(.ref b301)]) (rest := [(.ref b313)]) (lenOf pd_13 rfl) rfl (by show 2 * 0 + _ ≤ _; exact Nat.le_of_eq rfl) (hb hby at_82) (fun _ _ => ⟨rfl, e313, (by decide : 2 + 1 ≤ _), (by decide : 68 + 64 ≤ _)⟩)
  dsimp only [Pt.U, Pt.locs, Pt.cells, Pt.slots] at X314 l314 y314 z314 st314 hQ314
  replace l314 := l314.symm
  replace y314 := y314.symm
  replace z314 := z314.symm
  subst l314 y314 z314
  obtain ⟨rfl, Nq314, K314, fE314, fC314, t314, kb314, gt314, sz314, nt314, fV314, fA314⟩ := hQ314
  have N314 := Fr.app N310 Nq314
  have hcd314 : StrChars.Road.CodA ds 0 (64 : Int32) (((ds).map (fun c => c.toInt8.toInt32)).map Value.int) := StrChars.Road.codOf (n := 64) hl (fun c hc => (hp c hc).2)
  have c318 : Old Z n0 T314.heap := (c315.keep K314 (allS ge317 all0))
  obtain ⟨_, _, ⟨T319, L319, k319, n319⟩, -, X319', hS319', hz319', ⟨Lc319, hQ319, l319, y319, z319⟩, st319⟩ := callSS X314 hx (y := (⟨"com/example/lungfish/lungfish/message/MessageHash", "parse", "(Ljava/lang/String;)Lcom/example/lungfish/lungfish/message/MessageHash;"⟩ : MethodName)) hown0 (mvT hZ0 (hw _ (List.mem_of_getElem? (i := 39) rfl))) (mvT hZ0 (hw _ (List.mem_of_getElem? (i := 40) rfl))) (mvT hZ0 (hw _ (List.mem_of_getElem? (i := 41) rfl))) (mvT hZ0 (hw _ (List.mem_of_getElem? (i := 42) rfl))) (by decide) (backOfS (W := 0) (rm_mhp l Z a0 hw [] hf dl dt kdt b313 t314 kb314 (64 : Int32) (((ds).map (fun c => c.toInt8.toInt32)).map Value.int) ds G fm dg kg T314.heap n0 (Nat.le_trans Z0 (Nat.le_trans (Nat.le_trans (Nat.le_trans (Nat.le_trans (Nat.le_trans (Nat.le_trans E301.1 K304.1) K306.1) K308.1) K310.1) E313.1) K314.1)) q6 q0 hCS q2 hFM q4 q5 c318 fE314 fV314 fC314 fA314 (hcd314) (own_up _ hp) (by omega) (by first | assumption | decide) q7 q8 q9 q10 q11 q12 q13 (by first | assumption | decide) (by decide)) hZ0 (hw _ (List.mem_of_getElem? (i := 42) rfl)) (hw _ (List.mem_of_getElem? (i := 41) rfl)) (by decide) (by decide)) (g := (mkF m 85 #[.val (.long i0), .second, .val (.long i1), .second, .val (.long i2), .second, .val (.long i3), .second, .val (.long i4), .second, .val (.ref b301), .unset] [(.ref b313)])) rfl (by rw [hml]; rfl) (argsL := [(.ref b313)]) (rest := []) (lenOf pd_14 rfl) rfl (by show 2 * 0 + _ ≤ _; exact Nat.le_of_eq rfl) (hb hby at_85) (fun _ _ => ⟨rfl, rfl, (by decide : 3 + 4 ≤ _), (by decide : 132 + 61 ≤ _)⟩)
  dsimp only [Pt.U, Pt.locs, Pt.cells, Pt.slots] at X319' l319 y319 z319 st319 hQ319 hS319' hz319'
  replace l319 := l319.symm
  replace y319 := y319.symm
  replace z319 := z319.symm
  subst l319 y319 z319
  obtain ⟨xm_319, ba_319, kb_319, rfl, Nq319, K319, f319_0, f319_1, f319_2, f319_3, f319_4, f319_5⟩ := hQ319
  have N319 := Fr.app N314 Nq319
  obtain ⟨X319, hS319, hZ319, hown319⟩ := rebS hS0 (Nat.le_trans hk0 (Nat.le_trans (Nat.le_trans (Nat.le_trans (Nat.le_trans (Nat.le_trans (Nat.le_trans E301.1 K304.1) K306.1) K308.1) K310.1) E313.1) K314.1)) X319' hS319' hz319' hZ0 hown0
  obtain ⟨cq320, kq320, q320a, q320b, q320c⟩ := isOf hZ319 rfl f319_1
  obtain ⟨_, _, ⟨T320, L320, k320, n320⟩, -, X320, ⟨Lc320, hQ320, l320, y320, z320⟩, st320⟩ := X319.virtualBack hx (y := (⟨"com/example/lungfish/lungfish/message/MessageHash", "toByteArray", "()[B"⟩ : MethodName)) (z := (⟨"com/example/lungfish/lungfish/message/MessageHash", "toByteArray", "()[B"⟩ : MethodName)) hown319 (mvT hZ319 (hw _ (List.mem_of_getElem? (i := 146) rfl))) (mvT hZ319 (hw _ (List.mem_of_getElem? (i := 147) rfl))) (notFace_of_selects (args := #[]) (mvT hZ319 (hw _ (List.mem_of_getElem? (i := 149) rfl)))) (mvT hZ319 (hw _ (List.mem_of_getElem? (i := 149) rfl))) (mvT hZ319 (hw _ (List.mem_of_getElem? (i := 148) rfl))) (by decide) (backOf (W := 0) (rm_tba l Z a0 hw [] xm_319 ba_319 kb_319 (own_bytes ds) T319.heap n0 (Nat.le_trans Z0 (Nat.le_trans (Nat.le_trans (Nat.le_trans (Nat.le_trans (Nat.le_trans (Nat.le_trans (Nat.le_trans E301.1 K304.1) K306.1) K308.1) K310.1) E313.1) K314.1) K319.1)) f319_2 f319_4 f319_5) hZ319 (hw _ (List.mem_of_getElem? (i := 150) rfl)) (hw _ (List.mem_of_getElem? (i := 41) rfl)) (by decide) (by decide)) q320a q320c (g := (mkF m 88 #[.val (.long i0), .second, .val (.long i1), .second, .val (.long i2), .second, .val (.long i3), .second, .val (.long i4), .second, .val (.ref b301), .unset] [(.ref xm_319)])) rfl (by rw [hml]; rfl) (Steps.refl _) (argsL := []) (rest := []) (lenOf pd_15 rfl) rfl (by show 2 * 0 + _ ≤ _; exact Nat.le_of_eq rfl) (hb hby at_88) (fun _ _ => ⟨rfl, rfl, (by decide : 7 + 1 ≤ _), (by decide : 193 + 32 ≤ _)⟩)
  dsimp only [Pt.U, Pt.locs, Pt.cells, Pt.slots] at X320 l320 y320 z320 st320 hQ320
  replace l320 := l320.symm
  replace y320 := y320.symm
  replace z320 := z320.symm
  subst l320 y320 z320
  obtain ⟨ba_320, rfl, Nq320, K320, f320_0, f320_1⟩ := hQ320
  have N320 := Fr.app N319 Nq320
  obtain ⟨cl321, Ar321, -, S321, M321, -, -⟩ := id f320_1
  obtain ⟨_, _, ⟨T322, L322, k322, n322⟩, -, X322, ⟨Lc322, hQ322, l322, y322, z322⟩, st322⟩ := Jvm.LawKit.callS X320 hx (y := (⟨"com/example/lungfish/lungfish/message/MessageHashParsePinLaw", "same8", "([BIJ)Z"⟩ : MethodName)) hown319 (mvT hZ319 (hw _ (List.mem_of_getElem? (i := 160) rfl))) (mvT hZ319 (hw _ (List.mem_of_getElem? (i := 161) rfl))) (mvT hZ319 (hw _ (List.mem_of_getElem? (i := 4) rfl))) (mvT hZ319 (hw _ (List.mem_of_getElem? (i := 162) rfl))) (by decide) (backOf (W := 0) (rm_same8 l Z a0 hw [] ba_320 0 i0 kb_319 ds T320.heap n0 (Nat.le_trans Z0 (Nat.le_trans (Nat.le_trans (Nat.le_trans (Nat.le_trans (Nat.le_trans (Nat.le_trans (Nat.le_trans (Nat.le_trans E301.1 K304.1) K306.1) K308.1) K310.1) E313.1) K314.1) K319.1) K320.1)) f320_1 (by decide) (own_bk0 (x := i0) (q := 0) (hH (2 * 0) (by decide)).2.2.2.1 (hH (2 * 0 + 1) (by decide)).2.2.2.1) (own_bk1 (x := i0) (q := (0 + 1)) (hH (2 * (0 + 1)) (by decide)).2.2.2.1 (hH (2 * (0 + 1) + 1) (by decide)).2.2.2.1) (own_bk2 (x := i0) (q := (0 + 2)) (hH (2 * (0 + 2)) (by decide)).2.2.2.1 (hH (2 * (0 + 2) + 1) (by decide)).2.2.2.1) (own_bk3 (x := i0) (q := (0 + 3)) (hH (2 * (0 + 3)) (by decide)).2.2.2.1 (hH (2 * (0 + 3) + 1) (by decide)).2.2.2.1) (own_bk4 (x := i0) (q := (0 + 4)) (hH (2 * (0 + 4)) (by decide)).2.2.2.1 (hH (2 * (0 + 4) + 1) (by decide)).2.2.2.1) (own_bk5 (x := i0) (q := (0 + 5)) (hH (2 * (0 + 5)) (by decide)).2.2.2.1 (hH (2 * (0 + 5) + 1) (by decide)).2.2.2.1) (own_bk6 (x := i0) (q := (0 + 6)) (hH (2 * (0 + 6)) (by decide)).2.2.2.1 (hH (2 * (0 + 6) + 1) (by decide)).2.2.2.1) (own_bk7 (x := i0) (q := (0 + 7)) (hH (2 * (0 + 7)) (by decide)).2.2.2.1 (hH (2 * (0 + 7) + 1) (by decide)).2.2.2.1)) hZ319 (hw _ (List.mem_of_getElem? (i := 162) rfl)) (hw _ (List.mem_of_getElem? (i := 4) rfl)) (by decide) (by decide)) (g := (mkF m 107 #[.val (.long i0), .second, .val (.long i1), .second, .val (.long i2), .second, .val (.long i3), .second, .val (.long i4), .second, .val (.ref b301), .val (.ref ba_320)] [(.long i0), (.int (0 : Int32)), (.ref ba_320)])) rfl (by rw [hml]; rfl) (argsL := [(.ref ba_320), (.int (0 : Int32)), (.long i0)]) (rest := []) (lenOf pd_16 rfl) rfl (by show 2 * 0 + _ ≤ _; exact Nat.le_of_eq rfl) (hb hby at_107) (fun _ _ => ⟨rfl, rfl, (by decide : 8 + 0 ≤ _), (by decide : 225 + 0 ≤ _)⟩)
  dsimp only [Pt.U, Pt.locs, Pt.cells, Pt.slots] at X322 l322 y322 z322 st322 hQ322
  replace l322 := l322.symm
  replace y322 := y322.symm
  replace z322 := z322.symm
  subst l322 y322 z322
  obtain ⟨rfl, Nq322, e322⟩ := hQ322
  have N322 := Fr.app N320 Nq322
  obtain ⟨_, _, ⟨T323, L323, k323, n323⟩, -, X323, ⟨Lc323, hQ323, l323, y323, z323⟩, st323⟩ := Jvm.LawKit.callS X322 hx (y := (⟨"com/example/lungfish/lungfish/message/MessageHashParsePinLaw", "same8", "([BIJ)Z"⟩ : MethodName)) hown319 (mvT hZ319 (hw _ (List.mem_of_getElem? (i := 160) rfl))) (mvT hZ319 (hw _ (List.mem_of_getElem? (i := 161) rfl))) (mvT hZ319 (hw _ (List.mem_of_getElem? (i := 4) rfl))) (mvT hZ319 (hw _ (List.mem_of_getElem? (i := 162) rfl))) (by decide) (backOf (W := 0) (rm_same8 l Z a0 hw [] ba_320 8 i1 kb_319 ds T320.heap n0 (Nat.le_trans Z0 (Nat.le_trans (Nat.le_trans (Nat.le_trans (Nat.le_trans (Nat.le_trans (Nat.le_trans (Nat.le_trans (Nat.le_trans E301.1 K304.1) K306.1) K308.1) K310.1) E313.1) K314.1) K319.1) K320.1)) f320_1 (by decide) (own_bk0 (x := i1) (q := 8) (hH (2 * 8) (by decide)).2.2.2.1 (hH (2 * 8 + 1) (by decide)).2.2.2.1) (own_bk1 (x := i1) (q := (8 + 1)) (hH (2 * (8 + 1)) (by decide)).2.2.2.1 (hH (2 * (8 + 1) + 1) (by decide)).2.2.2.1) (own_bk2 (x := i1) (q := (8 + 2)) (hH (2 * (8 + 2)) (by decide)).2.2.2.1 (hH (2 * (8 + 2) + 1) (by decide)).2.2.2.1) (own_bk3 (x := i1) (q := (8 + 3)) (hH (2 * (8 + 3)) (by decide)).2.2.2.1 (hH (2 * (8 + 3) + 1) (by decide)).2.2.2.1) (own_bk4 (x := i1) (q := (8 + 4)) (hH (2 * (8 + 4)) (by decide)).2.2.2.1 (hH (2 * (8 + 4) + 1) (by decide)).2.2.2.1) (own_bk5 (x := i1) (q := (8 + 5)) (hH (2 * (8 + 5)) (by decide)).2.2.2.1 (hH (2 * (8 + 5) + 1) (by decide)).2.2.2.1) (own_bk6 (x := i1) (q := (8 + 6)) (hH (2 * (8 + 6)) (by decide)).2.2.2.1 (hH (2 * (8 + 6) + 1) (by decide)).2.2.2.1) (own_bk7 (x := i1) (q := (8 + 7)) (hH (2 * (8 + 7)) (by decide)).2.2.2.1 (hH (2 * (8 + 7) + 1) (by decide)).2.2.2.1)) hZ319 (hw _ (List.mem_of_getElem? (i := 162) rfl)) (hw _ (List.mem_of_getElem? (i := 4) rfl)) (by decide) (by decide)) (g := (mkF m 118 #[.val (.long i0), .second, .val (.long i1), .second, .val (.long i2), .second, .val (.long i3), .second, .val (.long i4), .second, .val (.ref b301), .val (.ref ba_320)] [(.long i1), (.int (8 : Int32)), (.ref ba_320)])) rfl (by rw [hml]; rfl) (argsL := [(.ref ba_320), (.int (8 : Int32)), (.long i1)]) (rest := []) (lenOf pd_16 rfl) rfl (by show 2 * 0 + _ ≤ _; exact Nat.le_of_eq rfl) (hb hby at_118) (fun _ _ => ⟨rfl, e322, (by decide : 8 + 0 ≤ _), (by decide : 225 + 0 ≤ _)⟩)
  dsimp only [Pt.U, Pt.locs, Pt.cells, Pt.slots] at X323 l323 y323 z323 st323 hQ323
  replace l323 := l323.symm
  replace y323 := y323.symm
  replace z323 := z323.symm
  subst l323 y323 z323
  obtain ⟨rfl, Nq323, e323⟩ := hQ323
  have N323 := Fr.app N322 Nq323
  obtain ⟨_, _, ⟨T324, L324, k324, n324⟩, -, X324, ⟨Lc324, hQ324, l324, y324, z324⟩, st324⟩ := Jvm.LawKit.callS X323 hx (y := (⟨"com/example/lungfish/lungfish/message/MessageHashParsePinLaw", "same8", "([BIJ)Z"⟩ : MethodName)) hown319 (mvT hZ319 (hw _ (List.mem_of_getElem? (i := 160) rfl))) (mvT hZ319 (hw _ (List.mem_of_getElem? (i := 161) rfl))) (mvT hZ319 (hw _ (List.mem_of_getElem? (i := 4) rfl))) (mvT hZ319 (hw _ (List.mem_of_getElem? (i := 162) rfl))) (by decide) (backOf (W := 0) (rm_same8 l Z a0 hw [] ba_320 16 i2 kb_319 ds T320.heap n0 (Nat.le_trans Z0 (Nat.le_trans (Nat.le_trans (Nat.le_trans (Nat.le_trans (Nat.le_trans (Nat.le_trans (Nat.le_trans (Nat.le_trans E301.1 K304.1) K306.1) K308.1) K310.1) E313.1) K314.1) K319.1) K320.1)) f320_1 (by decide) (own_bk0 (x := i2) (q := 16) (hH (2 * 16) (by decide)).2.2.2.1 (hH (2 * 16 + 1) (by decide)).2.2.2.1) (own_bk1 (x := i2) (q := (16 + 1)) (hH (2 * (16 + 1)) (by decide)).2.2.2.1 (hH (2 * (16 + 1) + 1) (by decide)).2.2.2.1) (own_bk2 (x := i2) (q := (16 + 2)) (hH (2 * (16 + 2)) (by decide)).2.2.2.1 (hH (2 * (16 + 2) + 1) (by decide)).2.2.2.1) (own_bk3 (x := i2) (q := (16 + 3)) (hH (2 * (16 + 3)) (by decide)).2.2.2.1 (hH (2 * (16 + 3) + 1) (by decide)).2.2.2.1) (own_bk4 (x := i2) (q := (16 + 4)) (hH (2 * (16 + 4)) (by decide)).2.2.2.1 (hH (2 * (16 + 4) + 1) (by decide)).2.2.2.1) (own_bk5 (x := i2) (q := (16 + 5)) (hH (2 * (16 + 5)) (by decide)).2.2.2.1 (hH (2 * (16 + 5) + 1) (by decide)).2.2.2.1) (own_bk6 (x := i2) (q := (16 + 6)) (hH (2 * (16 + 6)) (by decide)).2.2.2.1 (hH (2 * (16 + 6) + 1) (by decide)).2.2.2.1) (own_bk7 (x := i2) (q := (16 + 7)) (hH (2 * (16 + 7)) (by decide)).2.2.2.1 (hH (2 * (16 + 7) + 1) (by decide)).2.2.2.1)) hZ319 (hw _ (List.mem_of_getElem? (i := 162) rfl)) (hw _ (List.mem_of_getElem? (i := 4) rfl)) (by decide) (by decide)) (g := (mkF m 130 #[.val (.long i0), .second, .val (.long i1), .second, .val (.long i2), .second, .val (.long i3), .second, .val (.long i4), .second, .val (.ref b301), .val (.ref ba_320)] [(.long i2), (.int (16 : Int32)), (.ref ba_320)])) rfl (by rw [hml]; rfl) (argsL := [(.ref ba_320), (.int (16 : Int32)), (.long i2)]) (rest := []) (lenOf pd_16 rfl) rfl (by show 2 * 0 + _ ≤ _; exact Nat.le_of_eq rfl) (hb hby at_130) (fun _ _ => ⟨rfl, e323, (by decide : 8 + 0 ≤ _), (by decide : 225 + 0 ≤ _)⟩)
  dsimp only [Pt.U, Pt.locs, Pt.cells, Pt.slots] at X324 l324 y324 z324 st324 hQ324
  replace l324 := l324.symm
  replace y324 := y324.symm
  replace z324 := z324.symm
  subst l324 y324 z324
  obtain ⟨rfl, Nq324, e324⟩ := hQ324
  have N324 := Fr.app N323 Nq324
  obtain ⟨_, _, ⟨T325, L325, k325, n325⟩, -, X325, ⟨Lc325, hQ325, l325, y325, z325⟩, st325⟩ := Jvm.LawKit.callS X324 hx (y := (⟨"com/example/lungfish/lungfish/message/MessageHashParsePinLaw", "same8", "([BIJ)Z"⟩ : MethodName)) hown319 (mvT hZ319 (hw _ (List.mem_of_getElem? (i := 160) rfl))) (mvT hZ319 (hw _ (List.mem_of_getElem? (i := 161) rfl))) (mvT hZ319 (hw _ (List.mem_of_getElem? (i := 4) rfl))) (mvT hZ319 (hw _ (List.mem_of_getElem? (i := 162) rfl))) (by decide) (backOf (W := 0) (rm_same8 l Z a0 hw [] ba_320 24 i3 kb_319 ds T320.heap n0 (Nat.le_trans Z0 (Nat.le_trans (Nat.le_trans (Nat.le_trans (Nat.le_trans (Nat.le_trans (Nat.le_trans (Nat.le_trans (Nat.le_trans E301.1 K304.1) K306.1) K308.1) K310.1) E313.1) K314.1) K319.1) K320.1)) f320_1 (by decide) (own_bk0 (x := i3) (q := 24) (hH (2 * 24) (by decide)).2.2.2.1 (hH (2 * 24 + 1) (by decide)).2.2.2.1) (own_bk1 (x := i3) (q := (24 + 1)) (hH (2 * (24 + 1)) (by decide)).2.2.2.1 (hH (2 * (24 + 1) + 1) (by decide)).2.2.2.1) (own_bk2 (x := i3) (q := (24 + 2)) (hH (2 * (24 + 2)) (by decide)).2.2.2.1 (hH (2 * (24 + 2) + 1) (by decide)).2.2.2.1) (own_bk3 (x := i3) (q := (24 + 3)) (hH (2 * (24 + 3)) (by decide)).2.2.2.1 (hH (2 * (24 + 3) + 1) (by decide)).2.2.2.1) (own_bk4 (x := i3) (q := (24 + 4)) (hH (2 * (24 + 4)) (by decide)).2.2.2.1 (hH (2 * (24 + 4) + 1) (by decide)).2.2.2.1) (own_bk5 (x := i3) (q := (24 + 5)) (hH (2 * (24 + 5)) (by decide)).2.2.2.1 (hH (2 * (24 + 5) + 1) (by decide)).2.2.2.1) (own_bk6 (x := i3) (q := (24 + 6)) (hH (2 * (24 + 6)) (by decide)).2.2.2.1 (hH (2 * (24 + 6) + 1) (by decide)).2.2.2.1) (own_bk7 (x := i3) (q := (24 + 7)) (hH (2 * (24 + 7)) (by decide)).2.2.2.1 (hH (2 * (24 + 7) + 1) (by decide)).2.2.2.1)) hZ319 (hw _ (List.mem_of_getElem? (i := 162) rfl)) (hw _ (List.mem_of_getElem? (i := 4) rfl)) (by decide) (by decide)) (g := (mkF m 142 #[.val (.long i0), .second, .val (.long i1), .second, .val (.long i2), .second, .val (.long i3), .second, .val (.long i4), .second, .val (.ref b301), .val (.ref ba_320)] [(.long i3), (.int (24 : Int32)), (.ref ba_320)])) rfl (by rw [hml]; rfl) (argsL := [(.ref ba_320), (.int (24 : Int32)), (.long i3)]) (rest := []) (lenOf pd_16 rfl) rfl (by show 2 * 0 + _ ≤ _; exact Nat.le_of_eq rfl) (hb hby at_142) (fun _ _ => ⟨rfl, e324, (by decide : 8 + 0 ≤ _), (by decide : 225 + 0 ≤ _)⟩)
  dsimp only [Pt.U, Pt.locs, Pt.cells, Pt.slots] at X325 l325 y325 z325 st325 hQ325
  replace l325 := l325.symm
  replace y325 := y325.symm
  replace z325 := z325.symm
  subst l325 y325 z325
  obtain ⟨rfl, Nq325, e325⟩ := hQ325
  have N325 := Fr.app N324 Nq325
  obtain ⟨fs, hr, hrun, hended, hEnd⟩ := X325.leaveW hS319 (by rw [e325]; exact (Nat.le_trans (Nat.le_refl _) K320.1)) (v := some (.int (1 : Int32))) (fun h => by rw [Bd.returns] at h; cases h)
  refine ⟨_, _, pre0 _ ?_, hrun, hended, _, _, rfl, ?_, hEnd.1, hEnd.2.1, hEnd.2.2.1, hEnd.2.2.2.mono (by decide) (by decide)⟩
  · refine XS.bipush X0.here hx rfl (hb hby at_0) ?_
    show Steps p.tables e below (s₁.setTop (mkF m 2 #[.val (.long i0), .second, .val (.long i1), .second, .val (.long i2), .second, .val (.long i3), .second, .val (.long i4), .second, .unset, .unset] [(.int (64 : Int32))])) _
    refine st301 _ ?_
    show Steps p.tables e below (T301.setTop (mkF m 4 #[.val (.long i0), .second, .val (.long i1), .second, .val (.long i2), .second, .val (.long i3), .second, .val (.long i4), .second, .unset, .unset] [(.ref b301)])) _
    refine XS.astore X301.here hx rfl (hb hby at_4) rfl rfl (l' := #[.val (.long i0), .second, .val (.long i1), .second, .val (.long i2), .second, .val (.long i3), .second, .val (.long i4), .second, .val (.ref b301), .unset]) rfl ?_
    show Steps p.tables e below (T301.setTop (mkF m 6 #[.val (.long i0), .second, .val (.long i1), .second, .val (.long i2), .second, .val (.long i3), .second, .val (.long i4), .second, .val (.ref b301), .unset] [])) _
    refine XS.aload X301.here hx rfl (hb hby at_6) rfl rfl ?_
    show Steps p.tables e below (T301.setTop (mkF m 8 #[.val (.long i0), .second, .val (.long i1), .second, .val (.long i2), .second, .val (.long i3), .second, .val (.long i4), .second, .val (.ref b301), .unset] [(.ref b301)])) _
    refine XS.iconst X301.here hx rfl (hb hby at_8) ?_
    show Steps p.tables e below (T301.setTop (mkF m 9 #[.val (.long i0), .second, .val (.long i1), .second, .val (.long i2), .second, .val (.long i3), .second, .val (.long i4), .second, .val (.ref b301), .unset] [(.int (0 : Int32)), (.ref b301)])) _
    refine XS.lloadN X301.here hx rfl (hb hby at_9) rfl ?_
    show Steps p.tables e below (T301.setTop (mkF m 10 #[.val (.long i0), .second, .val (.long i1), .second, .val (.long i2), .second, .val (.long i3), .second, .val (.long i4), .second, .val (.ref b301), .unset] [(.long i0), (.int (0 : Int32)), (.ref b301)])) _
    refine XS.lload X301.here hx rfl (hb hby at_10) rfl ?_
    show Steps p.tables e below (T301.setTop (mkF m 12 #[.val (.long i0), .second, .val (.long i1), .second, .val (.long i2), .second, .val (.long i3), .second, .val (.long i4), .second, .val (.ref b301), .unset] [(.long i4), (.long i0), (.int (0 : Int32)), (.ref b301)])) _
    refine X301.ldc2Long hx hown0 (mvT hZ0 (hw _ (List.mem_of_getElem? (i := 1) rfl))) (g := (mkF m 12 #[.val (.long i0), .second, .val (.long i1), .second, .val (.long i2), .second, .val (.long i3), .second, .val (.long i4), .second, .val (.ref b301), .unset] [(.long i4), (.long i0), (.int (0 : Int32)), (.ref b301)])) rfl (hb hby at_12) _ ?_
    show Steps p.tables e below (T301.setTop (mkF m 15 #[.val (.long i0), .second, .val (.long i1), .second, .val (.long i2), .second, .val (.long i3), .second, .val (.long i4), .second, .val (.ref b301), .unset] [(.long (65535 : Int64)), (.long i4), (.long i0), (.int (0 : Int32)), (.ref b301)])) _
    refine XS.land X301.here hx rfl (hb hby at_15) rfl ?_
    show Steps p.tables e below (T301.setTop (mkF m 16 #[.val (.long i0), .second, .val (.long i1), .second, .val (.long i2), .second, .val (.long i3), .second, .val (.long i4), .second, .val (.ref b301), .unset] [(.long (i4 &&& (65535 : Int64))), (.long i0), (.int (0 : Int32)), (.ref b301)])) _
    refine XS.l2i X301.here hx rfl (hb hby at_16) rfl ?_
    show Steps p.tables e below (T301.setTop (mkF m 17 #[.val (.long i0), .second, .val (.long i1), .second, .val (.long i2), .second, .val (.long i3), .second, .val (.long i4), .second, .val (.ref b301), .unset] [(.int ((i4 &&& (65535 : Int64)).toInt32)), (.long i0), (.int (0 : Int32)), (.ref b301)])) _
    refine st304 _ ?_
    show Steps p.tables e below (T304.setTop (mkF m 20 #[.val (.long i0), .second, .val (.long i1), .second, .val (.long i2), .second, .val (.long i3), .second, .val (.long i4), .second, .val (.ref b301), .unset] [])) _
    refine XS.aload X304.here hx rfl (hb hby at_20) rfl rfl ?_
    show Steps p.tables e below (T304.setTop (mkF m 22 #[.val (.long i0), .second, .val (.long i1), .second, .val (.long i2), .second, .val (.long i3), .second, .val (.long i4), .second, .val (.ref b301), .unset] [(.ref b301)])) _
    refine XS.bipush X304.here hx rfl (hb hby at_22) ?_
    show Steps p.tables e below (T304.setTop (mkF m 24 #[.val (.long i0), .second, .val (.long i1), .second, .val (.long i2), .second, .val (.long i3), .second, .val (.long i4), .second, .val (.ref b301), .unset] [(.int (16 : Int32)), (.ref b301)])) _
    refine XS.lloadN X304.here hx rfl (hb hby at_24) rfl ?_
    show Steps p.tables e below (T304.setTop (mkF m 25 #[.val (.long i0), .second, .val (.long i1), .second, .val (.long i2), .second, .val (.long i3), .second, .val (.long i4), .second, .val (.ref b301), .unset] [(.long i1), (.int (16 : Int32)), (.ref b301)])) _
    refine XS.lload X304.here hx rfl (hb hby at_25) rfl ?_
    show Steps p.tables e below (T304.setTop (mkF m 27 #[.val (.long i0), .second, .val (.long i1), .second, .val (.long i2), .second, .val (.long i3), .second, .val (.long i4), .second, .val (.ref b301), .unset] [(.long i4), (.long i1), (.int (16 : Int32)), (.ref b301)])) _
    refine XS.bipush X304.here hx rfl (hb hby at_27) ?_
    show Steps p.tables e below (T304.setTop (mkF m 29 #[.val (.long i0), .second, .val (.long i1), .second, .val (.long i2), .second, .val (.long i3), .second, .val (.long i4), .second, .val (.ref b301), .unset] [(.int (16 : Int32)), (.long i4), (.long i1), (.int (16 : Int32)), (.ref b301)])) _
    refine XS.lushr X304.here hx rfl (hb hby at_29) rfl ?_
    show Steps p.tables e below (T304.setTop (mkF m 30 #[.val (.long i0), .second, .val (.long i1), .second, .val (.long i2), .second, .val (.long i3), .second, .val (.long i4), .second, .val (.ref b301), .unset] [(.long ((i4.toUInt64 >>> ((16 : Int32) &&& 0x3f).toInt64.toUInt64).toInt64)), (.long i1), (.int (16 : Int32)), (.ref b301)])) _
    refine X304.ldc2Long hx hown0 (mvT hZ0 (hw _ (List.mem_of_getElem? (i := 1) rfl))) (g := (mkF m 30 #[.val (.long i0), .second, .val (.long i1), .second, .val (.long i2), .second, .val (.long i3), .second, .val (.long i4), .second, .val (.ref b301), .unset] [(.long ((i4.toUInt64 >>> ((16 : Int32) &&& 0x3f).toInt64.toUInt64).toInt64)), (.long i1), (.int (16 : Int32)), (.ref b301)])) rfl (hb hby at_30) _ ?_
    show Steps p.tables e below (T304.setTop (mkF m 33 #[.val (.long i0), .second, .val (.long i1), .second, .val (.long i2), .second, .val (.long i3), .second, .val (.long i4), .second, .val (.ref b301), .unset] [(.long (65535 : Int64)), (.long ((i4.toUInt64 >>> ((16 : Int32) &&& 0x3f).toInt64.toUInt64).toInt64)), (.long i1), (.int (16 : Int32)), (.ref b301)])) _
    refine XS.land X304.here hx rfl (hb hby at_33) rfl ?_
    show Steps p.tables e below (T304.setTop (mkF m 34 #[.val (.long i0), .second, .val (.long i1), .second, .val (.long i2), .second, .val (.long i3), .second, .val (.long i4), .second, .val (.ref b301), .unset] [(.long (((i4.toUInt64 >>> ((16 : Int32) &&& 0x3f).toInt64.toUInt64).toInt64) &&& (65535 : Int64))), (.long i1), (.int (16 : Int32)), (.ref b301)])) _
    refine XS.l2i X304.here hx rfl (hb hby at_34) rfl ?_
    show Steps p.tables e below (T304.setTop (mkF m 35 #[.val (.long i0), .second, .val (.long i1), .second, .val (.long i2), .second, .val (.long i3), .second, .val (.long i4), .second, .val (.ref b301), .unset] [(.int ((((i4.toUInt64 >>> ((16 : Int32) &&& 0x3f).toInt64.toUInt64).toInt64) &&& (65535 : Int64)).toInt32)), (.long i1), (.int (16 : Int32)), (.ref b301)])) _
    refine st306 _ ?_
    show Steps p.tables e below (T306.setTop (mkF m 38 #[.val (.long i0), .second, .val (.long i1), .second, .val (.long i2), .second, .val (.long i3), .second, .val (.long i4), .second, .val (.ref b301), .unset] [])) _
    refine XS.aload X306.here hx rfl (hb hby at_38) rfl rfl ?_
    show Steps p.tables e below (T306.setTop (mkF m 40 #[.val (.long i0), .second, .val (.long i1), .second, .val (.long i2), .second, .val (.long i3), .second, .val (.long i4), .second, .val (.ref b301), .unset] [(.ref b301)])) _
    refine XS.bipush X306.here hx rfl (hb hby at_40) ?_
    show Steps p.tables e below (T306.setTop (mkF m 42 #[.val (.long i0), .second, .val (.long i1), .second, .val (.long i2), .second, .val (.long i3), .second, .val (.long i4), .second, .val (.ref b301), .unset] [(.int (32 : Int32)), (.ref b301)])) _
    refine XS.lload X306.here hx rfl (hb hby at_42) rfl ?_
    show Steps p.tables e below (T306.setTop (mkF m 44 #[.val (.long i0), .second, .val (.long i1), .second, .val (.long i2), .second, .val (.long i3), .second, .val (.long i4), .second, .val (.ref b301), .unset] [(.long i2), (.int (32 : Int32)), (.ref b301)])) _
    refine XS.lload X306.here hx rfl (hb hby at_44) rfl ?_
    show Steps p.tables e below (T306.setTop (mkF m 46 #[.val (.long i0), .second, .val (.long i1), .second, .val (.long i2), .second, .val (.long i3), .second, .val (.long i4), .second, .val (.ref b301), .unset] [(.long i4), (.long i2), (.int (32 : Int32)), (.ref b301)])) _
    refine XS.bipush X306.here hx rfl (hb hby at_46) ?_
    show Steps p.tables e below (T306.setTop (mkF m 48 #[.val (.long i0), .second, .val (.long i1), .second, .val (.long i2), .second, .val (.long i3), .second, .val (.long i4), .second, .val (.ref b301), .unset] [(.int (32 : Int32)), (.long i4), (.long i2), (.int (32 : Int32)), (.ref b301)])) _
    refine XS.lushr X306.here hx rfl (hb hby at_48) rfl ?_
    show Steps p.tables e below (T306.setTop (mkF m 49 #[.val (.long i0), .second, .val (.long i1), .second, .val (.long i2), .second, .val (.long i3), .second, .val (.long i4), .second, .val (.ref b301), .unset] [(.long ((i4.toUInt64 >>> ((32 : Int32) &&& 0x3f).toInt64.toUInt64).toInt64)), (.long i2), (.int (32 : Int32)), (.ref b301)])) _
    refine X306.ldc2Long hx hown0 (mvT hZ0 (hw _ (List.mem_of_getElem? (i := 1) rfl))) (g := (mkF m 49 #[.val (.long i0), .second, .val (.long i1), .second, .val (.long i2), .second, .val (.long i3), .second, .val (.long i4), .second, .val (.ref b301), .unset] [(.long ((i4.toUInt64 >>> ((32 : Int32) &&& 0x3f).toInt64.toUInt64).toInt64)), (.long i2), (.int (32 : Int32)), (.ref b301)])) rfl (hb hby at_49) _ ?_
    show Steps p.tables e below (T306.setTop (mkF m 52 #[.val (.long i0), .second, .val (.long i1), .second, .val (.long i2), .second, .val (.long i3), .second, .val (.long i4), .second, .val (.ref b301), .unset] [(.long (65535 : Int64)), (.long ((i4.toUInt64 >>> ((32 : Int32) &&& 0x3f).toInt64.toUInt64).toInt64)), (.long i2), (.int (32 : Int32)), (.ref b301)])) _
    refine XS.land X306.here hx rfl (hb hby at_52) rfl ?_
    show Steps p.tables e below (T306.setTop (mkF m 53 #[.val (.long i0), .second, .val (.long i1), .second, .val (.long i2), .second, .val (.long i3), .second, .val (.long i4), .second, .val (.ref b301), .unset] [(.long (((i4.toUInt64 >>> ((32 : Int32) &&& 0x3f).toInt64.toUInt64).toInt64) &&& (65535 : Int64))), (.long i2), (.int (32 : Int32)), (.ref b301)])) _
    refine XS.l2i X306.here hx rfl (hb hby at_53) rfl ?_
    show Steps p.tables e below (T306.setTop (mkF m 54 #[.val (.long i0), .second, .val (.long i1), .second, .val (.long i2), .second, .val (.long i3), .second, .val (.long i4), .second, .val (.ref b301), .unset] [(.int ((((i4.toUInt64 >>> ((32 : Int32) &&& 0x3f).toInt64.toUInt64).toInt64) &&& (65535 : Int64)).toInt32)), (.long i2), (.int (32 : Int32)), (.ref b301)])) _
    refine st308 _ ?_
    show Steps p.tables e below (T308.setTop (mkF m 57 #[.val (.long i0), .second, .val (.long i1), .second, .val (.long i2), .second, .val (.long i3), .second, .val (.long i4), .second, .val (.ref b301), .unset] [])) _
    refine XS.aload X308.here hx rfl (hb hby at_57) rfl rfl ?_
    show Steps p.tables e below (T308.setTop (mkF m 59 #[.val (.long i0), .second, .val (.long i1), .second, .val (.long i2), .second, .val (.long i3), .second, .val (.long i4), .second, .val (.ref b301), .unset] [(.ref b301)])) _
    refine XS.bipush X308.here hx rfl (hb hby at_59) ?_
    show Steps p.tables e below (T308.setTop (mkF m 61 #[.val (.long i0), .second, .val (.long i1), .second, .val (.long i2), .second, .val (.long i3), .second, .val (.long i4), .second, .val (.ref b301), .unset] [(.int (48 : Int32)), (.ref b301)])) _
    refine XS.lload X308.here hx rfl (hb hby at_61) rfl ?_
    show Steps p.tables e below (T308.setTop (mkF m 63 #[.val (.long i0), .second, .val (.long i1), .second, .val (.long i2), .second, .val (.long i3), .second, .val (.long i4), .second, .val (.ref b301), .unset] [(.long i3), (.int (48 : Int32)), (.ref b301)])) _
    refine XS.lload X308.here hx rfl (hb hby at_63) rfl ?_
    show Steps p.tables e below (T308.setTop (mkF m 65 #[.val (.long i0), .second, .val (.long i1), .second, .val (.long i2), .second, .val (.long i3), .second, .val (.long i4), .second, .val (.ref b301), .unset] [(.long i4), (.long i3), (.int (48 : Int32)), (.ref b301)])) _
    refine XS.bipush X308.here hx rfl (hb hby at_65) ?_
    show Steps p.tables e below (T308.setTop (mkF m 67 #[.val (.long i0), .second, .val (.long i1), .second, .val (.long i2), .second, .val (.long i3), .second, .val (.long i4), .second, .val (.ref b301), .unset] [(.int (48 : Int32)), (.long i4), (.long i3), (.int (48 : Int32)), (.ref b301)])) _
    refine XS.lushr X308.here hx rfl (hb hby at_67) rfl ?_
    show Steps p.tables e below (T308.setTop (mkF m 68 #[.val (.long i0), .second, .val (.long i1), .second, .val (.long i2), .second, .val (.long i3), .second, .val (.long i4), .second, .val (.ref b301), .unset] [(.long ((i4.toUInt64 >>> ((48 : Int32) &&& 0x3f).toInt64.toUInt64).toInt64)), (.long i3), (.int (48 : Int32)), (.ref b301)])) _
    refine X308.ldc2Long hx hown0 (mvT hZ0 (hw _ (List.mem_of_getElem? (i := 1) rfl))) (g := (mkF m 68 #[.val (.long i0), .second, .val (.long i1), .second, .val (.long i2), .second, .val (.long i3), .second, .val (.long i4), .second, .val (.ref b301), .unset] [(.long ((i4.toUInt64 >>> ((48 : Int32) &&& 0x3f).toInt64.toUInt64).toInt64)), (.long i3), (.int (48 : Int32)), (.ref b301)])) rfl (hb hby at_68) _ ?_
    show Steps p.tables e below (T308.setTop (mkF m 71 #[.val (.long i0), .second, .val (.long i1), .second, .val (.long i2), .second, .val (.long i3), .second, .val (.long i4), .second, .val (.ref b301), .unset] [(.long (65535 : Int64)), (.long ((i4.toUInt64 >>> ((48 : Int32) &&& 0x3f).toInt64.toUInt64).toInt64)), (.long i3), (.int (48 : Int32)), (.ref b301)])) _
    refine XS.land X308.here hx rfl (hb hby at_71) rfl ?_
    show Steps p.tables e below (T308.setTop (mkF m 72 #[.val (.long i0), .second, .val (.long i1), .second, .val (.long i2), .second, .val (.long i3), .second, .val (.long i4), .second, .val (.ref b301), .unset] [(.long (((i4.toUInt64 >>> ((48 : Int32) &&& 0x3f).toInt64.toUInt64).toInt64) &&& (65535 : Int64))), (.long i3), (.int (48 : Int32)), (.ref b301)])) _
    refine XS.l2i X308.here hx rfl (hb hby at_72) rfl ?_
    show Steps p.tables e below (T308.setTop (mkF m 73 #[.val (.long i0), .second, .val (.long i1), .second, .val (.long i2), .second, .val (.long i3), .second, .val (.long i4), .second, .val (.ref b301), .unset] [(.int ((((i4.toUInt64 >>> ((48 : Int32) &&& 0x3f).toInt64.toUInt64).toInt64) &&& (65535 : Int64)).toInt32)), (.long i3), (.int (48 : Int32)), (.ref b301)])) _
    refine st310 _ ?_
    show Steps p.tables e below (T310.setTop (mkF m 76 #[.val (.long i0), .second, .val (.long i1), .second, .val (.long i2), .second, .val (.long i3), .second, .val (.long i4), .second, .val (.ref b301), .unset] [])) _
    refine st313 _ ?_
    show Steps p.tables e below (T313.setTop (mkF m 79 #[.val (.long i0), .second, .val (.long i1), .second, .val (.long i2), .second, .val (.long i3), .second, .val (.long i4), .second, .val (.ref b301), .unset] [(.ref b313)])) _
    refine XS.dup X313.here hx rfl (hb hby at_79) rfl rfl ?_
    show Steps p.tables e below (T313.setTop (mkF m 80 #[.val (.long i0), .second, .val (.long i1), .second, .val (.long i2), .second, .val (.long i3), .second, .val (.long i4), .second, .val (.ref b301), .unset] [(.ref b313), (.ref b313)])) _
    refine XS.aload X313.here hx rfl (hb hby at_80) rfl rfl ?_
    show Steps p.tables e below (T313.setTop (mkF m 82 #[.val (.long i0), .second, .val (.long i1), .second, .val (.long i2), .second, .val (.long i3), .second, .val (.long i4), .second, .val (.ref b301), .unset] [(.ref b301), (.ref b313), (.ref b313)])) _
    refine st314.trans ?_
    show Steps p.tables e below (T314.setTop (mkF m 85 #[.val (.long i0), .second, .val (.long i1), .second, .val (.long i2), .second, .val (.long i3), .second, .val (.long i4), .second, .val (.ref b301), .unset] [(.ref b313)])) _
    refine st319.trans ?_
    show Steps p.tables e below (T319.setTop (mkF m 88 #[.val (.long i0), .second, .val (.long i1), .second, .val (.long i2), .second, .val (.long i3), .second, .val (.long i4), .second, .val (.ref b301), .unset] [(.ref xm_319)])) _
    refine st320.trans ?_
    show Steps p.tables e below (T320.setTop (mkF m 91 #[.val (.long i0), .second, .val (.long i1), .second, .val (.long i2), .second, .val (.long i3), .second, .val (.long i4), .second, .val (.ref b301), .unset] [(.ref ba_320)])) _
    refine XS.astore X320.here hx rfl (hb hby at_91) rfl rfl (l' := #[.val (.long i0), .second, .val (.long i1), .second, .val (.long i2), .second, .val (.long i3), .second, .val (.long i4), .second, .val (.ref b301), .val (.ref ba_320)]) rfl ?_
    show Steps p.tables e below (T320.setTop (mkF m 93 #[.val (.long i0), .second, .val (.long i1), .second, .val (.long i2), .second, .val (.long i3), .second, .val (.long i4), .second, .val (.ref b301), .val (.ref ba_320)] [])) _
    refine XS.aload X320.here hx rfl (hb hby at_93) rfl rfl ?_
    show Steps p.tables e below (T320.setTop (mkF m 95 #[.val (.long i0), .second, .val (.long i1), .second, .val (.long i2), .second, .val (.long i3), .second, .val (.long i4), .second, .val (.ref b301), .val (.ref ba_320)] [(.ref ba_320)])) _
    refine X320.arraylength hx Ar321.1 (State.isArrayOf_alike hZ319.alike Ar321.2.1) (g := (mkF m 95 #[.val (.long i0), .second, .val (.long i1), .second, .val (.long i2), .second, .val (.long i3), .second, .val (.long i4), .second, .val (.ref b301), .val (.ref ba_320)] [(.ref ba_320)])) rfl rfl (hb hby at_95) _ ?_
    rw [len_of S321 M321]
    show Steps p.tables e below (T320.setTop (mkF m 96 #[.val (.long i0), .second, .val (.long i1), .second, .val (.long i2), .second, .val (.long i3), .second, .val (.long i4), .second, .val (.ref b301), .val (.ref ba_320)] [(.int (32 : Int32))])) _
    refine XS.bipush X320.here hx rfl (hb hby at_96) ?_
    show Steps p.tables e below (T320.setTop (mkF m 98 #[.val (.long i0), .second, .val (.long i1), .second, .val (.long i2), .second, .val (.long i3), .second, .val (.long i4), .second, .val (.ref b301), .val (.ref ba_320)] [(.int (32 : Int32)), (.int (32 : Int32))])) _
    refine XS.icmpYes X320.here hx rfl (pc0 := 98) (pc' := 103) rfl (hb hby at_98) rfl (teq ((by decide) : (32 : Int32) = (32 : Int32))).1 (by decide) (by decide) ?_
    show Steps p.tables e below (T320.setTop (mkF m 103 #[.val (.long i0), .second, .val (.long i1), .second, .val (.long i2), .second, .val (.long i3), .second, .val (.long i4), .second, .val (.ref b301), .val (.ref ba_320)] [])) _
    refine XS.aload X320.here hx rfl (hb hby at_103) rfl rfl ?_
    show Steps p.tables e below (T320.setTop (mkF m 105 #[.val (.long i0), .second, .val (.long i1), .second, .val (.long i2), .second, .val (.long i3), .second, .val (.long i4), .second, .val (.ref b301), .val (.ref ba_320)] [(.ref ba_320)])) _
    refine XS.iconst X320.here hx rfl (hb hby at_105) ?_
    show Steps p.tables e below (T320.setTop (mkF m 106 #[.val (.long i0), .second, .val (.long i1), .second, .val (.long i2), .second, .val (.long i3), .second, .val (.long i4), .second, .val (.ref b301), .val (.ref ba_320)] [(.int (0 : Int32)), (.ref ba_320)])) _
    refine XS.lloadN X320.here hx rfl (hb hby at_106) rfl ?_
    show Steps p.tables e below (T320.setTop (mkF m 107 #[.val (.long i0), .second, .val (.long i1), .second, .val (.long i2), .second, .val (.long i3), .second, .val (.long i4), .second, .val (.ref b301), .val (.ref ba_320)] [(.long i0), (.int (0 : Int32)), (.ref ba_320)])) _
    refine st322 _ ?_
    show Steps p.tables e below (T322.setTop (mkF m 110 #[.val (.long i0), .second, .val (.long i1), .second, .val (.long i2), .second, .val (.long i3), .second, .val (.long i4), .second, .val (.ref b301), .val (.ref ba_320)] [(.int (1 : Int32))])) _
    refine XS.ifNo X322.here hx rfl (hb hby at_110) rfl ((if0 _ _).trans (feq ((by decide) : ¬ ((1 : Int32) = (0 : Int32)))).1) ?_
    show Steps p.tables e below (T322.setTop (mkF m 113 #[.val (.long i0), .second, .val (.long i1), .second, .val (.long i2), .second, .val (.long i3), .second, .val (.long i4), .second, .val (.ref b301), .val (.ref ba_320)] [])) _
    refine XS.aload X322.here hx rfl (hb hby at_113) rfl rfl ?_
    show Steps p.tables e below (T322.setTop (mkF m 115 #[.val (.long i0), .second, .val (.long i1), .second, .val (.long i2), .second, .val (.long i3), .second, .val (.long i4), .second, .val (.ref b301), .val (.ref ba_320)] [(.ref ba_320)])) _
    refine XS.bipush X322.here hx rfl (hb hby at_115) ?_
    show Steps p.tables e below (T322.setTop (mkF m 117 #[.val (.long i0), .second, .val (.long i1), .second, .val (.long i2), .second, .val (.long i3), .second, .val (.long i4), .second, .val (.ref b301), .val (.ref ba_320)] [(.int (8 : Int32)), (.ref ba_320)])) _
    refine XS.lloadN X322.here hx rfl (hb hby at_117) rfl ?_
    show Steps p.tables e below (T322.setTop (mkF m 118 #[.val (.long i0), .second, .val (.long i1), .second, .val (.long i2), .second, .val (.long i3), .second, .val (.long i4), .second, .val (.ref b301), .val (.ref ba_320)] [(.long i1), (.int (8 : Int32)), (.ref ba_320)])) _
    refine st323 _ ?_
    show Steps p.tables e below (T323.setTop (mkF m 121 #[.val (.long i0), .second, .val (.long i1), .second, .val (.long i2), .second, .val (.long i3), .second, .val (.long i4), .second, .val (.ref b301), .val (.ref ba_320)] [(.int (1 : Int32))])) _
    refine XS.ifNo X323.here hx rfl (hb hby at_121) rfl ((if0 _ _).trans (feq ((by decide) : ¬ ((1 : Int32) = (0 : Int32)))).1) ?_
    show Steps p.tables e below (T323.setTop (mkF m 124 #[.val (.long i0), .second, .val (.long i1), .second, .val (.long i2), .second, .val (.long i3), .second, .val (.long i4), .second, .val (.ref b301), .val (.ref ba_320)] [])) _
    refine XS.aload X323.here hx rfl (hb hby at_124) rfl rfl ?_
    show Steps p.tables e below (T323.setTop (mkF m 126 #[.val (.long i0), .second, .val (.long i1), .second, .val (.long i2), .second, .val (.long i3), .second, .val (.long i4), .second, .val (.ref b301), .val (.ref ba_320)] [(.ref ba_320)])) _
    refine XS.bipush X323.here hx rfl (hb hby at_126) ?_
    show Steps p.tables e below (T323.setTop (mkF m 128 #[.val (.long i0), .second, .val (.long i1), .second, .val (.long i2), .second, .val (.long i3), .second, .val (.long i4), .second, .val (.ref b301), .val (.ref ba_320)] [(.int (16 : Int32)), (.ref ba_320)])) _
    refine XS.lload X323.here hx rfl (hb hby at_128) rfl ?_
    show Steps p.tables e below (T323.setTop (mkF m 130 #[.val (.long i0), .second, .val (.long i1), .second, .val (.long i2), .second, .val (.long i3), .second, .val (.long i4), .second, .val (.ref b301), .val (.ref ba_320)] [(.long i2), (.int (16 : Int32)), (.ref ba_320)])) _
    refine st324 _ ?_
    show Steps p.tables e below (T324.setTop (mkF m 133 #[.val (.long i0), .second, .val (.long i1), .second, .val (.long i2), .second, .val (.long i3), .second, .val (.long i4), .second, .val (.ref b301), .val (.ref ba_320)] [(.int (1 : Int32))])) _
    refine XS.ifNo X324.here hx rfl (hb hby at_133) rfl ((if0 _ _).trans (feq ((by decide) : ¬ ((1 : Int32) = (0 : Int32)))).1) ?_
    show Steps p.tables e below (T324.setTop (mkF m 136 #[.val (.long i0), .second, .val (.long i1), .second, .val (.long i2), .second, .val (.long i3), .second, .val (.long i4), .second, .val (.ref b301), .val (.ref ba_320)] [])) _
    refine XS.aload X324.here hx rfl (hb hby at_136) rfl rfl ?_
    show Steps p.tables e below (T324.setTop (mkF m 138 #[.val (.long i0), .second, .val (.long i1), .second, .val (.long i2), .second, .val (.long i3), .second, .val (.long i4), .second, .val (.ref b301), .val (.ref ba_320)] [(.ref ba_320)])) _
    refine XS.bipush X324.here hx rfl (hb hby at_138) ?_
    show Steps p.tables e below (T324.setTop (mkF m 140 #[.val (.long i0), .second, .val (.long i1), .second, .val (.long i2), .second, .val (.long i3), .second, .val (.long i4), .second, .val (.ref b301), .val (.ref ba_320)] [(.int (24 : Int32)), (.ref ba_320)])) _
    refine XS.lload X324.here hx rfl (hb hby at_140) rfl ?_
    show Steps p.tables e below (T324.setTop (mkF m 142 #[.val (.long i0), .second, .val (.long i1), .second, .val (.long i2), .second, .val (.long i3), .second, .val (.long i4), .second, .val (.ref b301), .val (.ref ba_320)] [(.long i3), (.int (24 : Int32)), (.ref ba_320)])) _
    refine st325 _ ?_
    show Steps p.tables e below (T325.setTop (mkF m 145 #[.val (.long i0), .second, .val (.long i1), .second, .val (.long i2), .second, .val (.long i3), .second, .val (.long i4), .second, .val (.ref b301), .val (.ref ba_320)] [(.int (1 : Int32))])) _
    refine XS.ifNo X325.here hx rfl (hb hby at_145) rfl ((if0 _ _).trans (feq ((by decide) : ¬ ((1 : Int32) = (0 : Int32)))).1) ?_
    show Steps p.tables e below (T325.setTop (mkF m 148 #[.val (.long i0), .second, .val (.long i1), .second, .val (.long i2), .second, .val (.long i3), .second, .val (.long i4), .second, .val (.ref b301), .val (.ref ba_320)] [])) _
    refine XS.iconst X325.here hx rfl (hb hby at_148) ?_
    show Steps p.tables e below (T325.setTop (mkF m 149 #[.val (.long i0), .second, .val (.long i1), .second, .val (.long i2), .second, .val (.long i3), .second, .val (.long i4), .second, .val (.ref b301), .val (.ref ba_320)] [(.int (1 : Int32))])) _
    refine XS.goto X325.here hx rfl (pc0 := 149) (pc' := 153) rfl (hb hby at_149) (by decide) (by decide) ?_
    show Steps p.tables e below (T325.setTop (mkF m 153 #[.val (.long i0), .second, .val (.long i1), .second, .val (.long i2), .second, .val (.long i3), .second, .val (.long i4), .second, .val (.ref b301), .val (.ref ba_320)] [(.int (1 : Int32))])) _
    exact retN X325 hx (t := .boolean) Bd.returns (by simp) (hb hby at_153) hr
  · show Q_law Z i0 i1 i2 i3 i4 G fm dg kg hf dl dt kdt h0 n0 _ T325.heap _
    rw [e325]
    exact ⟨rfl, N325⟩
set_option maxRecDepth 65536 in
set_option maxHeartbeats 40000000 in
theorem comes_1 {Post : Tables → Env → Array Value → State → Outcome → State → Prop} (hpost : ∀ tb e args s v u, (limb_1_1.after args s (.returned v) u = true ∧ limb_1_2.after args s (.returned v) u = true ∧ True) → ReturnedEndW s (.returned v) u (Jvm.fieldLocs frame_1_writes args s ++ Jvm.arrayLocs frame_1_arrays args s ++ Jvm.staticLocs frame_1_statics s) 24 1536 → Post tb e args s (.returned v) u) :
    ArmFor flags0 classFile x code maxLocals ret World_1 tables_1 room_1 Calls_1 rest_1 Pre_1 Post := by
  intro l hfl _ _ p e ha hc hk s m args below hf hA hF happ hP
  obtain ⟨hcalls, hrest, hpre⟩ := hP
  obtain ⟨-, -, -, hnamed, -, -, -, hat⟩ := (Spec.applies_iff hf).mp happ
  obtain ⟨hg, hn⟩ := and_e (Cond.before_iff.mp (show (Jvm.Cond.and given_1 narrow_1).before args s = true from hpre))
  obtain ⟨hcount, hg0⟩ := and_e hg
  obtain ⟨ha0, hg1⟩ := and_e hg0
  obtain ⟨ha1, hg2⟩ := and_e hg1
  obtain ⟨ha2, hg3⟩ := and_e hg2
  obtain ⟨ha3, hg4⟩ := and_e hg3
  obtain ⟨w0, w1, w2, w3, w4, rfl⟩ : ∃ w0 w1 w2 w3 w4 : Value, args = #[w0, w1, w2, w3, w4] := by
    have hs : args.size = 5 := by simpa [Cond.value, given_1] using hcount
    obtain ⟨L⟩ := args
    match L, hs with
    | [w0, w1, w2, w3, w4], _ => exact ⟨w0, w1, w2, w3, w4, rfl⟩
  have hw := fun d (hd : d ∈ tables_1) => atoms_spec (ws := Jvm.Cond.code x code maxLocals ret :: tables_1) hat d (List.mem_cons_of_mem _ hd)
  obtain ⟨hsets, hown0⟩ := atoms_of _ (rest_1_c_eq ▸ (show rest_1_c.before _ s = true from hrest))
  have hfit : Fit s := fun {y c} hc i hi => by
    obtain ⟨ha, rfl⟩ := Array.getElem?_eq_some_iff.mp hc
    have q := List.all_eq_true.mp ((Array.all_eq_true_iff_forall_mem.mp hF) _ (Array.getElem_mem ha)) i (List.mem_range.mpr hi)
    simpa [Array.getElem?_eq_getElem hi] using q
  obtain ⟨i0, ei0⟩ := isL_v ha0
  obtain rfl : w0 = (.long i0) := Option.some.inj ei0
  obtain ⟨i1, ei1⟩ := isL_v ha1
  obtain rfl : w1 = (.long i1) := Option.some.inj ei1
  obtain ⟨i2, ei2⟩ := isL_v ha2
  obtain rfl : w2 = (.long i2) := Option.some.inj ei2
  obtain ⟨i3, ei3⟩ := isL_v ha3
  obtain rfl : w3 = (.long i3) := Option.some.inj ei3
  obtain ⟨i4, ei4⟩ := isL_v hg4
  obtain rfl : w4 = (.long i4) := Option.some.inj ei4
  have nz0 := not_v (Cond.before_iff.mp (hsets _ (List.mem_of_getElem? (i := 2) rfl)))
  obtain ⟨G, eG⟩ := is_v (Cond.before_iff.mp (hsets _ (List.mem_of_getElem? (i := 1) rfl)))
  have SG : Sta s s.heap "java/lang/String" "COMPACT_STRINGS" "Z" (.int G) := Sta.start eG (Or.inl (hsets _ (List.mem_of_getElem? (i := 0) rfl)))
  have nz : ¬ (G = (0 : Int32)) := gotF (Cond.eq_ints eG (Term.int_eval (0))) nz0
  obtain ⟨fm, efm, hfm⟩ := isR_v (Cond.before_iff.mp (hsets _ (List.mem_of_getElem? (i := 8) rfl)))
  have SF : Sta s s.heap "jdk/internal/util/Preconditions" "SIOOBE_FORMATTER" "Ljava/util/function/BiFunction;" fm := Sta.start efm (Or.inl (hsets _ (List.mem_of_getElem? (i := 7) rfl)))
  obtain ⟨dg, edg⟩ := arr_v (Cond.before_iff.mp (hsets _ (List.mem_of_getElem? (i := 11) rfl)))
  have SDg : Sta s s.heap "java/util/HexFormat" "DIGITS" "[B" (.ref dg) := Sta.start edg (Or.inl (hsets _ (List.mem_of_getElem? (i := 10) rfl)))
  obtain ⟨cg, Ag⟩ := Arr.start edg (Cond.before_iff.mp (hsets _ (List.mem_of_getElem? (i := 11) rfl)))
  obtain ⟨g1, g2⟩ := own_len edg Ag (eqv_i (Term.int_eval (256)) (Cond.before_iff.mp (hsets _ (List.mem_of_getElem? (i := 13) rfl))))
  have HG15 : HasL cg 240 ((own_D.drop 240).map Value.int) := ⟨own_elt (j := 240) edg Ag (by decide) (by decide) (hsets _ (List.mem_of_getElem? (i := 254) rfl)), own_elt (j := 241) edg Ag (by decide) (by decide) (hsets _ (List.mem_of_getElem? (i := 255) rfl)), own_elt (j := 242) edg Ag (by decide) (by decide) (hsets _ (List.mem_of_getElem? (i := 256) rfl)), own_elt (j := 243) edg Ag (by decide) (by decide) (hsets _ (List.mem_of_getElem? (i := 257) rfl)), own_elt (j := 244) edg Ag (by decide) (by decide) (hsets _ (List.mem_of_getElem? (i := 258) rfl)), own_elt (j := 245) edg Ag (by decide) (by decide) (hsets _ (List.mem_of_getElem? (i := 259) rfl)), own_elt (j := 246) edg Ag (by decide) (by decide) (hsets _ (List.mem_of_getElem? (i := 260) rfl)), own_elt (j := 247) edg Ag (by decide) (by decide) (hsets _ (List.mem_of_getElem? (i := 261) rfl)), own_elt (j := 248) edg Ag (by decide) (by decide) (hsets _ (List.mem_of_getElem? (i := 262) rfl)), own_elt (j := 249) edg Ag (by decide) (by decide) (hsets _ (List.mem_of_getElem? (i := 263) rfl)), own_elt (j := 250) edg Ag (by decide) (by decide) (hsets _ (List.mem_of_getElem? (i := 264) rfl)), own_elt (j := 251) edg Ag (by decide) (by decide) (hsets _ (List.mem_of_getElem? (i := 265) rfl)), own_elt (j := 252) edg Ag (by decide) (by decide) (hsets _ (List.mem_of_getElem? (i := 266) rfl)), own_elt (j := 253) edg Ag (by decide) (by decide) (hsets _ (List.mem_of_getElem? (i := 267) rfl)), own_elt (j := 254) edg Ag (by decide) (by decide) (hsets _ (List.mem_of_getElem? (i := 268) rfl)), own_elt (j := 255) edg Ag (by decide) (by decide) (hsets _ (List.mem_of_getElem? (i := 269) rfl)), trivial⟩
  have HG14 : HasL cg 224 ((own_D.drop 224).map Value.int) := ⟨own_elt (j := 224) edg Ag (by decide) (by decide) (hsets _ (List.mem_of_getElem? (i := 238) rfl)), own_elt (j := 225) edg Ag (by decide) (by decide) (hsets _ (List.mem_of_getElem? (i := 239) rfl)), own_elt (j := 226) edg Ag (by decide) (by decide) (hsets _ (List.mem_of_getElem? (i := 240) rfl)), own_elt (j := 227) edg Ag (by decide) (by decide) (hsets _ (List.mem_of_getElem? (i := 241) rfl)), own_elt (j := 228) edg Ag (by decide) (by decide) (hsets _ (List.mem_of_getElem? (i := 242) rfl)), own_elt (j := 229) edg Ag (by decide) (by decide) (hsets _ (List.mem_of_getElem? (i := 243) rfl)), own_elt (j := 230) edg Ag (by decide) (by decide) (hsets _ (List.mem_of_getElem? (i := 244) rfl)), own_elt (j := 231) edg Ag (by decide) (by decide) (hsets _ (List.mem_of_getElem? (i := 245) rfl)), own_elt (j := 232) edg Ag (by decide) (by decide) (hsets _ (List.mem_of_getElem? (i := 246) rfl)), own_elt (j := 233) edg Ag (by decide) (by decide) (hsets _ (List.mem_of_getElem? (i := 247) rfl)), own_elt (j := 234) edg Ag (by decide) (by decide) (hsets _ (List.mem_of_getElem? (i := 248) rfl)), own_elt (j := 235) edg Ag (by decide) (by decide) (hsets _ (List.mem_of_getElem? (i := 249) rfl)), own_elt (j := 236) edg Ag (by decide) (by decide) (hsets _ (List.mem_of_getElem? (i := 250) rfl)), own_elt (j := 237) edg Ag (by decide) (by decide) (hsets _ (List.mem_of_getElem? (i := 251) rfl)), own_elt (j := 238) edg Ag (by decide) (by decide) (hsets _ (List.mem_of_getElem? (i := 252) rfl)), own_elt (j := 239) edg Ag (by decide) (by decide) (hsets _ (List.mem_of_getElem? (i := 253) rfl)), HG15⟩
  have HG13 : HasL cg 208 ((own_D.drop 208).map Value.int) := ⟨own_elt (j := 208) edg Ag (by decide) (by decide) (hsets _ (List.mem_of_getElem? (i := 222) rfl)), own_elt (j := 209) edg Ag (by decide) (by decide) (hsets _ (List.mem_of_getElem? (i := 223) rfl)), own_elt (j := 210) edg Ag (by decide) (by decide) (hsets _ (List.mem_of_getElem? (i := 224) rfl)), own_elt (j := 211) edg Ag (by decide) (by decide) (hsets _ (List.mem_of_getElem? (i := 225) rfl)), own_elt (j := 212) edg Ag (by decide) (by decide) (hsets _ (List.mem_of_getElem? (i := 226) rfl)), own_elt (j := 213) edg Ag (by decide) (by decide) (hsets _ (List.mem_of_getElem? (i := 227) rfl)), own_elt (j := 214) edg Ag (by decide) (by decide) (hsets _ (List.mem_of_getElem? (i := 228) rfl)), own_elt (j := 215) edg Ag (by decide) (by decide) (hsets _ (List.mem_of_getElem? (i := 229) rfl)), own_elt (j := 216) edg Ag (by decide) (by decide) (hsets _ (List.mem_of_getElem? (i := 230) rfl)), own_elt (j := 217) edg Ag (by decide) (by decide) (hsets _ (List.mem_of_getElem? (i := 231) rfl)), own_elt (j := 218) edg Ag (by decide) (by decide) (hsets _ (List.mem_of_getElem? (i := 232) rfl)), own_elt (j := 219) edg Ag (by decide) (by decide) (hsets _ (List.mem_of_getElem? (i := 233) rfl)), own_elt (j := 220) edg Ag (by decide) (by decide) (hsets _ (List.mem_of_getElem? (i := 234) rfl)), own_elt (j := 221) edg Ag (by decide) (by decide) (hsets _ (List.mem_of_getElem? (i := 235) rfl)), own_elt (j := 222) edg Ag (by decide) (by decide) (hsets _ (List.mem_of_getElem? (i := 236) rfl)), own_elt (j := 223) edg Ag (by decide) (by decide) (hsets _ (List.mem_of_getElem? (i := 237) rfl)), HG14⟩
  have HG12 : HasL cg 192 ((own_D.drop 192).map Value.int) := ⟨own_elt (j := 192) edg Ag (by decide) (by decide) (hsets _ (List.mem_of_getElem? (i := 206) rfl)), own_elt (j := 193) edg Ag (by decide) (by decide) (hsets _ (List.mem_of_getElem? (i := 207) rfl)), own_elt (j := 194) edg Ag (by decide) (by decide) (hsets _ (List.mem_of_getElem? (i := 208) rfl)), own_elt (j := 195) edg Ag (by decide) (by decide) (hsets _ (List.mem_of_getElem? (i := 209) rfl)), own_elt (j := 196) edg Ag (by decide) (by decide) (hsets _ (List.mem_of_getElem? (i := 210) rfl)), own_elt (j := 197) edg Ag (by decide) (by decide) (hsets _ (List.mem_of_getElem? (i := 211) rfl)), own_elt (j := 198) edg Ag (by decide) (by decide) (hsets _ (List.mem_of_getElem? (i := 212) rfl)), own_elt (j := 199) edg Ag (by decide) (by decide) (hsets _ (List.mem_of_getElem? (i := 213) rfl)), own_elt (j := 200) edg Ag (by decide) (by decide) (hsets _ (List.mem_of_getElem? (i := 214) rfl)), own_elt (j := 201) edg Ag (by decide) (by decide) (hsets _ (List.mem_of_getElem? (i := 215) rfl)), own_elt (j := 202) edg Ag (by decide) (by decide) (hsets _ (List.mem_of_getElem? (i := 216) rfl)), own_elt (j := 203) edg Ag (by decide) (by decide) (hsets _ (List.mem_of_getElem? (i := 217) rfl)), own_elt (j := 204) edg Ag (by decide) (by decide) (hsets _ (List.mem_of_getElem? (i := 218) rfl)), own_elt (j := 205) edg Ag (by decide) (by decide) (hsets _ (List.mem_of_getElem? (i := 219) rfl)), own_elt (j := 206) edg Ag (by decide) (by decide) (hsets _ (List.mem_of_getElem? (i := 220) rfl)), own_elt (j := 207) edg Ag (by decide) (by decide) (hsets _ (List.mem_of_getElem? (i := 221) rfl)), HG13⟩
  have HG11 : HasL cg 176 ((own_D.drop 176).map Value.int) := ⟨own_elt (j := 176) edg Ag (by decide) (by decide) (hsets _ (List.mem_of_getElem? (i := 190) rfl)), own_elt (j := 177) edg Ag (by decide) (by decide) (hsets _ (List.mem_of_getElem? (i := 191) rfl)), own_elt (j := 178) edg Ag (by decide) (by decide) (hsets _ (List.mem_of_getElem? (i := 192) rfl)), own_elt (j := 179) edg Ag (by decide) (by decide) (hsets _ (List.mem_of_getElem? (i := 193) rfl)), own_elt (j := 180) edg Ag (by decide) (by decide) (hsets _ (List.mem_of_getElem? (i := 194) rfl)), own_elt (j := 181) edg Ag (by decide) (by decide) (hsets _ (List.mem_of_getElem? (i := 195) rfl)), own_elt (j := 182) edg Ag (by decide) (by decide) (hsets _ (List.mem_of_getElem? (i := 196) rfl)), own_elt (j := 183) edg Ag (by decide) (by decide) (hsets _ (List.mem_of_getElem? (i := 197) rfl)), own_elt (j := 184) edg Ag (by decide) (by decide) (hsets _ (List.mem_of_getElem? (i := 198) rfl)), own_elt (j := 185) edg Ag (by decide) (by decide) (hsets _ (List.mem_of_getElem? (i := 199) rfl)), own_elt (j := 186) edg Ag (by decide) (by decide) (hsets _ (List.mem_of_getElem? (i := 200) rfl)), own_elt (j := 187) edg Ag (by decide) (by decide) (hsets _ (List.mem_of_getElem? (i := 201) rfl)), own_elt (j := 188) edg Ag (by decide) (by decide) (hsets _ (List.mem_of_getElem? (i := 202) rfl)), own_elt (j := 189) edg Ag (by decide) (by decide) (hsets _ (List.mem_of_getElem? (i := 203) rfl)), own_elt (j := 190) edg Ag (by decide) (by decide) (hsets _ (List.mem_of_getElem? (i := 204) rfl)), own_elt (j := 191) edg Ag (by decide) (by decide) (hsets _ (List.mem_of_getElem? (i := 205) rfl)), HG12⟩
  have HG10 : HasL cg 160 ((own_D.drop 160).map Value.int) := ⟨own_elt (j := 160) edg Ag (by decide) (by decide) (hsets _ (List.mem_of_getElem? (i := 174) rfl)), own_elt (j := 161) edg Ag (by decide) (by decide) (hsets _ (List.mem_of_getElem? (i := 175) rfl)), own_elt (j := 162) edg Ag (by decide) (by decide) (hsets _ (List.mem_of_getElem? (i := 176) rfl)), own_elt (j := 163) edg Ag (by decide) (by decide) (hsets _ (List.mem_of_getElem? (i := 177) rfl)), own_elt (j := 164) edg Ag (by decide) (by decide) (hsets _ (List.mem_of_getElem? (i := 178) rfl)), own_elt (j := 165) edg Ag (by decide) (by decide) (hsets _ (List.mem_of_getElem? (i := 179) rfl)), own_elt (j := 166) edg Ag (by decide) (by decide) (hsets _ (List.mem_of_getElem? (i := 180) rfl)), own_elt (j := 167) edg Ag (by decide) (by decide) (hsets _ (List.mem_of_getElem? (i := 181) rfl)), own_elt (j := 168) edg Ag (by decide) (by decide) (hsets _ (List.mem_of_getElem? (i := 182) rfl)), own_elt (j := 169) edg Ag (by decide) (by decide) (hsets _ (List.mem_of_getElem? (i := 183) rfl)), own_elt (j := 170) edg Ag (by decide) (by decide) (hsets _ (List.mem_of_getElem? (i := 184) rfl)), own_elt (j := 171) edg Ag (by decide) (by decide) (hsets _ (List.mem_of_getElem? (i := 185) rfl)), own_elt (j := 172) edg Ag (by decide) (by decide) (hsets _ (List.mem_of_getElem? (i := 186) rfl)), own_elt (j := 173) edg Ag (by decide) (by decide) (hsets _ (List.mem_of_getElem? (i := 187) rfl)), own_elt (j := 174) edg Ag (by decide) (by decide) (hsets _ (List.mem_of_getElem? (i := 188) rfl)), own_elt (j := 175) edg Ag (by decide) (by decide) (hsets _ (List.mem_of_getElem? (i := 189) rfl)), HG11⟩
  have HG9 : HasL cg 144 ((own_D.drop 144).map Value.int) := ⟨own_elt (j := 144) edg Ag (by decide) (by decide) (hsets _ (List.mem_of_getElem? (i := 158) rfl)), own_elt (j := 145) edg Ag (by decide) (by decide) (hsets _ (List.mem_of_getElem? (i := 159) rfl)), own_elt (j := 146) edg Ag (by decide) (by decide) (hsets _ (List.mem_of_getElem? (i := 160) rfl)), own_elt (j := 147) edg Ag (by decide) (by decide) (hsets _ (List.mem_of_getElem? (i := 161) rfl)), own_elt (j := 148) edg Ag (by decide) (by decide) (hsets _ (List.mem_of_getElem? (i := 162) rfl)), own_elt (j := 149) edg Ag (by decide) (by decide) (hsets _ (List.mem_of_getElem? (i := 163) rfl)), own_elt (j := 150) edg Ag (by decide) (by decide) (hsets _ (List.mem_of_getElem? (i := 164) rfl)), own_elt (j := 151) edg Ag (by decide) (by decide) (hsets _ (List.mem_of_getElem? (i := 165) rfl)), own_elt (j := 152) edg Ag (by decide) (by decide) (hsets _ (List.mem_of_getElem? (i := 166) rfl)), own_elt (j := 153) edg Ag (by decide) (by decide) (hsets _ (List.mem_of_getElem? (i := 167) rfl)), own_elt (j := 154) edg Ag (by decide) (by decide) (hsets _ (List.mem_of_getElem? (i := 168) rfl)), own_elt (j := 155) edg Ag (by decide) (by decide) (hsets _ (List.mem_of_getElem? (i := 169) rfl)), own_elt (j := 156) edg Ag (by decide) (by decide) (hsets _ (List.mem_of_getElem? (i := 170) rfl)), own_elt (j := 157) edg Ag (by decide) (by decide) (hsets _ (List.mem_of_getElem? (i := 171) rfl)), own_elt (j := 158) edg Ag (by decide) (by decide) (hsets _ (List.mem_of_getElem? (i := 172) rfl)), own_elt (j := 159) edg Ag (by decide) (by decide) (hsets _ (List.mem_of_getElem? (i := 173) rfl)), HG10⟩
  have HG8 : HasL cg 128 ((own_D.drop 128).map Value.int) := ⟨own_elt (j := 128) edg Ag (by decide) (by decide) (hsets _ (List.mem_of_getElem? (i := 142) rfl)), own_elt (j := 129) edg Ag (by decide) (by decide) (hsets _ (List.mem_of_getElem? (i := 143) rfl)), own_elt (j := 130) edg Ag (by decide) (by decide) (hsets _ (List.mem_of_getElem? (i := 144) rfl)), own_elt (j := 131) edg Ag (by decide) (by decide) (hsets _ (List.mem_of_getElem? (i := 145) rfl)), own_elt (j := 132) edg Ag (by decide) (by decide) (hsets _ (List.mem_of_getElem? (i := 146) rfl)), own_elt (j := 133) edg Ag (by decide) (by decide) (hsets _ (List.mem_of_getElem? (i := 147) rfl)), own_elt (j := 134) edg Ag (by decide) (by decide) (hsets _ (List.mem_of_getElem? (i := 148) rfl)), own_elt (j := 135) edg Ag (by decide) (by decide) (hsets _ (List.mem_of_getElem? (i := 149) rfl)), own_elt (j := 136) edg Ag (by decide) (by decide) (hsets _ (List.mem_of_getElem? (i := 150) rfl)), own_elt (j := 137) edg Ag (by decide) (by decide) (hsets _ (List.mem_of_getElem? (i := 151) rfl)), own_elt (j := 138) edg Ag (by decide) (by decide) (hsets _ (List.mem_of_getElem? (i := 152) rfl)), own_elt (j := 139) edg Ag (by decide) (by decide) (hsets _ (List.mem_of_getElem? (i := 153) rfl)), own_elt (j := 140) edg Ag (by decide) (by decide) (hsets _ (List.mem_of_getElem? (i := 154) rfl)), own_elt (j := 141) edg Ag (by decide) (by decide) (hsets _ (List.mem_of_getElem? (i := 155) rfl)), own_elt (j := 142) edg Ag (by decide) (by decide) (hsets _ (List.mem_of_getElem? (i := 156) rfl)), own_elt (j := 143) edg Ag (by decide) (by decide) (hsets _ (List.mem_of_getElem? (i := 157) rfl)), HG9⟩
  have HG7 : HasL cg 112 ((own_D.drop 112).map Value.int) := ⟨own_elt (j := 112) edg Ag (by decide) (by decide) (hsets _ (List.mem_of_getElem? (i := 126) rfl)), own_elt (j := 113) edg Ag (by decide) (by decide) (hsets _ (List.mem_of_getElem? (i := 127) rfl)), own_elt (j := 114) edg Ag (by decide) (by decide) (hsets _ (List.mem_of_getElem? (i := 128) rfl)), own_elt (j := 115) edg Ag (by decide) (by decide) (hsets _ (List.mem_of_getElem? (i := 129) rfl)), own_elt (j := 116) edg Ag (by decide) (by decide) (hsets _ (List.mem_of_getElem? (i := 130) rfl)), own_elt (j := 117) edg Ag (by decide) (by decide) (hsets _ (List.mem_of_getElem? (i := 131) rfl)), own_elt (j := 118) edg Ag (by decide) (by decide) (hsets _ (List.mem_of_getElem? (i := 132) rfl)), own_elt (j := 119) edg Ag (by decide) (by decide) (hsets _ (List.mem_of_getElem? (i := 133) rfl)), own_elt (j := 120) edg Ag (by decide) (by decide) (hsets _ (List.mem_of_getElem? (i := 134) rfl)), own_elt (j := 121) edg Ag (by decide) (by decide) (hsets _ (List.mem_of_getElem? (i := 135) rfl)), own_elt (j := 122) edg Ag (by decide) (by decide) (hsets _ (List.mem_of_getElem? (i := 136) rfl)), own_elt (j := 123) edg Ag (by decide) (by decide) (hsets _ (List.mem_of_getElem? (i := 137) rfl)), own_elt (j := 124) edg Ag (by decide) (by decide) (hsets _ (List.mem_of_getElem? (i := 138) rfl)), own_elt (j := 125) edg Ag (by decide) (by decide) (hsets _ (List.mem_of_getElem? (i := 139) rfl)), own_elt (j := 126) edg Ag (by decide) (by decide) (hsets _ (List.mem_of_getElem? (i := 140) rfl)), own_elt (j := 127) edg Ag (by decide) (by decide) (hsets _ (List.mem_of_getElem? (i := 141) rfl)), HG8⟩
  have HG6 : HasL cg 96 ((own_D.drop 96).map Value.int) := ⟨own_elt (j := 96) edg Ag (by decide) (by decide) (hsets _ (List.mem_of_getElem? (i := 110) rfl)), own_elt (j := 97) edg Ag (by decide) (by decide) (hsets _ (List.mem_of_getElem? (i := 111) rfl)), own_elt (j := 98) edg Ag (by decide) (by decide) (hsets _ (List.mem_of_getElem? (i := 112) rfl)), own_elt (j := 99) edg Ag (by decide) (by decide) (hsets _ (List.mem_of_getElem? (i := 113) rfl)), own_elt (j := 100) edg Ag (by decide) (by decide) (hsets _ (List.mem_of_getElem? (i := 114) rfl)), own_elt (j := 101) edg Ag (by decide) (by decide) (hsets _ (List.mem_of_getElem? (i := 115) rfl)), own_elt (j := 102) edg Ag (by decide) (by decide) (hsets _ (List.mem_of_getElem? (i := 116) rfl)), own_elt (j := 103) edg Ag (by decide) (by decide) (hsets _ (List.mem_of_getElem? (i := 117) rfl)), own_elt (j := 104) edg Ag (by decide) (by decide) (hsets _ (List.mem_of_getElem? (i := 118) rfl)), own_elt (j := 105) edg Ag (by decide) (by decide) (hsets _ (List.mem_of_getElem? (i := 119) rfl)), own_elt (j := 106) edg Ag (by decide) (by decide) (hsets _ (List.mem_of_getElem? (i := 120) rfl)), own_elt (j := 107) edg Ag (by decide) (by decide) (hsets _ (List.mem_of_getElem? (i := 121) rfl)), own_elt (j := 108) edg Ag (by decide) (by decide) (hsets _ (List.mem_of_getElem? (i := 122) rfl)), own_elt (j := 109) edg Ag (by decide) (by decide) (hsets _ (List.mem_of_getElem? (i := 123) rfl)), own_elt (j := 110) edg Ag (by decide) (by decide) (hsets _ (List.mem_of_getElem? (i := 124) rfl)), own_elt (j := 111) edg Ag (by decide) (by decide) (hsets _ (List.mem_of_getElem? (i := 125) rfl)), HG7⟩
  have HG5 : HasL cg 80 ((own_D.drop 80).map Value.int) := ⟨own_elt (j := 80) edg Ag (by decide) (by decide) (hsets _ (List.mem_of_getElem? (i := 94) rfl)), own_elt (j := 81) edg Ag (by decide) (by decide) (hsets _ (List.mem_of_getElem? (i := 95) rfl)), own_elt (j := 82) edg Ag (by decide) (by decide) (hsets _ (List.mem_of_getElem? (i := 96) rfl)), own_elt (j := 83) edg Ag (by decide) (by decide) (hsets _ (List.mem_of_getElem? (i := 97) rfl)), own_elt (j := 84) edg Ag (by decide) (by decide) (hsets _ (List.mem_of_getElem? (i := 98) rfl)), own_elt (j := 85) edg Ag (by decide) (by decide) (hsets _ (List.mem_of_getElem? (i := 99) rfl)), own_elt (j := 86) edg Ag (by decide) (by decide) (hsets _ (List.mem_of_getElem? (i := 100) rfl)), own_elt (j := 87) edg Ag (by decide) (by decide) (hsets _ (List.mem_of_getElem? (i := 101) rfl)), own_elt (j := 88) edg Ag (by decide) (by decide) (hsets _ (List.mem_of_getElem? (i := 102) rfl)), own_elt (j := 89) edg Ag (by decide) (by decide) (hsets _ (List.mem_of_getElem? (i := 103) rfl)), own_elt (j := 90) edg Ag (by decide) (by decide) (hsets _ (List.mem_of_getElem? (i := 104) rfl)), own_elt (j := 91) edg Ag (by decide) (by decide) (hsets _ (List.mem_of_getElem? (i := 105) rfl)), own_elt (j := 92) edg Ag (by decide) (by decide) (hsets _ (List.mem_of_getElem? (i := 106) rfl)), own_elt (j := 93) edg Ag (by decide) (by decide) (hsets _ (List.mem_of_getElem? (i := 107) rfl)), own_elt (j := 94) edg Ag (by decide) (by decide) (hsets _ (List.mem_of_getElem? (i := 108) rfl)), own_elt (j := 95) edg Ag (by decide) (by decide) (hsets _ (List.mem_of_getElem? (i := 109) rfl)), HG6⟩
  have HG4 : HasL cg 64 ((own_D.drop 64).map Value.int) := ⟨own_elt (j := 64) edg Ag (by decide) (by decide) (hsets _ (List.mem_of_getElem? (i := 78) rfl)), own_elt (j := 65) edg Ag (by decide) (by decide) (hsets _ (List.mem_of_getElem? (i := 79) rfl)), own_elt (j := 66) edg Ag (by decide) (by decide) (hsets _ (List.mem_of_getElem? (i := 80) rfl)), own_elt (j := 67) edg Ag (by decide) (by decide) (hsets _ (List.mem_of_getElem? (i := 81) rfl)), own_elt (j := 68) edg Ag (by decide) (by decide) (hsets _ (List.mem_of_getElem? (i := 82) rfl)), own_elt (j := 69) edg Ag (by decide) (by decide) (hsets _ (List.mem_of_getElem? (i := 83) rfl)), own_elt (j := 70) edg Ag (by decide) (by decide) (hsets _ (List.mem_of_getElem? (i := 84) rfl)), own_elt (j := 71) edg Ag (by decide) (by decide) (hsets _ (List.mem_of_getElem? (i := 85) rfl)), own_elt (j := 72) edg Ag (by decide) (by decide) (hsets _ (List.mem_of_getElem? (i := 86) rfl)), own_elt (j := 73) edg Ag (by decide) (by decide) (hsets _ (List.mem_of_getElem? (i := 87) rfl)), own_elt (j := 74) edg Ag (by decide) (by decide) (hsets _ (List.mem_of_getElem? (i := 88) rfl)), own_elt (j := 75) edg Ag (by decide) (by decide) (hsets _ (List.mem_of_getElem? (i := 89) rfl)), own_elt (j := 76) edg Ag (by decide) (by decide) (hsets _ (List.mem_of_getElem? (i := 90) rfl)), own_elt (j := 77) edg Ag (by decide) (by decide) (hsets _ (List.mem_of_getElem? (i := 91) rfl)), own_elt (j := 78) edg Ag (by decide) (by decide) (hsets _ (List.mem_of_getElem? (i := 92) rfl)), own_elt (j := 79) edg Ag (by decide) (by decide) (hsets _ (List.mem_of_getElem? (i := 93) rfl)), HG5⟩
  have HG3 : HasL cg 48 ((own_D.drop 48).map Value.int) := ⟨own_elt (j := 48) edg Ag (by decide) (by decide) (hsets _ (List.mem_of_getElem? (i := 62) rfl)), own_elt (j := 49) edg Ag (by decide) (by decide) (hsets _ (List.mem_of_getElem? (i := 63) rfl)), own_elt (j := 50) edg Ag (by decide) (by decide) (hsets _ (List.mem_of_getElem? (i := 64) rfl)), own_elt (j := 51) edg Ag (by decide) (by decide) (hsets _ (List.mem_of_getElem? (i := 65) rfl)), own_elt (j := 52) edg Ag (by decide) (by decide) (hsets _ (List.mem_of_getElem? (i := 66) rfl)), own_elt (j := 53) edg Ag (by decide) (by decide) (hsets _ (List.mem_of_getElem? (i := 67) rfl)), own_elt (j := 54) edg Ag (by decide) (by decide) (hsets _ (List.mem_of_getElem? (i := 68) rfl)), own_elt (j := 55) edg Ag (by decide) (by decide) (hsets _ (List.mem_of_getElem? (i := 69) rfl)), own_elt (j := 56) edg Ag (by decide) (by decide) (hsets _ (List.mem_of_getElem? (i := 70) rfl)), own_elt (j := 57) edg Ag (by decide) (by decide) (hsets _ (List.mem_of_getElem? (i := 71) rfl)), own_elt (j := 58) edg Ag (by decide) (by decide) (hsets _ (List.mem_of_getElem? (i := 72) rfl)), own_elt (j := 59) edg Ag (by decide) (by decide) (hsets _ (List.mem_of_getElem? (i := 73) rfl)), own_elt (j := 60) edg Ag (by decide) (by decide) (hsets _ (List.mem_of_getElem? (i := 74) rfl)), own_elt (j := 61) edg Ag (by decide) (by decide) (hsets _ (List.mem_of_getElem? (i := 75) rfl)), own_elt (j := 62) edg Ag (by decide) (by decide) (hsets _ (List.mem_of_getElem? (i := 76) rfl)), own_elt (j := 63) edg Ag (by decide) (by decide) (hsets _ (List.mem_of_getElem? (i := 77) rfl)), HG4⟩
  have HG2 : HasL cg 32 ((own_D.drop 32).map Value.int) := ⟨own_elt (j := 32) edg Ag (by decide) (by decide) (hsets _ (List.mem_of_getElem? (i := 46) rfl)), own_elt (j := 33) edg Ag (by decide) (by decide) (hsets _ (List.mem_of_getElem? (i := 47) rfl)), own_elt (j := 34) edg Ag (by decide) (by decide) (hsets _ (List.mem_of_getElem? (i := 48) rfl)), own_elt (j := 35) edg Ag (by decide) (by decide) (hsets _ (List.mem_of_getElem? (i := 49) rfl)), own_elt (j := 36) edg Ag (by decide) (by decide) (hsets _ (List.mem_of_getElem? (i := 50) rfl)), own_elt (j := 37) edg Ag (by decide) (by decide) (hsets _ (List.mem_of_getElem? (i := 51) rfl)), own_elt (j := 38) edg Ag (by decide) (by decide) (hsets _ (List.mem_of_getElem? (i := 52) rfl)), own_elt (j := 39) edg Ag (by decide) (by decide) (hsets _ (List.mem_of_getElem? (i := 53) rfl)), own_elt (j := 40) edg Ag (by decide) (by decide) (hsets _ (List.mem_of_getElem? (i := 54) rfl)), own_elt (j := 41) edg Ag (by decide) (by decide) (hsets _ (List.mem_of_getElem? (i := 55) rfl)), own_elt (j := 42) edg Ag (by decide) (by decide) (hsets _ (List.mem_of_getElem? (i := 56) rfl)), own_elt (j := 43) edg Ag (by decide) (by decide) (hsets _ (List.mem_of_getElem? (i := 57) rfl)), own_elt (j := 44) edg Ag (by decide) (by decide) (hsets _ (List.mem_of_getElem? (i := 58) rfl)), own_elt (j := 45) edg Ag (by decide) (by decide) (hsets _ (List.mem_of_getElem? (i := 59) rfl)), own_elt (j := 46) edg Ag (by decide) (by decide) (hsets _ (List.mem_of_getElem? (i := 60) rfl)), own_elt (j := 47) edg Ag (by decide) (by decide) (hsets _ (List.mem_of_getElem? (i := 61) rfl)), HG3⟩
  have HG1 : HasL cg 16 ((own_D.drop 16).map Value.int) := ⟨own_elt (j := 16) edg Ag (by decide) (by decide) (hsets _ (List.mem_of_getElem? (i := 30) rfl)), own_elt (j := 17) edg Ag (by decide) (by decide) (hsets _ (List.mem_of_getElem? (i := 31) rfl)), own_elt (j := 18) edg Ag (by decide) (by decide) (hsets _ (List.mem_of_getElem? (i := 32) rfl)), own_elt (j := 19) edg Ag (by decide) (by decide) (hsets _ (List.mem_of_getElem? (i := 33) rfl)), own_elt (j := 20) edg Ag (by decide) (by decide) (hsets _ (List.mem_of_getElem? (i := 34) rfl)), own_elt (j := 21) edg Ag (by decide) (by decide) (hsets _ (List.mem_of_getElem? (i := 35) rfl)), own_elt (j := 22) edg Ag (by decide) (by decide) (hsets _ (List.mem_of_getElem? (i := 36) rfl)), own_elt (j := 23) edg Ag (by decide) (by decide) (hsets _ (List.mem_of_getElem? (i := 37) rfl)), own_elt (j := 24) edg Ag (by decide) (by decide) (hsets _ (List.mem_of_getElem? (i := 38) rfl)), own_elt (j := 25) edg Ag (by decide) (by decide) (hsets _ (List.mem_of_getElem? (i := 39) rfl)), own_elt (j := 26) edg Ag (by decide) (by decide) (hsets _ (List.mem_of_getElem? (i := 40) rfl)), own_elt (j := 27) edg Ag (by decide) (by decide) (hsets _ (List.mem_of_getElem? (i := 41) rfl)), own_elt (j := 28) edg Ag (by decide) (by decide) (hsets _ (List.mem_of_getElem? (i := 42) rfl)), own_elt (j := 29) edg Ag (by decide) (by decide) (hsets _ (List.mem_of_getElem? (i := 43) rfl)), own_elt (j := 30) edg Ag (by decide) (by decide) (hsets _ (List.mem_of_getElem? (i := 44) rfl)), own_elt (j := 31) edg Ag (by decide) (by decide) (hsets _ (List.mem_of_getElem? (i := 45) rfl)), HG2⟩
  have HG0 : HasL cg 0 (own_D.map Value.int) := ⟨own_elt (j := 0) edg Ag (by decide) (by decide) (hsets _ (List.mem_of_getElem? (i := 14) rfl)), own_elt (j := 1) edg Ag (by decide) (by decide) (hsets _ (List.mem_of_getElem? (i := 15) rfl)), own_elt (j := 2) edg Ag (by decide) (by decide) (hsets _ (List.mem_of_getElem? (i := 16) rfl)), own_elt (j := 3) edg Ag (by decide) (by decide) (hsets _ (List.mem_of_getElem? (i := 17) rfl)), own_elt (j := 4) edg Ag (by decide) (by decide) (hsets _ (List.mem_of_getElem? (i := 18) rfl)), own_elt (j := 5) edg Ag (by decide) (by decide) (hsets _ (List.mem_of_getElem? (i := 19) rfl)), own_elt (j := 6) edg Ag (by decide) (by decide) (hsets _ (List.mem_of_getElem? (i := 20) rfl)), own_elt (j := 7) edg Ag (by decide) (by decide) (hsets _ (List.mem_of_getElem? (i := 21) rfl)), own_elt (j := 8) edg Ag (by decide) (by decide) (hsets _ (List.mem_of_getElem? (i := 22) rfl)), own_elt (j := 9) edg Ag (by decide) (by decide) (hsets _ (List.mem_of_getElem? (i := 23) rfl)), own_elt (j := 10) edg Ag (by decide) (by decide) (hsets _ (List.mem_of_getElem? (i := 24) rfl)), own_elt (j := 11) edg Ag (by decide) (by decide) (hsets _ (List.mem_of_getElem? (i := 25) rfl)), own_elt (j := 12) edg Ag (by decide) (by decide) (hsets _ (List.mem_of_getElem? (i := 26) rfl)), own_elt (j := 13) edg Ag (by decide) (by decide) (hsets _ (List.mem_of_getElem? (i := 27) rfl)), own_elt (j := 14) edg Ag (by decide) (by decide) (hsets _ (List.mem_of_getElem? (i := 28) rfl)), own_elt (j := 15) edg Ag (by decide) (by decide) (hsets _ (List.mem_of_getElem? (i := 29) rfl)), HG1⟩
  have VG : Arv s s.heap dg cg.cls .byte (256 : Int32) (own_D.map Value.int) (.int (0 : Int32)) := Arv.start hfit Ag g1 g2 (by decide) (by decide +kernel) HG0
  obtain ⟨n1, hn1⟩ := and_e hn
  obtain ⟨n2, hn2⟩ := and_e hn1
  obtain ⟨n3, hn3⟩ := and_e hn2
  obtain ⟨n4, hn4⟩ := and_e hn3
  obtain ⟨n5, n6⟩ := and_e hn4
  obtain ⟨hf_, ehf⟩ := exa_v n1
  have SHx : Sta s s.heap "com/example/lungfish/lungfish/message/MessageHash" "HEX" "Ljava/util/HexFormat;" (.ref hf_) := Sta.start ehf (Or.inr ⟨hw _ (List.mem_of_getElem? (i := 41) rfl), hw _ (List.mem_of_getElem? (i := 56) rfl)⟩)
  have XH : Exa s s.heap hf_ "java/util/HexFormat" := Exa.start ehf n1
  obtain ⟨dl, edl⟩ := exa_v n2
  have FD : Fld s s.heap hf_ "java/util/HexFormat" "delimiter" "Ljava/lang/String;" (.ref dl) := Fld.start ((fld_at ehf).symm.trans edl)
  have FP : Fld s s.heap hf_ "java/util/HexFormat" "prefix" "Ljava/lang/String;" (.ref dl) := Fld.start ((fld_at ehf).symm.trans (own_eqv_r edl n5))
  have FS : Fld s s.heap hf_ "java/util/HexFormat" "suffix" "Ljava/lang/String;" (.ref dl) := Fld.start ((fld_at ehf).symm.trans (own_eqv_r edl n6))
  have XD : Exa s s.heap dl "java/lang/String" := Exa.start edl n2
  obtain ⟨dt, edt⟩ := arr_v n3
  have FV : Fld s s.heap dl "java/lang/String" "value" "[B" (.ref dt) := Fld.start ((fld_at edl).symm.trans edt)
  obtain ⟨ct, At⟩ := Arr.start edt n3
  obtain ⟨t1, t2⟩ := own_len edt At (eqv_i (Term.int_eval (0)) n4)
  have VT : Arv s s.heap dt ct.cls .byte (0 : Int32) [] (.int 0) := Arv.start hfit At t1 t2 (by decide) rfl trivial
  obtain ⟨n, o, h1, h2, h3, _, L, rfl, ⟨rfl, N⟩, hq⟩ := rm_law l s _ hw tables_1 i0 i1 i2 i3 i4 G fm dg cg.cls hf_ dl dt ct.cls s.heap s.heap.size (Nat.le_refl _) SG nz SF hfm SDg VG SHx XH FD FP FS XD FV VT (Old.start s) p e ha hc hk s m _ below hf ((Spec.applies_iff_loose hf).mp happ).1 ⟨rfl, State.Warmed39.refl s, rfl⟩ trivial
  refine ⟨n, _, h1, h2, h3, hpost _ _ _ _ _ _ ⟨Cond.after_iff.mpr rfl, Cond.after_iff.mpr (eq_i res_at (Term.int_eval (1)) rfl), trivial⟩ ⟨hq.1, hq.2.1, hq.2.2.1, (hq.2.2.2.sift fun y hy => Or.inr (N y hy)).mono (by decide) (by decide)⟩⟩
theorem main_1_1 : Claimed_1_1 := comes_1 fun _ _ _ _ _ _ h hF => ⟨h.1, hF⟩
theorem main_1_2 : Claimed_1_2 := comes_1 fun _ _ _ _ _ _ h hF => ⟨h.2.1, hF⟩
end Jvm.Pilot.@@N@@
namespace Jvm.Pilot.@@N@@
open Jvm Jvm.ClassFile Sem Op Lib Jvm.Free Jvm.Stand Jvm.Pilot.@@N@@.Jvm.D
/-! MADE BY PROGRAM (witnessworld.py) out of the Statement's table words and the real class files: 22 classes; the members and pool entries that the words name. The judged class is class 1, her method 1. -/
namespace start1
open Jvm.ClassFile
def u (s : String) : CpInfo := .utf8 (stringToUtf16 s)
/-- a pool by its gaps: so many unusable entries, then the entry; so many at the end -/
def gap : Nat → List CpInfo → List CpInfo
  | 0, r => r
  | n + 1, r => .unusable :: gap n r
def poolList (es : List (Nat × CpInfo)) (last : Nat) : List CpInfo := es.foldr (fun e r => gap e.1 (e.2 :: r)) (gap last [])
def pool (es : List (Nat × CpInfo)) (last : Nat) : Array CpInfo := ⟨poolList es last⟩
def fileOf (pool : Array CpInfo) (this : Nat) (attrs : Array Attribute := #[]) (ms : Array MethodInfo := #[]) (fl : Nat := 33) (sup : Nat := 0) (ifs : Array Nat := #[]) (fds : Array FieldInfo := #[]) : ClassFile where
  minorVersion := 0
  majorVersion := 65
  constantPool := pool
  accessFlags := fl
  thisClass := this
  superClass := sup
  interfaces := ifs
  fields := fds
  methods := ms
  attributes := attrs
def plain (name : String) (sup : Option ClassId) : Class where
  name := name
  kind := .ordinary
  loader := none
  accessFlags := 33
  super := sup
  interfaces := #[]
  cf := none
  fields := #[]
  methods := #[]
  instanceTypes := #[]
  staticTypes := #[]
  resolved := #[]
  callSites := []
  init := .initialized
  statics := none
  mirror := none

def pool0 : Array CpInfo := pool [(5, u "<init>"), (0, u "()V"), (1, .class_ 10), (1, u "java/lang/Object"), (85, u "clone"), (0, u "()Ljava/lang/Object;")] 26

def k0c0 : Code := { maxStack := 0, maxLocals := 1, code := object_method_1_code, exceptionTable := #[], attributes := #[] }
def k0m0 : Method := { name := "<init>", desc := "()V", sig := { parameters := [], returnType := none }, accessFlags := 1, code := some k0c0 }
def k0m1 : Method := { name := "clone", desc := "()Ljava/lang/Object;", sig := { parameters := [], returnType := some (.object "java/lang/Object") }, accessFlags := 260, code := none }
/-- java/lang/Object -/
def k0 : Class := { plain "java/lang/Object" none with
  accessFlags := 33
  interfaces := #[]
  cf := some (fileOf pool0 8 #[] #[{ accessFlags := 1, nameIndex := 5, descriptorIndex := 6, attributes := #[] }, { accessFlags := 260, nameIndex := 96, descriptorIndex := 97, attributes := #[] }] 33 0 #[] #[])
  fields := #[]
  methods := #[k0m0, k0m1]
  instanceTypes := #[]
  staticTypes := #[]
  resolved := Array.replicate 124 none
  statics := none }

def pool1 : Array CpInfo := pool [(2, .class_ 4), (1, u "java/lang/Object"), (0, u "<init>"), (0, u "()V"), (0, .long 65535), (1, .methodref 10 11), (0, .class_ 12), (0, .nameAndType 13 14), (0, u "com/example/lungfish/lungfish/message/MessageHashParsePinLaw"), (0, u "put16"), (0, u "([CIJI)V"), (0, .class_ 16), (0, u "java/lang/String"), (0, .methodref 15 18), (0, .nameAndType 5 19), (0, u "([C)V"), (0, .methodref 21 22), (0, .class_ 23), (0, .nameAndType 24 25), (0, u "com/example/lungfish/lungfish/message/MessageHash"), (0, u "parse"), (0, u "(Ljava/lang/String;)Lcom/example/lungfish/lungfish/message/MessageHash;"), (0, .methodref 21 27), (0, .nameAndType 28 29), (0, u "toByteArray"), (0, u "()[B"), (0, .methodref 10 31), (0, .nameAndType 32 33), (0, u "same8"), (0, u "([BIJ)Z"), (0, .long 15), (1, .methodref 10 37), (0, .nameAndType 38 39), (0, u "digit"), (0, u "(JIII)C"), (2, u "law"), (0, u "(JJJJJ)Z")] 7

def k1m0 : Method := { name := "<init>", desc := "()V", sig := { parameters := [], returnType := none }, accessFlags := 1, code := none }
def k1c1 : Code := { maxStack := 8, maxLocals := 12, code := code, exceptionTable := #[], attributes := #[] }
def k1m1 : Method := { name := "law", desc := "(JJJJJ)Z", sig := { parameters := [.long, .long, .long, .long, .long], returnType := some .boolean }, accessFlags := 9, code := some k1c1 }
def k1c2 : Code := { maxStack := 4, maxLocals := 6, code := method_3_code, exceptionTable := #[], attributes := #[] }
def k1m2 : Method := { name := "digit", desc := "(JIII)C", sig := { parameters := [.long, .int, .int, .int], returnType := some .char }, accessFlags := 10, code := some k1c2 }
def k1c3 : Code := { maxStack := 7, maxLocals := 5, code := method_4_code, exceptionTable := #[], attributes := #[] }
def k1m3 : Method := { name := "put16", desc := "([CIJI)V", sig := { parameters := [(.array .char), .int, .long, .int], returnType := none }, accessFlags := 10, code := some k1c3 }
def k1c4 : Code := { maxStack := 4, maxLocals := 4, code := method_5_code, exceptionTable := #[], attributes := #[] }
def k1m4 : Method := { name := "same8", desc := "([BIJ)Z", sig := { parameters := [(.array .byte), .int, .long], returnType := some .boolean }, accessFlags := 10, code := some k1c4 }
/-- com/example/lungfish/lungfish/message/MessageHashParsePinLaw -/
def k1 : Class := { plain "com/example/lungfish/lungfish/message/MessageHashParsePinLaw" (some 0) with
  accessFlags := 49
  interfaces := #[]
  cf := some (fileOf pool1 10 #[] #[{ accessFlags := 1, nameIndex := 5, descriptorIndex := 6, attributes := #[] }, { accessFlags := 9, nameIndex := 42, descriptorIndex := 43, attributes := #[] }, { accessFlags := 10, nameIndex := 38, descriptorIndex := 39, attributes := #[] }, { accessFlags := 10, nameIndex := 13, descriptorIndex := 14, attributes := #[] }, { accessFlags := 10, nameIndex := 32, descriptorIndex := 33, attributes := #[] }] 49 2 #[] #[])
  fields := #[]
  methods := #[k1m0, k1m1, k1m2, k1m3, k1m4]
  instanceTypes := #[]
  staticTypes := #[]
  resolved := Array.replicate 51 none
  statics := none }

def pool2 : Array CpInfo := pool [(1, .class_ 2), (0, u "java/io/Serializable"), (0, .class_ 4), (0, u "java/lang/Object")] 2

/-- java/io/Serializable -/
def k2 : Class := { plain "java/io/Serializable" (some 0) with
  accessFlags := 1537
  interfaces := #[]
  cf := some (fileOf pool2 1 #[] #[] 1537 3 #[] #[])
  fields := #[]
  methods := #[]
  instanceTypes := #[]
  staticTypes := #[]
  resolved := Array.replicate 7 none
  statics := none }

def pool3 : Array CpInfo := pool [(1, .class_ 2), (0, u "java/lang/Comparable"), (0, .class_ 4), (0, u "java/lang/Object")] 7

/-- java/lang/Comparable -/
def k3 : Class := { plain "java/lang/Comparable" (some 0) with
  accessFlags := 1537
  interfaces := #[]
  cf := some (fileOf pool3 1 #[] #[] 1537 3 #[] #[])
  fields := #[]
  methods := #[]
  instanceTypes := #[]
  staticTypes := #[]
  resolved := Array.replicate 12 none
  statics := none }

def pool4 : Array CpInfo := pool [(2, .class_ 4), (1, u "java/lang/CharSequence"), (0, u "length"), (0, u "()I"), (38, u "charAt"), (0, u "(I)C"), (0, .class_ 48), (0, u "java/lang/CharSequence$1CodePointIterator"), (10, .class_ 60), (0, u "java/lang/CharSequence$1CharIterator"), (5, .class_ 67), (0, u "java/lang/Object"), (0, u "isEmpty"), (0, u "()Z")] 61

def k4m0 : Method := { name := "length", desc := "()I", sig := { parameters := [], returnType := some .int }, accessFlags := 1025, code := none }
def k4m1 : Method := { name := "charAt", desc := "(I)C", sig := { parameters := [.int], returnType := some .char }, accessFlags := 1025, code := none }
def k4c2 : Code := { maxStack := 1, maxLocals := 1, code := ⟨#[0x03, 0xac]⟩, exceptionTable := #[], attributes := #[] }
def k4m2 : Method := { name := "isEmpty", desc := "()Z", sig := { parameters := [], returnType := some .boolean }, accessFlags := 1, code := some k4c2 }
/-- java/lang/CharSequence -/
def k4 : Class := { plain "java/lang/CharSequence" (some 0) with
  accessFlags := 1537
  interfaces := #[]
  cf := some (fileOf pool4 2 #[.nestMembers #[47, 59]] #[{ accessFlags := 1025, nameIndex := 5, descriptorIndex := 6, attributes := #[] }, { accessFlags := 1025, nameIndex := 45, descriptorIndex := 46, attributes := #[] }, { accessFlags := 1, nameIndex := 68, descriptorIndex := 69, attributes := #[] }] 1537 66 #[] #[])
  fields := #[]
  methods := #[k4m0, k4m1, k4m2]
  instanceTypes := #[]
  staticTypes := #[]
  resolved := Array.replicate 131 none
  statics := none }

def pool5 : Array CpInfo := pool [(1, .class_ 2), (0, u "java/lang/constant/Constable"), (0, .class_ 4), (0, u "java/lang/Object")] 6

/-- java/lang/constant/Constable -/
def k5 : Class := { plain "java/lang/constant/Constable" (some 0) with
  accessFlags := 1537
  interfaces := #[]
  cf := some (fileOf pool5 1 #[] #[] 1537 3 #[] #[])
  fields := #[]
  methods := #[]
  instanceTypes := #[]
  staticTypes := #[]
  resolved := Array.replicate 11 none
  statics := none }

def pool6 : Array CpInfo := pool [(1, .class_ 2), (0, u "java/lang/constant/ConstantDesc"), (0, .class_ 4), (0, u "java/lang/Object")] 32

/-- java/lang/constant/ConstantDesc -/
def k6 : Class := { plain "java/lang/constant/ConstantDesc" (some 0) with
  accessFlags := 1537
  interfaces := #[]
  cf := some (fileOf pool6 1 #[] #[] 1537 3 #[] #[])
  fields := #[]
  methods := #[]
  instanceTypes := #[]
  staticTypes := #[]
  resolved := Array.replicate 37 none
  statics := none }

def pool7 : Array CpInfo := pool [(1, .methodref 2 3), (0, .class_ 4), (0, .nameAndType 5 6), (0, u "java/lang/Object"), (0, u "<init>"), (0, u "()V"), (2, .fieldref 10 11), (0, .class_ 12), (0, .nameAndType 13 14), (0, u "java/lang/String"), (0, u "value"), (0, u "[B"), (0, .fieldref 10 16), (0, .nameAndType 17 18), (0, u "coder"), (0, u "B"), (2, u "hash"), (0, u "I"), (2, u "hashIsZero"), (0, u "Z"), (0, .methodref 10 28), (0, .nameAndType 5 29), (0, u "([CIILjava/lang/Void;)V"), (8, .fieldref 10 39), (0, .nameAndType 40 26), (0, u "COMPACT_STRINGS"), (1, .class_ 44), (1, u "java/lang/StringUTF16"), (0, u "compress"), (1, .methodref 42 48), (0, .nameAndType 49 50), (0, u "coderFromArrayLen"), (0, u "([BI)B"), (56, .class_ 109), (1, u "java/lang/StringLatin1"), (32, u "()Z"), (34, .methodref 42 178), (0, .nameAndType 45 179), (0, u "([CII)[B"), (154, u "()I"), (0, .methodref 10 336), (0, .nameAndType 17 337), (0, u "()B"), (25, u "([BI)C"), (27, u "(II)V"), (35, u "(I)C"), (64, .methodref 10 493), (0, .nameAndType 494 142), (0, u "isLatin1"), (0, .methodref 107 496), (0, .nameAndType 497 363), (0, u "charAt"), (3, u "checkIndex"), (5, u "length"), (67, .class_ 576), (0, u "java/lang/CharSequence"), (22, u "CASE_INSENSITIVE_ORDER"), (0, u "Ljava/util/Comparator;"), (91, u "isEmpty"), (317, u "([C)V"), (42, .fieldref 1054 1055), (0, .class_ 1056), (0, .nameAndType 1057 1058), (0, u "jdk/internal/util/Preconditions"), (0, u "SIOOBE_FORMATTER"), (0, u "Ljava/util/function/BiFunction;"), (0, .methodref 1054 1060), (0, .nameAndType 501 1061), (0, u "(IILjava/util/function/BiFunction;)I"), (39, u "serialPersistentFields"), (0, u "[Ljava/io/ObjectStreamField;"), (0, .class_ 1104), (0, u "java/lang/String$CaseInsensitiveComparator"), (1, .class_ 1107), (0, u "java/io/Serializable"), (0, .class_ 1109), (0, u "java/lang/Comparable"), (0, .class_ 1111), (0, u "java/lang/constant/Constable"), (0, .class_ 1113), (0, u "java/lang/constant/ConstantDesc"), (2, u "serialVersionUID"), (0, u "J"), (3, u "REPL"), (0, u "C"), (2, u "LATIN1"), (1, u "UTF16")] 323

def k7m0 : Method := { name := "<init>", desc := "()V", sig := { parameters := [], returnType := none }, accessFlags := 1, code := none }
def k7c1 : Code := { maxStack := 5, maxLocals := 2, code := jdk_42_method_3_code, exceptionTable := #[], attributes := #[] }
def k7m1 : Method := { name := "<init>", desc := "([C)V", sig := { parameters := [(.array .char)], returnType := none }, accessFlags := 1, code := some k7c1 }
def k7c2 : Code := { maxStack := 2, maxLocals := 1, code := jdk_42_method_54_code, exceptionTable := #[], attributes := #[] }
def k7m2 : Method := { name := "length", desc := "()I", sig := { parameters := [], returnType := some .int }, accessFlags := 1, code := some k7c2 }
def k7c3 : Code := { maxStack := 1, maxLocals := 1, code := jdk_42_method_55_code, exceptionTable := #[], attributes := #[] }
def k7m3 : Method := { name := "isEmpty", desc := "()Z", sig := { parameters := [], returnType := some .boolean }, accessFlags := 1, code := some k7c3 }
def k7c4 : Code := { maxStack := 2, maxLocals := 2, code := jdk_42_method_56_code, exceptionTable := #[], attributes := #[] }
def k7m4 : Method := { name := "charAt", desc := "(I)C", sig := { parameters := [.int], returnType := some .char }, accessFlags := 1, code := some k7c4 }
def k7c5 : Code := { maxStack := 4, maxLocals := 6, code := jdk_42_method_149_code, exceptionTable := #[], attributes := #[] }
def k7m5 : Method := { name := "<init>", desc := "([CIILjava/lang/Void;)V", sig := { parameters := [(.array .char), .int, .int, (.object "java/lang/Void")], returnType := none }, accessFlags := 2, code := some k7c5 }
def k7c6 : Code := { maxStack := 1, maxLocals := 1, code := jdk_42_method_152_code, exceptionTable := #[], attributes := #[] }
def k7m6 : Method := { name := "coder", desc := "()B", sig := { parameters := [], returnType := some .byte }, accessFlags := 0, code := some k7c6 }
def k7c7 : Code := { maxStack := 1, maxLocals := 1, code := jdk_42_method_154_code, exceptionTable := #[], attributes := #[] }
def k7m7 : Method := { name := "isLatin1", desc := "()Z", sig := { parameters := [], returnType := some .boolean }, accessFlags := 0, code := some k7c7 }
def k7c8 : Code := { maxStack := 3, maxLocals := 2, code := jdk_42_method_155_code, exceptionTable := #[], attributes := #[] }
def k7m8 : Method := { name := "checkIndex", desc := "(II)V", sig := { parameters := [.int, .int], returnType := none }, accessFlags := 8, code := some k7c8 }
/-- java/lang/String -/
def k7 : Class := { plain "java/lang/String" (some 0) with
  accessFlags := 49
  interfaces := #[2, 3, 4, 5, 6]
  cf := some (fileOf pool7 10 #[.nestMembers #[1103]] #[{ accessFlags := 1, nameIndex := 5, descriptorIndex := 6, attributes := #[] }, { accessFlags := 1, nameIndex := 5, descriptorIndex := 1010, attributes := #[] }, { accessFlags := 1, nameIndex := 507, descriptorIndex := 334, attributes := #[] }, { accessFlags := 1, nameIndex := 692, descriptorIndex := 142, attributes := #[] }, { accessFlags := 1, nameIndex := 497, descriptorIndex := 427, attributes := #[] }, { accessFlags := 2, nameIndex := 5, descriptorIndex := 29, attributes := #[] }, { accessFlags := 0, nameIndex := 17, descriptorIndex := 337, attributes := #[] }, { accessFlags := 0, nameIndex := 494, descriptorIndex := 142, attributes := #[] }, { accessFlags := 8, nameIndex := 501, descriptorIndex := 391, attributes := #[] }] 49 2 #[1106, 1108, 575, 1110, 1112] #[{ accessFlags := 18, nameIndex := 13, descriptorIndex := 14, attributes := #[] }, { accessFlags := 18, nameIndex := 17, descriptorIndex := 18, attributes := #[] }, { accessFlags := 2, nameIndex := 21, descriptorIndex := 22, attributes := #[] }, { accessFlags := 2, nameIndex := 25, descriptorIndex := 26, attributes := #[] }, { accessFlags := 26, nameIndex := 1116, descriptorIndex := 1117, attributes := #[] }, { accessFlags := 24, nameIndex := 40, descriptorIndex := 26, attributes := #[] }, { accessFlags := 26, nameIndex := 1101, descriptorIndex := 1102, attributes := #[] }, { accessFlags := 26, nameIndex := 1121, descriptorIndex := 1122, attributes := #[] }, { accessFlags := 25, nameIndex := 599, descriptorIndex := 600, attributes := #[] }, { accessFlags := 24, nameIndex := 1125, descriptorIndex := 18, attributes := #[] }, { accessFlags := 24, nameIndex := 1127, descriptorIndex := 18, attributes := #[] }])
  fields := #[{ name := "value", type := (.array .byte), accessFlags := 18, slot := 0, constantValue := 0 }, { name := "coder", type := .byte, accessFlags := 18, slot := 1, constantValue := 0 }, { name := "hash", type := .int, accessFlags := 2, slot := 2, constantValue := 0 }, { name := "hashIsZero", type := .boolean, accessFlags := 2, slot := 3, constantValue := 0 }, { name := "serialVersionUID", type := .long, accessFlags := 26, slot := 0, constantValue := 0 }, { name := "COMPACT_STRINGS", type := .boolean, accessFlags := 24, slot := 1, constantValue := 0 }, { name := "serialPersistentFields", type := (.array (.object "java/io/ObjectStreamField")), accessFlags := 26, slot := 2, constantValue := 0 }, { name := "REPL", type := .char, accessFlags := 26, slot := 3, constantValue := 0 }, { name := "CASE_INSENSITIVE_ORDER", type := (.object "java/util/Comparator"), accessFlags := 25, slot := 4, constantValue := 0 }, { name := "LATIN1", type := .byte, accessFlags := 24, slot := 5, constantValue := 0 }, { name := "UTF16", type := .byte, accessFlags := 24, slot := 6, constantValue := 0 }]
  methods := #[k7m0, k7m1, k7m2, k7m3, k7m4, k7m5, k7m6, k7m7, k7m8]
  instanceTypes := #[(.array .byte), .byte, .int, .boolean]
  staticTypes := #[.long, .boolean, (.array (.object "java/io/ObjectStreamField")), .char, (.object "java/util/Comparator"), .byte, .byte]
  resolved := Array.replicate 1451 none
  statics := some 0 }

def pool8 : Array CpInfo := pool [(6, .class_ 8), (1, u "java/lang/Object"), (0, u "<init>"), (0, u "()V"), (1, .class_ 14), (1, u "java/lang/StringUTF16"), (31, u "$assertionsDisabled"), (0, u "Z"), (13, u "HI_BYTE_SHIFT"), (0, u "I"), (2, u "LO_BYTE_SHIFT"), (49, .methodref 12 116), (0, .nameAndType 117 118), (0, u "compress"), (0, u "([CI[BII)I"), (3, u "([CII)[B"), (138, u "coderFromArrayLen"), (0, u "([BI)B"), (106, .class_ 371), (1, u "java/lang/StringUTF16$LinesSpliterator"), (58, u "MAX_LENGTH"), (196, .class_ 628), (0, u "java/lang/StringUTF16$CodePointsSpliterator"), (0, .class_ 630), (0, u "java/lang/StringUTF16$CharsSpliterator")] 4

def k8m0 : Method := { name := "<init>", desc := "()V", sig := { parameters := [], returnType := none }, accessFlags := 0, code := none }
def k8c1 : Code := { maxStack := 2, maxLocals := 2, code := jdk_52_method_15_code, exceptionTable := #[], attributes := #[] }
def k8m1 : Method := { name := "coderFromArrayLen", desc := "([BI)B", sig := { parameters := [(.array .byte), .int], returnType := some .byte }, accessFlags := 8, code := some k8c1 }
def k8c2 : Code := { maxStack := 5, maxLocals := 6, code := jdk_52_method_16_code, exceptionTable := #[], attributes := #[] }
def k8m2 : Method := { name := "compress", desc := "([CII)[B", sig := { parameters := [(.array .char), .int, .int], returnType := some (.array .byte) }, accessFlags := 9, code := some k8c2 }
def k8c3 : Code := { maxStack := 3, maxLocals := 7, code := jdk_52_method_21_code, exceptionTable := #[], attributes := #[] }
def k8m3 : Method := { name := "compress", desc := "([CI[BII)I", sig := { parameters := [(.array .char), .int, (.array .byte), .int, .int], returnType := some .int }, accessFlags := 9, code := some k8c3 }
/-- java/lang/StringUTF16 -/
def k8 : Class := { plain "java/lang/StringUTF16" (some 0) with
  accessFlags := 48
  interfaces := #[]
  cf := some (fileOf pool8 12 #[.nestMembers #[627, 629, 369]] #[{ accessFlags := 0, nameIndex := 9, descriptorIndex := 10, attributes := #[] }, { accessFlags := 8, nameIndex := 261, descriptorIndex := 262, attributes := #[] }, { accessFlags := 9, nameIndex := 117, descriptorIndex := 122, attributes := #[] }, { accessFlags := 9, nameIndex := 117, descriptorIndex := 118, attributes := #[] }] 48 6 #[] #[{ accessFlags := 26, nameIndex := 61, descriptorIndex := 62, attributes := #[] }, { accessFlags := 26, nameIndex := 65, descriptorIndex := 62, attributes := #[] }, { accessFlags := 24, nameIndex := 430, descriptorIndex := 62, attributes := #[] }, { accessFlags := 4120, nameIndex := 46, descriptorIndex := 47, attributes := #[] }])
  fields := #[{ name := "HI_BYTE_SHIFT", type := .int, accessFlags := 26, slot := 0, constantValue := 0 }, { name := "LO_BYTE_SHIFT", type := .int, accessFlags := 26, slot := 1, constantValue := 0 }, { name := "MAX_LENGTH", type := .int, accessFlags := 24, slot := 2, constantValue := 0 }, { name := "$assertionsDisabled", type := .boolean, accessFlags := 4120, slot := 3, constantValue := 0 }]
  methods := #[k8m0, k8m1, k8m2, k8m3]
  instanceTypes := #[]
  staticTypes := #[.int, .int, .int, .boolean]
  resolved := Array.replicate 635 none
  statics := none }

def pool9 : Array CpInfo := pool [(1, .methodref 2 3), (0, .class_ 4), (0, .nameAndType 5 6), (0, u "java/lang/Object"), (0, u "<init>"), (0, u "()V"), (0, .fieldref 8 9), (0, .class_ 10), (0, .nameAndType 11 12), (0, u "com/example/lungfish/lungfish/message/MessageHash"), (0, u "bytes"), (0, u "[B"), (27, .class_ 42), (1, u "java/lang/String"), (7, u "([B)V"), (25, u "()[B"), (3, .methodref 8 81), (0, .nameAndType 5 50), (9, .methodref 92 93), (0, .class_ 12), (0, .nameAndType 94 95), (0, u "clone"), (0, u "()Ljava/lang/Object;"), (0, .methodref 40 97), (0, .nameAndType 98 99), (0, u "length"), (0, u "()I"), (2, .fieldref 8 103), (0, .nameAndType 104 105), (0, u "HEX"), (0, u "Ljava/util/HexFormat;"), (0, .methodref 107 108), (0, .class_ 109), (0, .nameAndType 110 111), (0, u "java/util/HexFormat"), (0, u "parseHex"), (0, u "(Ljava/lang/CharSequence;)[B"), (33, u "BYTES"), (0, u "I"), (8, u "parse"), (0, u "(Ljava/lang/String;)Lcom/example/lungfish/lungfish/message/MessageHash;"), (0, u "toByteArray")] 21

def k9c0 : Code := { maxStack := 2, maxLocals := 2, code := prog_2_method_1_code, exceptionTable := #[], attributes := #[] }
def k9m0 : Method := { name := "<init>", desc := "([B)V", sig := { parameters := [(.array .byte)], returnType := none }, accessFlags := 2, code := some k9c0 }
def k9c1 : Code := { maxStack := 4, maxLocals := 1, code := prog_2_method_4_code, exceptionTable := #[], attributes := #[] }
def k9m1 : Method := { name := "parse", desc := "(Ljava/lang/String;)Lcom/example/lungfish/lungfish/message/MessageHash;", sig := { parameters := [(.object "java/lang/String")], returnType := some (.object "com/example/lungfish/lungfish/message/MessageHash") }, accessFlags := 9, code := some k9c1 }
def k9c2 : Code := { maxStack := 1, maxLocals := 1, code := prog_2_method_5_code, exceptionTable := #[], attributes := #[] }
def k9m2 : Method := { name := "toByteArray", desc := "()[B", sig := { parameters := [], returnType := some (.array .byte) }, accessFlags := 1, code := some k9c2 }
/-- com/example/lungfish/lungfish/message/MessageHash -/
def k9 : Class := { plain "com/example/lungfish/lungfish/message/MessageHash" (some 0) with
  accessFlags := 49
  interfaces := #[]
  cf := some (fileOf pool9 8 #[] #[{ accessFlags := 2, nameIndex := 5, descriptorIndex := 50, attributes := #[] }, { accessFlags := 9, nameIndex := 155, descriptorIndex := 156, attributes := #[] }, { accessFlags := 1, nameIndex := 157, descriptorIndex := 76, attributes := #[] }] 49 2 #[] #[{ accessFlags := 25, nameIndex := 145, descriptorIndex := 146, attributes := #[] }, { accessFlags := 26, nameIndex := 104, descriptorIndex := 105, attributes := #[] }, { accessFlags := 18, nameIndex := 11, descriptorIndex := 12, attributes := #[] }])
  fields := #[{ name := "BYTES", type := .int, accessFlags := 25, slot := 0, constantValue := 0 }, { name := "HEX", type := (.object "java/util/HexFormat"), accessFlags := 26, slot := 1, constantValue := 0 }, { name := "bytes", type := (.array .byte), accessFlags := 18, slot := 0, constantValue := 0 }]
  methods := #[k9m0, k9m1, k9m2]
  instanceTypes := #[(.array .byte)]
  staticTypes := #[.int, (.object "java/util/HexFormat")]
  resolved := Array.replicate 179 none
  statics := some 1 }

def pool10 : Array CpInfo := pool [(2, .class_ 4), (1, u "java/lang/Object"), (3, u "delimiter"), (0, .methodref 10 11), (0, .class_ 12), (0, .nameAndType 13 14), (0, u "java/util/Objects"), (0, u "requireNonNull"), (0, u "(Ljava/lang/Object;Ljava/lang/String;)Ljava/lang/Object;"), (0, .class_ 16), (0, u "java/lang/String"), (0, .fieldref 18 19), (0, .class_ 20), (0, .nameAndType 8 21), (0, u "java/util/HexFormat"), (0, u "Ljava/lang/String;"), (1, u "prefix"), (0, .fieldref 18 25), (0, .nameAndType 23 21), (1, u "suffix"), (0, .fieldref 18 29), (0, .nameAndType 27 21), (2, u "digits"), (0, u "[B"), (2, u "HEX_FORMAT"), (0, u "Ljava/util/HexFormat;"), (4, u "LOWERCASE_DIGITS"), (5, u "UPPERCASE_DIGITS"), (12, .methodref 10 62), (0, .nameAndType 63 64), (0, u "checkFromToIndex"), (0, u "(III)I"), (4, .nameAndType 70 71), (0, u "length"), (0, u "()I"), (34, .methodref 15 107), (0, .nameAndType 108 109), (0, u "isEmpty"), (0, u "()Z"), (13, u "(I)C"), (4, .nameAndType 129 123), (0, u "charAt"), (4, u "jla"), (0, u "Ljdk/internal/access/JavaLangAccess;"), (39, .interfaceMethodref 176 69), (0, .class_ 177), (0, u "java/lang/CharSequence"), (0, .methodref 18 179), (0, .nameAndType 180 181), (0, u "parseHex"), (0, u "(Ljava/lang/CharSequence;II)[B"), (0, .string 183), (0, u "string"), (4, .interfaceMethodref 176 107), (2, u "EMPTY_BYTES"), (0, .methodref 18 193), (0, .nameAndType 194 195), (0, u "parseNoDelimiter"), (0, u "(Ljava/lang/CharSequence;)[B"), (9, .methodref 18 206), (0, .nameAndType 207 208), (0, u "fromHexDigits"), (0, u "(Ljava/lang/CharSequence;I)I"), (12, u "$assertionsDisabled"), (0, u "Z"), (2, .interfaceMethodref 176 128), (41, .fieldref 18 268), (0, .nameAndType 269 33), (0, u "DIGITS"), (10, .methodref 18 281), (0, .nameAndType 282 283), (0, u "fromHexDigit"), (0, u "(I)I")] 127

def k10c0 : Code := { maxStack := 4, maxLocals := 2, code := jdk_2580_method_19_code, exceptionTable := #[], attributes := #[] }
def k10m0 : Method := { name := "parseHex", desc := "(Ljava/lang/CharSequence;)[B", sig := { parameters := [(.object "java/lang/CharSequence")], returnType := some (.array .byte) }, accessFlags := 1, code := some k10c0 }
def k10c1 : Code := { maxStack := 4, maxLocals := 13, code := jdk_2580_method_20_code, exceptionTable := #[], attributes := #[] }
def k10m1 : Method := { name := "parseHex", desc := "(Ljava/lang/CharSequence;II)[B", sig := { parameters := [(.object "java/lang/CharSequence"), .int, .int], returnType := some (.array .byte) }, accessFlags := 1, code := some k10c1 }
def k10c2 : Code := { maxStack := 5, maxLocals := 3, code := jdk_2580_method_33_code, exceptionTable := #[], attributes := #[] }
def k10m2 : Method := { name := "parseNoDelimiter", desc := "(Ljava/lang/CharSequence;)[B", sig := { parameters := [(.object "java/lang/CharSequence")], returnType := some (.array .byte) }, accessFlags := 10, code := some k10c2 }
def k10c3 : Code := { maxStack := 4, maxLocals := 2, code := jdk_2580_method_36_code, exceptionTable := #[], attributes := #[] }
def k10m3 : Method := { name := "fromHexDigit", desc := "(I)I", sig := { parameters := [.int], returnType := some .int }, accessFlags := 9, code := some k10c3 }
def k10c4 : Code := { maxStack := 3, maxLocals := 4, code := jdk_2580_method_37_code, exceptionTable := #[], attributes := #[] }
def k10m4 : Method := { name := "fromHexDigits", desc := "(Ljava/lang/CharSequence;I)I", sig := { parameters := [(.object "java/lang/CharSequence"), .int], returnType := some .int }, accessFlags := 10, code := some k10c4 }
/-- java/util/HexFormat -/
def k10 : Class := { plain "java/util/HexFormat" (some 0) with
  accessFlags := 49
  interfaces := #[]
  cf := some (fileOf pool10 18 #[] #[{ accessFlags := 1, nameIndex := 180, descriptorIndex := 195, attributes := #[] }, { accessFlags := 1, nameIndex := 180, descriptorIndex := 181, attributes := #[] }, { accessFlags := 10, nameIndex := 194, descriptorIndex := 195, attributes := #[] }, { accessFlags := 9, nameIndex := 282, descriptorIndex := 283, attributes := #[] }, { accessFlags := 10, nameIndex := 207, descriptorIndex := 208, attributes := #[] }] 49 2 #[] #[{ accessFlags := 26, nameIndex := 134, descriptorIndex := 135, attributes := #[] }, { accessFlags := 26, nameIndex := 48, descriptorIndex := 33, attributes := #[] }, { accessFlags := 26, nameIndex := 42, descriptorIndex := 33, attributes := #[] }, { accessFlags := 26, nameIndex := 269, descriptorIndex := 33, attributes := #[] }, { accessFlags := 26, nameIndex := 36, descriptorIndex := 37, attributes := #[] }, { accessFlags := 26, nameIndex := 191, descriptorIndex := 33, attributes := #[] }, { accessFlags := 18, nameIndex := 8, descriptorIndex := 21, attributes := #[] }, { accessFlags := 18, nameIndex := 23, descriptorIndex := 21, attributes := #[] }, { accessFlags := 18, nameIndex := 27, descriptorIndex := 21, attributes := #[] }, { accessFlags := 18, nameIndex := 32, descriptorIndex := 33, attributes := #[] }, { accessFlags := 4120, nameIndex := 221, descriptorIndex := 222, attributes := #[] }])
  fields := #[{ name := "jla", type := (.object "jdk/internal/access/JavaLangAccess"), accessFlags := 26, slot := 0, constantValue := 0 }, { name := "UPPERCASE_DIGITS", type := (.array .byte), accessFlags := 26, slot := 1, constantValue := 0 }, { name := "LOWERCASE_DIGITS", type := (.array .byte), accessFlags := 26, slot := 2, constantValue := 0 }, { name := "DIGITS", type := (.array .byte), accessFlags := 26, slot := 3, constantValue := 0 }, { name := "HEX_FORMAT", type := (.object "java/util/HexFormat"), accessFlags := 26, slot := 4, constantValue := 0 }, { name := "EMPTY_BYTES", type := (.array .byte), accessFlags := 26, slot := 5, constantValue := 0 }, { name := "delimiter", type := (.object "java/lang/String"), accessFlags := 18, slot := 0, constantValue := 0 }, { name := "prefix", type := (.object "java/lang/String"), accessFlags := 18, slot := 1, constantValue := 0 }, { name := "suffix", type := (.object "java/lang/String"), accessFlags := 18, slot := 2, constantValue := 0 }, { name := "digits", type := (.array .byte), accessFlags := 18, slot := 3, constantValue := 0 }, { name := "$assertionsDisabled", type := .boolean, accessFlags := 4120, slot := 6, constantValue := 0 }]
  methods := #[k10m0, k10m1, k10m2, k10m3, k10m4]
  instanceTypes := #[(.object "java/lang/String"), (.object "java/lang/String"), (.object "java/lang/String"), (.array .byte)]
  staticTypes := #[(.object "jdk/internal/access/JavaLangAccess"), (.array .byte), (.array .byte), (.array .byte), (.object "java/util/HexFormat"), (.array .byte), .boolean]
  resolved := Array.replicate 411 none
  statics := some 2 }

def pool11 : Array CpInfo := pool [(2, .class_ 4), (1, u "java/lang/Object"), (0, u "<init>"), (0, u "()V"), (35, .class_ 44), (1, u "java/util/Objects"), (0, u "requireNonNull"), (48, u "(Ljava/lang/Object;Ljava/lang/String;)Ljava/lang/Object;"), (11, .class_ 108), (1, u "jdk/internal/util/Preconditions"), (2, .methodref 106 112), (0, .nameAndType 113 114), (0, u "checkFromToIndex"), (0, u "(IIILjava/util/function/BiFunction;)I"), (60, u "(III)I")] 8

def k11m0 : Method := { name := "<init>", desc := "()V", sig := { parameters := [], returnType := none }, accessFlags := 2, code := none }
def k11c1 : Code := { maxStack := 3, maxLocals := 2, code := jdk_31_method_11_code, exceptionTable := #[], attributes := #[] }
def k11m1 : Method := { name := "requireNonNull", desc := "(Ljava/lang/Object;Ljava/lang/String;)Ljava/lang/Object;", sig := { parameters := [(.object "java/lang/Object"), (.object "java/lang/String")], returnType := some (.object "java/lang/Object") }, accessFlags := 9, code := some k11c1 }
def k11c2 : Code := { maxStack := 4, maxLocals := 3, code := jdk_31_method_18_code, exceptionTable := #[], attributes := #[] }
def k11m2 : Method := { name := "checkFromToIndex", desc := "(III)I", sig := { parameters := [.int, .int, .int], returnType := some .int }, accessFlags := 9, code := some k11c2 }
/-- java/util/Objects -/
def k11 : Class := { plain "java/util/Objects" (some 0) with
  accessFlags := 49
  interfaces := #[]
  cf := some (fileOf pool11 42 #[] #[{ accessFlags := 2, nameIndex := 5, descriptorIndex := 6, attributes := #[] }, { accessFlags := 9, nameIndex := 45, descriptorIndex := 94, attributes := #[] }, { accessFlags := 9, nameIndex := 113, descriptorIndex := 175, attributes := #[] }] 49 2 #[] #[])
  fields := #[]
  methods := #[k11m0, k11m1, k11m2]
  instanceTypes := #[]
  staticTypes := #[]
  resolved := Array.replicate 184 none
  statics := none }

def pool12 : Array CpInfo := pool [(2, .class_ 4), (1, u "java/lang/Object"), (0, u "<init>"), (0, u "()V"), (17, .class_ 26), (1, u "jdk/internal/util/Preconditions"), (6, u "checkIndex"), (13, u "checkFromToIndex"), (7, .class_ 56), (0, u "jdk/internal/util/Preconditions$4"), (57, .class_ 115), (0, u "jdk/internal/util/Preconditions$1"), (7, u "SIOOBE_FORMATTER"), (0, u "Ljava/util/function/BiFunction;"), (0, .class_ 126), (0, u "jdk/internal/util/Preconditions$2"), (3, u "AIOOBE_FORMATTER"), (0, .class_ 132), (0, u "jdk/internal/util/Preconditions$3"), (3, u "IOOBE_FORMATTER"), (41, u "(IILjava/util/function/BiFunction;)I"), (4, u "(IIILjava/util/function/BiFunction;)I")] 10

def k12m0 : Method := { name := "<init>", desc := "()V", sig := { parameters := [], returnType := none }, accessFlags := 1, code := none }
def k12c1 : Code := { maxStack := 3, maxLocals := 3, code := jdk_41_method_11_code, exceptionTable := #[], attributes := #[] }
def k12m1 : Method := { name := "checkIndex", desc := "(IILjava/util/function/BiFunction;)I", sig := { parameters := [.int, .int, (.object "java/util/function/BiFunction")], returnType := some .int }, accessFlags := 9, code := some k12c1 }
def k12c2 : Code := { maxStack := 4, maxLocals := 4, code := jdk_41_method_12_code, exceptionTable := #[], attributes := #[] }
def k12m2 : Method := { name := "checkFromToIndex", desc := "(IIILjava/util/function/BiFunction;)I", sig := { parameters := [.int, .int, .int, (.object "java/util/function/BiFunction")], returnType := some .int }, accessFlags := 9, code := some k12c2 }
/-- jdk/internal/util/Preconditions -/
def k12 : Class := { plain "jdk/internal/util/Preconditions" (some 0) with
  accessFlags := 33
  interfaces := #[]
  cf := some (fileOf pool12 24 #[.nestMembers #[55, 131, 125, 114]] #[{ accessFlags := 1, nameIndex := 5, descriptorIndex := 6, attributes := #[] }, { accessFlags := 9, nameIndex := 33, descriptorIndex := 178, attributes := #[] }, { accessFlags := 9, nameIndex := 47, descriptorIndex := 183, attributes := #[] }] 33 2 #[] #[{ accessFlags := 25, nameIndex := 123, descriptorIndex := 124, attributes := #[] }, { accessFlags := 25, nameIndex := 130, descriptorIndex := 124, attributes := #[] }, { accessFlags := 25, nameIndex := 136, descriptorIndex := 124, attributes := #[] }])
  fields := #[{ name := "SIOOBE_FORMATTER", type := (.object "java/util/function/BiFunction"), accessFlags := 25, slot := 0, constantValue := 0 }, { name := "AIOOBE_FORMATTER", type := (.object "java/util/function/BiFunction"), accessFlags := 25, slot := 1, constantValue := 0 }, { name := "IOOBE_FORMATTER", type := (.object "java/util/function/BiFunction"), accessFlags := 25, slot := 2, constantValue := 0 }]
  methods := #[k12m0, k12m1, k12m2]
  instanceTypes := #[]
  staticTypes := #[(.object "java/util/function/BiFunction"), (.object "java/util/function/BiFunction"), (.object "java/util/function/BiFunction")]
  resolved := Array.replicate 194 none
  statics := some 3 }

def pool13 : Array CpInfo := pool [(1, .class_ 2), (0, u "java/lang/String"), (1, .class_ 6), (1, u "java/lang/Object"), (0, u "<init>"), (0, u "()V"), (0, .methodref 1 10), (0, .nameAndType 11 12), (0, u "checkIndex"), (0, u "(II)V"), (1, .class_ 16), (1, u "java/lang/StringLatin1"), (36, u "([BI)C"), (67, u "$assertionsDisabled"), (0, u "Z"), (98, .class_ 223), (1, u "java/lang/StringLatin1$LinesSpliterator"), (28, u "charAt"), (137, .class_ 391), (0, u "java/lang/StringLatin1$CharsSpliterator")] 3

def k13m0 : Method := { name := "<init>", desc := "()V", sig := { parameters := [], returnType := none }, accessFlags := 0, code := none }
def k13c1 : Code := { maxStack := 2, maxLocals := 2, code := jdk_43_method_2_code, exceptionTable := #[], attributes := #[] }
def k13m1 : Method := { name := "charAt", desc := "([BI)C", sig := { parameters := [(.array .byte), .int], returnType := some .char }, accessFlags := 9, code := some k13c1 }
/-- java/lang/StringLatin1 -/
def k13 : Class := { plain "java/lang/StringLatin1" (some 0) with
  accessFlags := 48
  interfaces := #[]
  cf := some (fileOf pool13 14 #[.nestMembers #[390, 221]] #[{ accessFlags := 0, nameIndex := 7, descriptorIndex := 8, attributes := #[] }, { accessFlags := 9, nameIndex := 252, descriptorIndex := 53, attributes := #[] }] 48 4 #[] #[{ accessFlags := 4120, nameIndex := 121, descriptorIndex := 122, attributes := #[] }])
  fields := #[{ name := "$assertionsDisabled", type := .boolean, accessFlags := 4120, slot := 0, constantValue := 0 }]
  methods := #[k13m0, k13m1]
  instanceTypes := #[]
  staticTypes := #[.boolean]
  resolved := Array.replicate 395 none
  statics := none }

def pool14 : Array CpInfo := pool [(1, .class_ 2), (0, u "java/lang/Cloneable"), (0, .class_ 4), (0, u "java/lang/Object")] 2

/-- java/lang/Cloneable -/
def k14 : Class := { plain "java/lang/Cloneable" (some 0) with
  accessFlags := 1537
  interfaces := #[]
  cf := some (fileOf pool14 1 #[] #[] 1537 3 #[] #[])
  fields := #[]
  methods := #[]
  instanceTypes := #[]
  staticTypes := #[]
  resolved := Array.replicate 7 none
  statics := none }

def pool15 : Array CpInfo := pool [(9, u "<init>"), (6, .class_ 18), (1, u "java/lang/Object"), (0, u "()V"), (1, .class_ 23), (1, u "jdk/internal/util/ArraysSupport"), (0, u "LOG2_ARRAY_LONG_INDEX_SCALE"), (0, u "I"), (2, u "U"), (0, u "Ljdk/internal/misc/Unsafe;"), (8, u "BIG_ENDIAN"), (0, u "Z"), (8, u "LOG2_BYTE_BIT_SIZE"), (4, u "LOG2_ARRAY_INT_INDEX_SCALE"), (54, u "JLA"), (0, u "Ljdk/internal/access/JavaLangAccess;"), (11, u "LOG2_ARRAY_BOOLEAN_INDEX_SCALE"), (9, u "LOG2_ARRAY_BYTE_INDEX_SCALE"), (5, u "LOG2_ARRAY_CHAR_INDEX_SCALE"), (5, u "LOG2_ARRAY_SHORT_INDEX_SCALE"), (18, u "LOG2_ARRAY_FLOAT_INDEX_SCALE"), (24, u "LOG2_ARRAY_DOUBLE_INDEX_SCALE"), (89, u "T_BOOLEAN"), (2, u "T_CHAR"), (1, u "T_FLOAT"), (1, u "T_DOUBLE"), (1, u "T_BYTE"), (1, u "T_SHORT"), (1, u "T_INT"), (1, u "T_LONG"), (1, u "SOFT_MAX_ARRAY_LENGTH")] 83

def k15m0 : Method := { name := "<init>", desc := "()V", sig := { parameters := [], returnType := none }, accessFlags := 2, code := none }
/-- jdk/internal/util/ArraysSupport -/
def k15 : Class := { plain "jdk/internal/util/ArraysSupport" (some 0) with
  accessFlags := 33
  interfaces := #[]
  cf := some (fileOf pool15 21 #[] #[{ accessFlags := 2, nameIndex := 9, descriptorIndex := 19, attributes := #[] }] 33 16 #[] #[{ accessFlags := 24, nameIndex := 28, descriptorIndex := 29, attributes := #[] }, { accessFlags := 26, nameIndex := 38, descriptorIndex := 39, attributes := #[] }, { accessFlags := 25, nameIndex := 121, descriptorIndex := 25, attributes := #[] }, { accessFlags := 25, nameIndex := 131, descriptorIndex := 25, attributes := #[] }, { accessFlags := 25, nameIndex := 137, descriptorIndex := 25, attributes := #[] }, { accessFlags := 25, nameIndex := 143, descriptorIndex := 25, attributes := #[] }, { accessFlags := 25, nameIndex := 53, descriptorIndex := 25, attributes := #[] }, { accessFlags := 25, nameIndex := 24, descriptorIndex := 25, attributes := #[] }, { accessFlags := 25, nameIndex := 162, descriptorIndex := 25, attributes := #[] }, { accessFlags := 25, nameIndex := 187, descriptorIndex := 25, attributes := #[] }, { accessFlags := 26, nameIndex := 48, descriptorIndex := 25, attributes := #[] }, { accessFlags := 25, nameIndex := 277, descriptorIndex := 25, attributes := #[] }, { accessFlags := 25, nameIndex := 280, descriptorIndex := 25, attributes := #[] }, { accessFlags := 25, nameIndex := 282, descriptorIndex := 25, attributes := #[] }, { accessFlags := 25, nameIndex := 284, descriptorIndex := 25, attributes := #[] }, { accessFlags := 25, nameIndex := 286, descriptorIndex := 25, attributes := #[] }, { accessFlags := 25, nameIndex := 288, descriptorIndex := 25, attributes := #[] }, { accessFlags := 25, nameIndex := 290, descriptorIndex := 25, attributes := #[] }, { accessFlags := 25, nameIndex := 292, descriptorIndex := 25, attributes := #[] }, { accessFlags := 26, nameIndex := 108, descriptorIndex := 109, attributes := #[] }, { accessFlags := 25, nameIndex := 294, descriptorIndex := 25, attributes := #[] }])
  fields := #[{ name := "U", type := (.object "jdk/internal/misc/Unsafe"), accessFlags := 24, slot := 0, constantValue := 0 }, { name := "BIG_ENDIAN", type := .boolean, accessFlags := 26, slot := 1, constantValue := 0 }, { name := "LOG2_ARRAY_BOOLEAN_INDEX_SCALE", type := .int, accessFlags := 25, slot := 2, constantValue := 0 }, { name := "LOG2_ARRAY_BYTE_INDEX_SCALE", type := .int, accessFlags := 25, slot := 3, constantValue := 0 }, { name := "LOG2_ARRAY_CHAR_INDEX_SCALE", type := .int, accessFlags := 25, slot := 4, constantValue := 0 }, { name := "LOG2_ARRAY_SHORT_INDEX_SCALE", type := .int, accessFlags := 25, slot := 5, constantValue := 0 }, { name := "LOG2_ARRAY_INT_INDEX_SCALE", type := .int, accessFlags := 25, slot := 6, constantValue := 0 }, { name := "LOG2_ARRAY_LONG_INDEX_SCALE", type := .int, accessFlags := 25, slot := 7, constantValue := 0 }, { name := "LOG2_ARRAY_FLOAT_INDEX_SCALE", type := .int, accessFlags := 25, slot := 8, constantValue := 0 }, { name := "LOG2_ARRAY_DOUBLE_INDEX_SCALE", type := .int, accessFlags := 25, slot := 9, constantValue := 0 }, { name := "LOG2_BYTE_BIT_SIZE", type := .int, accessFlags := 26, slot := 10, constantValue := 0 }, { name := "T_BOOLEAN", type := .int, accessFlags := 25, slot := 11, constantValue := 0 }, { name := "T_CHAR", type := .int, accessFlags := 25, slot := 12, constantValue := 0 }, { name := "T_FLOAT", type := .int, accessFlags := 25, slot := 13, constantValue := 0 }, { name := "T_DOUBLE", type := .int, accessFlags := 25, slot := 14, constantValue := 0 }, { name := "T_BYTE", type := .int, accessFlags := 25, slot := 15, constantValue := 0 }, { name := "T_SHORT", type := .int, accessFlags := 25, slot := 16, constantValue := 0 }, { name := "T_INT", type := .int, accessFlags := 25, slot := 17, constantValue := 0 }, { name := "T_LONG", type := .int, accessFlags := 25, slot := 18, constantValue := 0 }, { name := "JLA", type := (.object "jdk/internal/access/JavaLangAccess"), accessFlags := 26, slot := 19, constantValue := 0 }, { name := "SOFT_MAX_ARRAY_LENGTH", type := .int, accessFlags := 25, slot := 20, constantValue := 0 }]
  methods := #[k15m0]
  instanceTypes := #[]
  staticTypes := #[(.object "jdk/internal/misc/Unsafe"), .boolean, .int, .int, .int, .int, .int, .int, .int, .int, .int, .int, .int, .int, .int, .int, .int, .int, .int, (.object "jdk/internal/access/JavaLangAccess"), .int]
  resolved := Array.replicate 378 none
  statics := none }

/-- the primitive byte -/
def k16 : Class := { plain "byte" none with kind := .primitive 'B', accessFlags := 0x411 }
/-- [B -/
def k17 : Class := { plain "[B" (some 0) with kind := .array 16 .byte, interfaces := #[14, 2], accessFlags := 1041 }

/-- the primitive char -/
def k18 : Class := { plain "char" none with kind := .primitive 'C', accessFlags := 0x411 }
/-- [C -/
def k19 : Class := { plain "[C" (some 0) with kind := .array 18 .char, interfaces := #[14, 2], accessFlags := 1041 }

/-- the primitive int -/
def k20 : Class := { plain "int" none with kind := .primitive 'I', accessFlags := 0x411 }
/-- [I -/
def k21 : Class := { plain "[I" (some 0) with kind := .array 20 .int, interfaces := #[14, 2], accessFlags := 1041 }

def heap : Heap := #[{ cls := 7, slots := #[.long 0, .int 1, .null, .int 0, .null, .int 0, .int 0], vm := .statics 7 },
  { cls := 9, slots := #[.int 0, .ref 6], vm := .statics 9 },
  { cls := 10, slots := #[.null, .null, .null, .ref 8, .null, .null, .int 0], vm := .statics 10 },
  { cls := 12, slots := #[.null, .null, .null], vm := .statics 12 },
  { cls := 17, slots := #[], vm := .none },
  { cls := 7, slots := #[.ref 4, .int 0, .int 0, .int 0], vm := .none },
  { cls := 10, slots := #[.ref 5, .ref 5, .ref 5, .null], vm := .none },
  { cls := 15, slots := #[], vm := .none },
  { cls := 17, slots := #[.int (-1), .int (-1), .int (-1), .int (-1), .int (-1), .int (-1), .int (-1), .int (-1), .int (-1), .int (-1), .int (-1), .int (-1), .int (-1), .int (-1), .int (-1), .int (-1), .int (-1), .int (-1), .int (-1), .int (-1), .int (-1), .int (-1), .int (-1), .int (-1), .int (-1), .int (-1), .int (-1), .int (-1), .int (-1), .int (-1), .int (-1), .int (-1), .int (-1), .int (-1), .int (-1), .int (-1), .int (-1), .int (-1), .int (-1), .int (-1), .int (-1), .int (-1), .int (-1), .int (-1), .int (-1), .int (-1), .int (-1), .int (-1), .int 0, .int 1, .int 2, .int 3, .int 4, .int 5, .int 6, .int 7, .int 8, .int 9, .int (-1), .int (-1), .int (-1), .int (-1), .int (-1), .int (-1), .int (-1), .int 10, .int 11, .int 12, .int 13, .int 14, .int 15, .int (-1), .int (-1), .int (-1), .int (-1), .int (-1), .int (-1), .int (-1), .int (-1), .int (-1), .int (-1), .int (-1), .int (-1), .int (-1), .int (-1), .int (-1), .int (-1), .int (-1), .int (-1), .int (-1), .int (-1), .int (-1), .int (-1), .int (-1), .int (-1), .int (-1), .int (-1), .int 10, .int 11, .int 12, .int 13, .int 14, .int 15, .int (-1), .int (-1), .int (-1), .int (-1), .int (-1), .int (-1), .int (-1), .int (-1), .int (-1), .int (-1), .int (-1), .int (-1), .int (-1), .int (-1), .int (-1), .int (-1), .int (-1), .int (-1), .int (-1), .int (-1), .int (-1), .int (-1), .int (-1), .int (-1), .int (-1), .int (-1), .int (-1), .int (-1), .int (-1), .int (-1), .int (-1), .int (-1), .int (-1), .int (-1), .int (-1), .int (-1), .int (-1), .int (-1), .int (-1), .int (-1), .int (-1), .int (-1), .int (-1), .int (-1), .int (-1), .int (-1), .int (-1), .int (-1), .int (-1), .int (-1), .int (-1), .int (-1), .int (-1), .int (-1), .int (-1), .int (-1), .int (-1), .int (-1), .int (-1), .int (-1), .int (-1), .int (-1), .int (-1), .int (-1), .int (-1), .int (-1), .int (-1), .int (-1), .int (-1), .int (-1), .int (-1), .int (-1), .int (-1), .int (-1), .int (-1), .int (-1), .int (-1), .int (-1), .int (-1), .int (-1), .int (-1), .int (-1), .int (-1), .int (-1), .int (-1), .int (-1), .int (-1), .int (-1), .int (-1), .int (-1), .int (-1), .int (-1), .int (-1), .int (-1), .int (-1), .int (-1), .int (-1), .int (-1), .int (-1), .int (-1), .int (-1), .int (-1), .int (-1), .int (-1), .int (-1), .int (-1), .int (-1), .int (-1), .int (-1), .int (-1), .int (-1), .int (-1), .int (-1), .int (-1), .int (-1), .int (-1), .int (-1), .int (-1), .int (-1), .int (-1), .int (-1), .int (-1), .int (-1), .int (-1), .int (-1), .int (-1), .int (-1), .int (-1), .int (-1), .int (-1), .int (-1), .int (-1), .int (-1), .int (-1), .int (-1), .int (-1), .int (-1), .int (-1), .int (-1), .int (-1), .int (-1), .int (-1), .int (-1), .int (-1), .int (-1), .int (-1), .int (-1), .int (-1), .int (-1), .int (-1), .int (-1), .int (-1), .int (-1)], vm := .none }]
def classes : Array Class := #[k0, k1, k2, k3, k4, k5, k6, k7, k8, k9, k10, k11, k12, k13, k14, k15, k16, k17, k18, k19, k20, k21]
def interned : List (Array UInt16 × Addr) := []
def slotsUsed : Nat := 283
def theMethod : MethodId := ⟨1, 1⟩
def args0 : Array Value := #[.long 5, .long 5, .long 5, .long 5, .long 5]
def aboutOver (below : List Frame) : State where
  vm := { classes := classes, interned := interned.toArray }
  heap := heap
  slotsUsed := slotsUsed
  threads := #[{ frames := .invoking theMethod args0 :: below }]
def below0 : List Frame := [.native { method := ⟨0, 0⟩, args := #[] }]
def about1 : State := aboutOver below0
def p0 : Program := .bare "" "" ""
def e0 : Env := launch0.env 0 0 0
theorem w_frames : about1.frames = Frame.invoking theMethod args0 :: below0 := rfl
set_option maxRecDepth 65536 in
theorem w_args : argsFit about1.vm theMethod args0 = true := by decide +kernel
set_option maxRecDepth 65536 in
theorem w_heap : heapFits about1 = true := by decide +kernel
set_option maxRecDepth 65536 in
theorem w_runnable : about1.curStatus? = some .runnable := by decide +kernel
set_option maxRecDepth 65536 in
theorem w_alone : about1.alone = true := by decide +kernel
set_option maxRecDepth 65536 in
theorem w_named : about1.methodNamed? x = some theMethod := by decide +kernel
set_option maxRecDepth 65536 in
theorem w_hears : about1.hears theMethod below0 = true := by decide +kernel
set_option maxRecDepth 65536 in
theorem w_ripe : about1.ripe theMethod args0 below0 = true := by decide +kernel
theorem w_running : about1.status = .running := rfl
set_option maxRecDepth 65536 in
theorem w_room : about1.hasRoom e0.platform room_1 = true :=
  launch0.hasRoom_least _ room_1 (by decide +kernel) (by decide +kernel) (by decide +kernel) (by decide +kernel) (by decide +kernel) (by decide +kernel)
theorem allAtoms_all (ts : List Jvm.Cond) (a : Array Jvm.Value) (st : Jvm.State) : (allAtoms ts).before a st = ts.all (fun c => c.before a st) := by
  induction ts with
  | nil => rfl
  | cons c t ih =>
    show (Jvm.Cond.and c (allAtoms t)).before a st = _
    rw [Jvm.Cond.before_and, ih, List.all_cons]
def words1 : List Jvm.Cond := Jvm.Cond.code x code maxLocals ret :: tables_1
/-- a 'code' word, met by the world's own term for the bytes: nothing is compared byte by byte -/
theorem code_word {y : MethodName} {bytes : ByteArray} {mx : Nat} {rt : Option FieldType} {a : Array Value} {s : State} {m : MethodId} {meth : Method} {c : Code} (h1 : s.methodNamed? y = some m) (h2 : s.vm.method? m = some meth) (h3 : meth.code = some c) (h4 : c.code = bytes)
    (h5 : (c.maxLocals == mx && c.exceptionTable.isEmpty && decide (c.maxStack ≤ mostOperands) && decide (meth.sig.returnType = rt) && !meth.locks && decide (parseMethodDescriptor y.desc = some meth.sig)) = true) : (Jvm.Cond.code y bytes mx rt).before a s = true := by
  simp only [Bool.and_eq_true, beq_iff_eq, Bool.not_eq_true', decide_eq_true_eq] at h5
  obtain ⟨⟨⟨⟨⟨g1, g2⟩, g3⟩, g4⟩, g5⟩, g6⟩ := h5
  simp [Cond.before, Cond.holds, Cond.value, h1, h2, h3, h4, g1, g2, g3, g4, g5, g6]
def isCode : Jvm.Cond → Bool
  | .code _ _ _ _ => true
  | _ => false
theorem all_split {L : List Jvm.Cond} {P : Jvm.Cond → Bool} (h1 : L.all (fun c => isCode c || P c) = true) (h2 : ∀ c ∈ L.filter isCode, P c = true) : L.all P = true := by
  refine List.all_eq_true.mpr fun c hc => ?_
  have h := List.all_eq_true.mp h1 c hc
  rcases Bool.eq_false_or_eq_true (isCode c) with hi | hi
  · exact h2 c (List.mem_filter.mpr ⟨hc, hi⟩)
  · simpa [hi] using h
set_option maxRecDepth 65536 in
theorem w_c0 : (Jvm.Cond.code x code maxLocals ret).before args0 about1 = true := code_word (m := ⟨1, 1⟩) (meth := k1m1) (c := k1c1) (by decide +kernel) rfl rfl rfl (by decide +kernel)
set_option maxRecDepth 65536 in
theorem w_c1 : (Jvm.Cond.code ({ cls := "com/example/lungfish/lungfish/message/MessageHashParsePinLaw", name := "put16", desc := "([CIJI)V" } : Jvm.MethodName) method_4_code (5 : Nat) (Option.none : Option Jvm.ClassFile.FieldType)).before args0 about1 = true := code_word (m := ⟨1, 3⟩) (meth := k1m3) (c := k1c3) (by decide +kernel) rfl rfl rfl (by decide +kernel)
set_option maxRecDepth 65536 in
theorem w_c2 : (Jvm.Cond.code ({ cls := "com/example/lungfish/lungfish/message/MessageHashParsePinLaw", name := "digit", desc := "(JIII)C" } : Jvm.MethodName) method_3_code (6 : Nat) (Option.some Jvm.ClassFile.FieldType.char)).before args0 about1 = true := code_word (m := ⟨1, 2⟩) (meth := k1m2) (c := k1c2) (by decide +kernel) rfl rfl rfl (by decide +kernel)
set_option maxRecDepth 65536 in
theorem w_c3 : (Jvm.Cond.code ({ cls := "java/lang/String", name := "<init>", desc := "([C)V" } : Jvm.MethodName) jdk_42_method_3_code (2 : Nat) (Option.none : Option Jvm.ClassFile.FieldType)).before args0 about1 = true := code_word (m := ⟨7, 1⟩) (meth := k7m1) (c := k7c1) (by decide +kernel) rfl rfl rfl (by decide +kernel)
set_option maxRecDepth 65536 in
theorem w_c4 : (Jvm.Cond.code ({ cls := "java/lang/String", name := "<init>", desc := "([CIILjava/lang/Void;)V" } : Jvm.MethodName) jdk_42_method_149_code (6 : Nat) (Option.none : Option Jvm.ClassFile.FieldType)).before args0 about1 = true := code_word (m := ⟨7, 5⟩) (meth := k7m5) (c := k7c5) (by decide +kernel) rfl rfl rfl (by decide +kernel)
set_option maxRecDepth 65536 in
theorem w_c5 : (Jvm.Cond.code ({ cls := "java/lang/Object", name := "<init>", desc := "()V" } : Jvm.MethodName) object_method_1_code (1 : Nat) (Option.none : Option Jvm.ClassFile.FieldType)).before args0 about1 = true := code_word (m := ⟨0, 0⟩) (meth := k0m0) (c := k0c0) (by decide +kernel) rfl rfl rfl (by decide +kernel)
set_option maxRecDepth 65536 in
theorem w_c6 : (Jvm.Cond.code ({ cls := "java/lang/StringUTF16", name := "compress", desc := "([CII)[B" } : Jvm.MethodName) jdk_52_method_16_code (6 : Nat) (Option.some (Jvm.ClassFile.FieldType.array Jvm.ClassFile.FieldType.byte))).before args0 about1 = true := code_word (m := ⟨8, 2⟩) (meth := k8m2) (c := k8c2) (by decide +kernel) rfl rfl rfl (by decide +kernel)
set_option maxRecDepth 65536 in
theorem w_c7 : (Jvm.Cond.code ({ cls := "java/lang/StringUTF16", name := "compress", desc := "([CI[BII)I" } : Jvm.MethodName) jdk_52_method_21_code (7 : Nat) (Option.some Jvm.ClassFile.FieldType.int)).before args0 about1 = true := code_word (m := ⟨8, 3⟩) (meth := k8m3) (c := k8c3) (by decide +kernel) rfl rfl rfl (by decide +kernel)
set_option maxRecDepth 65536 in
theorem w_c8 : (Jvm.Cond.code ({ cls := "java/lang/StringUTF16", name := "coderFromArrayLen", desc := "([BI)B" } : Jvm.MethodName) jdk_52_method_15_code (2 : Nat) (Option.some Jvm.ClassFile.FieldType.byte)).before args0 about1 = true := code_word (m := ⟨8, 1⟩) (meth := k8m1) (c := k8c1) (by decide +kernel) rfl rfl rfl (by decide +kernel)
set_option maxRecDepth 65536 in
theorem w_c9 : (Jvm.Cond.code ({ cls := "com/example/lungfish/lungfish/message/MessageHash", name := "parse", desc := "(Ljava/lang/String;)Lcom/example/lungfish/lungfish/message/MessageHash;" } : Jvm.MethodName) prog_2_method_4_code (1 : Nat) (Option.some (Jvm.ClassFile.FieldType.object "com/example/lungfish/lungfish/message/MessageHash"))).before args0 about1 = true := code_word (m := ⟨9, 1⟩) (meth := k9m1) (c := k9c1) (by decide +kernel) rfl rfl rfl (by decide +kernel)
set_option maxRecDepth 65536 in
theorem w_c10 : (Jvm.Cond.code ({ cls := "java/lang/String", name := "length", desc := "()I" } : Jvm.MethodName) jdk_42_method_54_code (1 : Nat) (Option.some Jvm.ClassFile.FieldType.int)).before args0 about1 = true := code_word (m := ⟨7, 2⟩) (meth := k7m2) (c := k7c2) (by decide +kernel) rfl rfl rfl (by decide +kernel)
set_option maxRecDepth 65536 in
theorem w_c11 : (Jvm.Cond.code ({ cls := "java/lang/String", name := "coder", desc := "()B" } : Jvm.MethodName) jdk_42_method_152_code (1 : Nat) (Option.some Jvm.ClassFile.FieldType.byte)).before args0 about1 = true := code_word (m := ⟨7, 6⟩) (meth := k7m6) (c := k7c6) (by decide +kernel) rfl rfl rfl (by decide +kernel)
set_option maxRecDepth 65536 in
theorem w_c12 : (Jvm.Cond.code ({ cls := "java/util/HexFormat", name := "parseHex", desc := "(Ljava/lang/CharSequence;)[B" } : Jvm.MethodName) jdk_2580_method_19_code (2 : Nat) (Option.some (Jvm.ClassFile.FieldType.array Jvm.ClassFile.FieldType.byte))).before args0 about1 = true := code_word (m := ⟨10, 0⟩) (meth := k10m0) (c := k10c0) (by decide +kernel) rfl rfl rfl (by decide +kernel)
set_option maxRecDepth 65536 in
theorem w_c13 : (Jvm.Cond.code ({ cls := "java/util/HexFormat", name := "parseHex", desc := "(Ljava/lang/CharSequence;II)[B" } : Jvm.MethodName) jdk_2580_method_20_code (13 : Nat) (Option.some (Jvm.ClassFile.FieldType.array Jvm.ClassFile.FieldType.byte))).before args0 about1 = true := code_word (m := ⟨10, 1⟩) (meth := k10m1) (c := k10c1) (by decide +kernel) rfl rfl rfl (by decide +kernel)
set_option maxRecDepth 65536 in
theorem w_c14 : (Jvm.Cond.code ({ cls := "java/util/Objects", name := "requireNonNull", desc := "(Ljava/lang/Object;Ljava/lang/String;)Ljava/lang/Object;" } : Jvm.MethodName) jdk_31_method_11_code (2 : Nat) (Option.some (Jvm.ClassFile.FieldType.object "java/lang/Object"))).before args0 about1 = true := code_word (m := ⟨11, 1⟩) (meth := k11m1) (c := k11c1) (by decide +kernel) rfl rfl rfl (by decide +kernel)
set_option maxRecDepth 65536 in
theorem w_c15 : (Jvm.Cond.code ({ cls := "java/util/Objects", name := "checkFromToIndex", desc := "(III)I" } : Jvm.MethodName) jdk_31_method_18_code (3 : Nat) (Option.some Jvm.ClassFile.FieldType.int)).before args0 about1 = true := code_word (m := ⟨11, 2⟩) (meth := k11m2) (c := k11c2) (by decide +kernel) rfl rfl rfl (by decide +kernel)
set_option maxRecDepth 65536 in
theorem w_c16 : (Jvm.Cond.code ({ cls := "jdk/internal/util/Preconditions", name := "checkFromToIndex", desc := "(IIILjava/util/function/BiFunction;)I" } : Jvm.MethodName) jdk_41_method_12_code (4 : Nat) (Option.some Jvm.ClassFile.FieldType.int)).before args0 about1 = true := code_word (m := ⟨12, 2⟩) (meth := k12m2) (c := k12c2) (by decide +kernel) rfl rfl rfl (by decide +kernel)
set_option maxRecDepth 65536 in
theorem w_c17 : (Jvm.Cond.code ({ cls := "java/lang/String", name := "isEmpty", desc := "()Z" } : Jvm.MethodName) jdk_42_method_55_code (1 : Nat) (Option.some Jvm.ClassFile.FieldType.boolean)).before args0 about1 = true := code_word (m := ⟨7, 3⟩) (meth := k7m3) (c := k7c3) (by decide +kernel) rfl rfl rfl (by decide +kernel)
set_option maxRecDepth 65536 in
theorem w_c18 : (Jvm.Cond.code ({ cls := "java/util/HexFormat", name := "parseNoDelimiter", desc := "(Ljava/lang/CharSequence;)[B" } : Jvm.MethodName) jdk_2580_method_33_code (3 : Nat) (Option.some (Jvm.ClassFile.FieldType.array Jvm.ClassFile.FieldType.byte))).before args0 about1 = true := code_word (m := ⟨10, 2⟩) (meth := k10m2) (c := k10c2) (by decide +kernel) rfl rfl rfl (by decide +kernel)
set_option maxRecDepth 65536 in
theorem w_c19 : (Jvm.Cond.code ({ cls := "java/util/HexFormat", name := "fromHexDigits", desc := "(Ljava/lang/CharSequence;I)I" } : Jvm.MethodName) jdk_2580_method_37_code (4 : Nat) (Option.some Jvm.ClassFile.FieldType.int)).before args0 about1 = true := code_word (m := ⟨10, 4⟩) (meth := k10m4) (c := k10c4) (by decide +kernel) rfl rfl rfl (by decide +kernel)
set_option maxRecDepth 65536 in
theorem w_c20 : (Jvm.Cond.code ({ cls := "java/lang/String", name := "charAt", desc := "(I)C" } : Jvm.MethodName) jdk_42_method_56_code (2 : Nat) (Option.some Jvm.ClassFile.FieldType.char)).before args0 about1 = true := code_word (m := ⟨7, 4⟩) (meth := k7m4) (c := k7c4) (by decide +kernel) rfl rfl rfl (by decide +kernel)
set_option maxRecDepth 65536 in
theorem w_c21 : (Jvm.Cond.code ({ cls := "java/lang/String", name := "isLatin1", desc := "()Z" } : Jvm.MethodName) jdk_42_method_154_code (1 : Nat) (Option.some Jvm.ClassFile.FieldType.boolean)).before args0 about1 = true := code_word (m := ⟨7, 7⟩) (meth := k7m7) (c := k7c7) (by decide +kernel) rfl rfl rfl (by decide +kernel)
set_option maxRecDepth 65536 in
theorem w_c22 : (Jvm.Cond.code ({ cls := "java/lang/StringLatin1", name := "charAt", desc := "([BI)C" } : Jvm.MethodName) jdk_43_method_2_code (2 : Nat) (Option.some Jvm.ClassFile.FieldType.char)).before args0 about1 = true := code_word (m := ⟨13, 1⟩) (meth := k13m1) (c := k13c1) (by decide +kernel) rfl rfl rfl (by decide +kernel)
set_option maxRecDepth 65536 in
theorem w_c23 : (Jvm.Cond.code ({ cls := "java/lang/String", name := "checkIndex", desc := "(II)V" } : Jvm.MethodName) jdk_42_method_155_code (2 : Nat) (Option.none : Option Jvm.ClassFile.FieldType)).before args0 about1 = true := code_word (m := ⟨7, 8⟩) (meth := k7m8) (c := k7c8) (by decide +kernel) rfl rfl rfl (by decide +kernel)
set_option maxRecDepth 65536 in
theorem w_c24 : (Jvm.Cond.code ({ cls := "jdk/internal/util/Preconditions", name := "checkIndex", desc := "(IILjava/util/function/BiFunction;)I" } : Jvm.MethodName) jdk_41_method_11_code (3 : Nat) (Option.some Jvm.ClassFile.FieldType.int)).before args0 about1 = true := code_word (m := ⟨12, 1⟩) (meth := k12m1) (c := k12c1) (by decide +kernel) rfl rfl rfl (by decide +kernel)
set_option maxRecDepth 65536 in
theorem w_c25 : (Jvm.Cond.code ({ cls := "java/util/HexFormat", name := "fromHexDigit", desc := "(I)I" } : Jvm.MethodName) jdk_2580_method_36_code (2 : Nat) (Option.some Jvm.ClassFile.FieldType.int)).before args0 about1 = true := code_word (m := ⟨10, 3⟩) (meth := k10m3) (c := k10c3) (by decide +kernel) rfl rfl rfl (by decide +kernel)
set_option maxRecDepth 65536 in
theorem w_c26 : (Jvm.Cond.code ({ cls := "com/example/lungfish/lungfish/message/MessageHash", name := "<init>", desc := "([B)V" } : Jvm.MethodName) prog_2_method_1_code (2 : Nat) (Option.none : Option Jvm.ClassFile.FieldType)).before args0 about1 = true := code_word (m := ⟨9, 0⟩) (meth := k9m0) (c := k9c0) (by decide +kernel) rfl rfl rfl (by decide +kernel)
set_option maxRecDepth 65536 in
theorem w_c27 : (Jvm.Cond.code ({ cls := "com/example/lungfish/lungfish/message/MessageHash", name := "toByteArray", desc := "()[B" } : Jvm.MethodName) prog_2_method_5_code (1 : Nat) (Option.some (Jvm.ClassFile.FieldType.array Jvm.ClassFile.FieldType.byte))).before args0 about1 = true := code_word (m := ⟨9, 2⟩) (meth := k9m2) (c := k9c2) (by decide +kernel) rfl rfl rfl (by decide +kernel)
set_option maxRecDepth 65536 in
theorem w_c28 : (Jvm.Cond.code ({ cls := "com/example/lungfish/lungfish/message/MessageHashParsePinLaw", name := "same8", desc := "([BIJ)Z" } : Jvm.MethodName) method_5_code (4 : Nat) (Option.some Jvm.ClassFile.FieldType.boolean)).before args0 about1 = true := code_word (m := ⟨1, 4⟩) (meth := k1m4) (c := k1c4) (by decide +kernel) rfl rfl rfl (by decide +kernel)
def codes1 : List Jvm.Cond := [Jvm.Cond.code x code maxLocals ret, Jvm.Cond.code ({ cls := "com/example/lungfish/lungfish/message/MessageHashParsePinLaw", name := "put16", desc := "([CIJI)V" } : Jvm.MethodName) method_4_code (5 : Nat) (Option.none : Option Jvm.ClassFile.FieldType), Jvm.Cond.code ({ cls := "com/example/lungfish/lungfish/message/MessageHashParsePinLaw", name := "digit", desc := "(JIII)C" } : Jvm.MethodName) method_3_code (6 : Nat) (Option.some Jvm.ClassFile.FieldType.char), Jvm.Cond.code ({ cls := "java/lang/String", name := "<init>", desc := "([C)V" } : Jvm.MethodName) jdk_42_method_3_code (2 : Nat) (Option.none : Option Jvm.ClassFile.FieldType), Jvm.Cond.code ({ cls := "java/lang/String", name := "<init>", desc := "([CIILjava/lang/Void;)V" } : Jvm.MethodName) jdk_42_method_149_code (6 : Nat) (Option.none : Option Jvm.ClassFile.FieldType), Jvm.Cond.code ({ cls := "java/lang/Object", name := "<init>", desc := "()V" } : Jvm.MethodName) object_method_1_code (1 : Nat) (Option.none : Option Jvm.ClassFile.FieldType), Jvm.Cond.code ({ cls := "java/lang/StringUTF16", name := "compress", desc := "([CII)[B" } : Jvm.MethodName) jdk_52_method_16_code (6 : Nat) (Option.some (Jvm.ClassFile.FieldType.array Jvm.ClassFile.FieldType.byte)), Jvm.Cond.code ({ cls := "java/lang/StringUTF16", name := "compress", desc := "([CI[BII)I" } : Jvm.MethodName) jdk_52_method_21_code (7 : Nat) (Option.some Jvm.ClassFile.FieldType.int), Jvm.Cond.code ({ cls := "java/lang/StringUTF16", name := "coderFromArrayLen", desc := "([BI)B" } : Jvm.MethodName) jdk_52_method_15_code (2 : Nat) (Option.some Jvm.ClassFile.FieldType.byte), Jvm.Cond.code ({ cls := "com/example/lungfish/lungfish/message/MessageHash", name := "parse", desc := "(Ljava/lang/String;)Lcom/example/lungfish/lungfish/message/MessageHash;" } : Jvm.MethodName) prog_2_method_4_code (1 : Nat) (Option.some (Jvm.ClassFile.FieldType.object "com/example/lungfish/lungfish/message/MessageHash")), Jvm.Cond.code ({ cls := "java/lang/String", name := "length", desc := "()I" } : Jvm.MethodName) jdk_42_method_54_code (1 : Nat) (Option.some Jvm.ClassFile.FieldType.int), Jvm.Cond.code ({ cls := "java/lang/String", name := "coder", desc := "()B" } : Jvm.MethodName) jdk_42_method_152_code (1 : Nat) (Option.some Jvm.ClassFile.FieldType.byte), Jvm.Cond.code ({ cls := "java/util/HexFormat", name := "parseHex", desc := "(Ljava/lang/CharSequence;)[B" } : Jvm.MethodName) jdk_2580_method_19_code (2 : Nat) (Option.some (Jvm.ClassFile.FieldType.array Jvm.ClassFile.FieldType.byte)), Jvm.Cond.code ({ cls := "java/util/HexFormat", name := "parseHex", desc := "(Ljava/lang/CharSequence;II)[B" } : Jvm.MethodName) jdk_2580_method_20_code (13 : Nat) (Option.some (Jvm.ClassFile.FieldType.array Jvm.ClassFile.FieldType.byte)), Jvm.Cond.code ({ cls := "java/util/Objects", name := "requireNonNull", desc := "(Ljava/lang/Object;Ljava/lang/String;)Ljava/lang/Object;" } : Jvm.MethodName) jdk_31_method_11_code (2 : Nat) (Option.some (Jvm.ClassFile.FieldType.object "java/lang/Object")), Jvm.Cond.code ({ cls := "java/util/Objects", name := "checkFromToIndex", desc := "(III)I" } : Jvm.MethodName) jdk_31_method_18_code (3 : Nat) (Option.some Jvm.ClassFile.FieldType.int), Jvm.Cond.code ({ cls := "jdk/internal/util/Preconditions", name := "checkFromToIndex", desc := "(IIILjava/util/function/BiFunction;)I" } : Jvm.MethodName) jdk_41_method_12_code (4 : Nat) (Option.some Jvm.ClassFile.FieldType.int), Jvm.Cond.code ({ cls := "java/lang/String", name := "isEmpty", desc := "()Z" } : Jvm.MethodName) jdk_42_method_55_code (1 : Nat) (Option.some Jvm.ClassFile.FieldType.boolean), Jvm.Cond.code ({ cls := "java/util/HexFormat", name := "parseNoDelimiter", desc := "(Ljava/lang/CharSequence;)[B" } : Jvm.MethodName) jdk_2580_method_33_code (3 : Nat) (Option.some (Jvm.ClassFile.FieldType.array Jvm.ClassFile.FieldType.byte)), Jvm.Cond.code ({ cls := "java/util/HexFormat", name := "fromHexDigits", desc := "(Ljava/lang/CharSequence;I)I" } : Jvm.MethodName) jdk_2580_method_37_code (4 : Nat) (Option.some Jvm.ClassFile.FieldType.int), Jvm.Cond.code ({ cls := "java/lang/String", name := "charAt", desc := "(I)C" } : Jvm.MethodName) jdk_42_method_56_code (2 : Nat) (Option.some Jvm.ClassFile.FieldType.char), Jvm.Cond.code ({ cls := "java/lang/String", name := "isLatin1", desc := "()Z" } : Jvm.MethodName) jdk_42_method_154_code (1 : Nat) (Option.some Jvm.ClassFile.FieldType.boolean), Jvm.Cond.code ({ cls := "java/lang/StringLatin1", name := "charAt", desc := "([BI)C" } : Jvm.MethodName) jdk_43_method_2_code (2 : Nat) (Option.some Jvm.ClassFile.FieldType.char), Jvm.Cond.code ({ cls := "java/lang/String", name := "checkIndex", desc := "(II)V" } : Jvm.MethodName) jdk_42_method_155_code (2 : Nat) (Option.none : Option Jvm.ClassFile.FieldType), Jvm.Cond.code ({ cls := "jdk/internal/util/Preconditions", name := "checkIndex", desc := "(IILjava/util/function/BiFunction;)I" } : Jvm.MethodName) jdk_41_method_11_code (3 : Nat) (Option.some Jvm.ClassFile.FieldType.int), Jvm.Cond.code ({ cls := "java/util/HexFormat", name := "fromHexDigit", desc := "(I)I" } : Jvm.MethodName) jdk_2580_method_36_code (2 : Nat) (Option.some Jvm.ClassFile.FieldType.int), Jvm.Cond.code ({ cls := "com/example/lungfish/lungfish/message/MessageHash", name := "<init>", desc := "([B)V" } : Jvm.MethodName) prog_2_method_1_code (2 : Nat) (Option.none : Option Jvm.ClassFile.FieldType), Jvm.Cond.code ({ cls := "com/example/lungfish/lungfish/message/MessageHash", name := "toByteArray", desc := "()[B" } : Jvm.MethodName) prog_2_method_5_code (1 : Nat) (Option.some (Jvm.ClassFile.FieldType.array Jvm.ClassFile.FieldType.byte)), Jvm.Cond.code ({ cls := "com/example/lungfish/lungfish/message/MessageHashParsePinLaw", name := "same8", desc := "([BIJ)Z" } : Jvm.MethodName) method_5_code (4 : Nat) (Option.some Jvm.ClassFile.FieldType.boolean)]
set_option maxRecDepth 65536 in
theorem codes_eq : words1.filter isCode = codes1 := rfl
theorem w_codes : ∀ c ∈ words1.filter isCode, c.before args0 about1 = true := by
  rw [codes_eq]
  intro c hc
  simp only [codes1, List.mem_cons, List.not_mem_nil, or_false] at hc
  rcases hc with rfl | rfl | rfl | rfl | rfl | rfl | rfl | rfl | rfl | rfl | rfl | rfl | rfl | rfl | rfl | rfl | rfl | rfl | rfl | rfl | rfl | rfl | rfl | rfl | rfl | rfl | rfl | rfl | rfl
  · exact w_c0
  · exact w_c1
  · exact w_c2
  · exact w_c3
  · exact w_c4
  · exact w_c5
  · exact w_c6
  · exact w_c7
  · exact w_c8
  · exact w_c9
  · exact w_c10
  · exact w_c11
  · exact w_c12
  · exact w_c13
  · exact w_c14
  · exact w_c15
  · exact w_c16
  · exact w_c17
  · exact w_c18
  · exact w_c19
  · exact w_c20
  · exact w_c21
  · exact w_c22
  · exact w_c23
  · exact w_c24
  · exact w_c25
  · exact w_c26
  · exact w_c27
  · exact w_c28
set_option maxRecDepth 65536 in
theorem w_t1 : (words1.take 24).all (fun c => isCode c || c.before args0 about1) = true := by decide +kernel
set_option maxRecDepth 65536 in
theorem w_t2 : ((words1.drop 24).take 24).all (fun c => isCode c || c.before args0 about1) = true := by decide +kernel
set_option maxRecDepth 65536 in
theorem w_t3 : (((words1.drop 24).drop 24).take 24).all (fun c => isCode c || c.before args0 about1) = true := by decide +kernel
set_option maxRecDepth 65536 in
theorem w_t4 : ((((words1.drop 24).drop 24).drop 24).take 24).all (fun c => isCode c || c.before args0 about1) = true := by decide +kernel
set_option maxRecDepth 65536 in
theorem w_t5 : (((((words1.drop 24).drop 24).drop 24).drop 24).take 24).all (fun c => isCode c || c.before args0 about1) = true := by decide +kernel
set_option maxRecDepth 65536 in
theorem w_t6 : ((((((words1.drop 24).drop 24).drop 24).drop 24).drop 24).take 24).all (fun c => isCode c || c.before args0 about1) = true := by decide +kernel
set_option maxRecDepth 65536 in
theorem w_t7 : ((((((words1.drop 24).drop 24).drop 24).drop 24).drop 24).drop 24).all (fun c => isCode c || c.before args0 about1) = true := by decide +kernel
theorem w_tables : (allAtoms (Jvm.Cond.code x code maxLocals ret :: tables_1)).before args0 about1 = true := by
  rw [allAtoms_all]
  show words1.all (fun c => c.before args0 about1) = true
  refine all_split ?_ w_codes
  rw [← List.take_append_drop 24 words1, List.all_append, w_t1, ← List.take_append_drop 24 (words1.drop 24), List.all_append, w_t2, ← List.take_append_drop 24 ((words1.drop 24).drop 24), List.all_append, w_t3, ← List.take_append_drop 24 (((words1.drop 24).drop 24).drop 24), List.all_append, w_t4, ← List.take_append_drop 24 ((((words1.drop 24).drop 24).drop 24).drop 24), List.all_append, w_t5, ← List.take_append_drop 24 (((((words1.drop 24).drop 24).drop 24).drop 24).drop 24), List.all_append, w_t6, w_t7]
  rfl
set_option maxRecDepth 65536 in
theorem w_rest : rest_1_c.before args0 about1 = true := by decide +kernel
set_option maxRecDepth 65536 in
theorem w_case : (Jvm.Cond.and given_1 narrow_1).before args0 about1 = true := by decide +kernel
theorem w_applies : (headSpec (Jvm.Cond.code x code maxLocals ret :: tables_1) room_1).applies x e0.platform about1 = true :=
  (Spec.applies_iff w_frames).mpr ⟨w_running, w_runnable, w_alone, w_named, w_hears, w_ripe, w_room, w_tables⟩
theorem atStart : AtStart classFile x code maxLocals ret World_1 tables_1 room_1 Calls_1 rest_1 Pre_1 launch0 p0 e0 about1 theMethod args0 below0 :=
  ⟨lists_1, trivial, launch0.admits_env _ _ _, launch0.least_env, fairChoices_fair.cas, fairChoices_fair.clock, w_frames, w_args, w_heap, w_applies, trivial, w_rest, w_case⟩
end start1
theorem witness_1 : WitnessClaimed_1 := ⟨start1.p0, start1.e0, start1.about1, start1.theMethod, start1.args0, start1.below0, start1.atStart⟩
end Jvm.Pilot.@@N@@
