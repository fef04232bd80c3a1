import JvmDerived
import JvmDerived.Pilot.@@N@@Statement
import JvmDerived.Pilot.@@N@@Code
set_option linter.unusedVariables false
set_option linter.unusedSimpArgs false
namespace Jvm.RoadKit
open Sem ClassFile Op Lib Jvm.Stand Jvm.Free Jvm.LawKit
section New
variable {p : Program} {l : Launch} {e : Env} {R : Room} {s : State} {m : MethodId} {args : Array Value} {below : List Frame} {meth : Method} {c : Code} {T : State} {locs : List Loc} {cells slots : Nat}
theorem retI (X : Stand p l e R s m args below meth c T locs cells slots) (hx : p.tables.exec = Jvm.exec) {pc : Nat} {Ls : Array Slot} {z : Int32} {rest : List Value} (hret : meth.sig.returnType = some .int) (hd : decode c.code pc = .ok (.ireturn, 1)) {fs : List Frame}
    (hl : ∀ (f : JFrame) (acts : List Action), f.method = m → f.locked = none → f.entered = [] → (doReturn e (T.setTop f) acts (some (.int z))).1 = T.setFrames fs) : Steps p.tables e below (T.setTop (mkF m pc Ls (.int z :: rest))) (T.setFrames fs) := by
  have hm' : T.vm.method? m = some meth := X.method'
  have hn : narrow .int (.int z) = .int z := rfl
  show Steps p.tables e below (T.setTop { method := m, pc := pc, locals := Ls, stack := _ :: rest, locked := none }) _
  jvm_step X.here [X.here.top, hx, hd, hm', hret, hn]
  first | (intro acts; rw [hl _ acts rfl rfl rfl]) | rw [hl _ _ rfl rfl rfl]
  exact Steps.refl _
end New
end Jvm.RoadKit
/- laws to paste: Road.backV, Road.codOf (cut by pick.py; bodies as the Statement names them) -/
namespace Jvm.Pilot.@@N@@
namespace StrChars
open Jvm Sem ClassFile Op Lib Jvm.Stand Jvm.Free.XT Jvm.Free.ALB Jvm.Free.JM Jvm.Free
open Jvm.Lib.Cold (StaticIs)
/-- a char array whose places are chars -/
def Ch (a : Addr) (A : Cell) (U : State) : Prop := Arr .char a A U ∧ Typed .char A
theorem Ch.mv {a : Addr} {A : Cell} {U U' : State} (h : Ch a A U) (hal : U.vm.Alike U'.vm) (hh : U'.heap = U.heap) : Ch a A U' := ⟨h.1.mv hal hh, h.2⟩
theorem Ch.keep {a : Addr} {A : Cell} {U U' : State} (h : Ch a A U) (hal : U.vm.Alike U'.vm) (hk : U'.heap[a]? = some A) : Ch a A U' := ⟨h.1.keep hal hk, h.2⟩
/-- what place i of a char[]'s cell holds -/
def cv (A : Cell) (i : Nat) : Int32 := match A.slots[i]? with | some (.int x) => x | _ => 0
theorem Ch.get {a : Addr} {A : Cell} {U : State} (h : Ch a A U) {i : Nat} (hi : i < A.slots.size) : A.slots[i]? = some (.int (cv A i)) := by
  have e := Array.getElem?_eq_getElem hi
  have f := h.2 i _ e
  unfold cv; rw [e]
  generalize A.slots[i] = v at f
  cases v <;> simp [fits] at f ⊢
/-- the byte that i2b leaves of a char -/
def lo8 (x : Int32) : Int32 := x.toInt8.toInt32
theorem fits_lo8 (y : Int32) : fits .byte (.int (lo8 y)) = true := by
  have h1 := y.toInt8.le_toInt
  have h2 := y.toInt8.toInt_lt
  simp only [lo8, fits, Bool.and_eq_true, decide_eq_true_eq, Int32.le_iff_toInt_le, Int8.toInt_toInt32, show (-128 : Int32).toInt = -128 from by decide, show (127 : Int32).toInt = 127 from by decide]
  omega
/-- A' is A but that each place j of lo .. hi - 1 holds f j -/
def Laid (A A' : Cell) (lo hi : Nat) (f : Nat → Value) : Prop := A'.cls = A.cls ∧ A'.vm = A.vm ∧ A'.slots.size = A.slots.size ∧ ∀ i, A'.slots[i]? = if lo ≤ i ∧ i < hi then some (f i) else A.slots[i]?
theorem Laid.zero (A : Cell) (lo : Nat) (f : Nat → Value) : Laid A A lo (lo + 0) f := ⟨rfl, rfl, rfl, fun i => by rw [if_neg (by omega)]⟩
theorem Laid.step {A Ak : Cell} {lo k : Nat} {f : Nat → Value} {v : Value} (h : Laid A Ak lo k f) (hlo : lo ≤ k) (hk : k < Ak.slots.size) (hv : v = f k) : Laid A (Ak.setSlot k v) lo (k + 1) f := by
  refine ⟨h.1, h.2.1, by simpa [Cell.setSlot] using h.2.2.1, fun i => ?_⟩
  by_cases e : k = i
  · subst e; rw [Cell.slots_setSlot_self v hk, if_pos (by omega), hv]
  · rw [Cell.slots_setSlot_ne v e, h.2.2.2 i]
    by_cases q : lo ≤ i ∧ i < k
    · rw [if_pos q, if_pos (by omega)]
    · rw [if_neg q, if_neg (by omega)]
def U16 : String := "java/lang/StringUTF16"
namespace Cmp5
def yN : MethodName := ⟨"java/lang/StringUTF16", "compress", "([CI[BII)I"⟩
abbrev yB : ByteArray := jdk_52_method_21_code
theorem d0 : decode yB 0 = .ok (.iconst 0, 1) := by decide +kernel
theorem d1 : decode yB 1 = .ok (.istore 5, 2) := by decide +kernel
theorem d3 : decode yB 3 = .ok (.iload 5, 2) := by decide +kernel
theorem d5 : decode yB 5 = .ok (.iload 4, 2) := by decide +kernel
theorem d7 : decode yB 7 = .ok (.if_icmp (.ge) 37, 3) := by decide +kernel
theorem d10 : decode yB 10 = .ok (.aload_n 0, 1) := by decide +kernel
theorem d11 : decode yB 11 = .ok (.iload_n 1, 1) := by decide +kernel
theorem d12 : decode yB 12 = .ok (.caload, 1) := by decide +kernel
theorem d13 : decode yB 13 = .ok (.istore 6, 2) := by decide +kernel
theorem d15 : decode yB 15 = .ok (.iload 6, 2) := by decide +kernel
theorem d17 : decode yB 17 = .ok (.sipush 255, 3) := by decide +kernel
theorem d20 : decode yB 20 = .ok (.if_icmp (.le) 6, 3) := by decide +kernel
theorem d26 : decode yB 26 = .ok (.aload_n 2, 1) := by decide +kernel
theorem d27 : decode yB 27 = .ok (.iload_n 3, 1) := by decide +kernel
theorem d28 : decode yB 28 = .ok (.iload 6, 2) := by decide +kernel
theorem d30 : decode yB 30 = .ok (.i2b, 1) := by decide +kernel
theorem d31 : decode yB 31 = .ok (.bastore, 1) := by decide +kernel
theorem d32 : decode yB 32 = .ok (.iinc 1 1, 3) := by decide +kernel
theorem d35 : decode yB 35 = .ok (.iinc 3 1, 3) := by decide +kernel
theorem d38 : decode yB 38 = .ok (.iinc 5 1, 3) := by decide +kernel
theorem d41 : decode yB 41 = .ok (.goto (-38), 3) := by decide +kernel
theorem d44 : decode yB 44 = .ok (.iload 4, 2) := by decide +kernel
theorem d46 : decode yB 46 = .ok (.ireturn, 1) := by decide +kernel
def site : List Cond := []
def tab : Cond := tabOf yN yB 7 (some .int) site
def P (b : Addr) (A : Cell) (d : Addr) (B : Cell) (o q len : Nat) (args : Array Value) (s : State) : Prop := args = #[.ref b, .int (Int32.ofNat o), .ref d, .int (Int32.ofNat q), .int (Int32.ofNat len)] ∧ Ch b A s ∧ Arr .byte d B s ∧ b ≠ d ∧ o + len ≤ A.slots.size ∧ q + len ≤ B.slots.size ∧ ∀ i, i < len → ¬ 255 < cv A (o + i)
def E (b : Addr) (A : Cell) (d : Addr) (B : Cell) (o q len : Nat) (r : Option Value) (s u : State) : Prop := r = some (.int (Int32.ofNat len)) ∧ ∃ B', Put d B' s u ∧ Laid B B' q (q + len) (fun j => Value.int (lo8 (cv A (o + (j - q)))))
/-- no char of the range above 255: len; the places written hold each char's low byte -/
theorem law (l : Launch) (b : Addr) (A : Cell) (d : Addr) (B : Cell) (o q len : Nat) : Law l yN 5 5 0 0 yB 7 (some .int) site (P b A d B o q len) (E b A d B o q len) (copyLocs d q len) 0 0 := by
  refine Law.of_walk (plainFor_of_name (by decide +kernel)) (by decide +kernel) (by decide +kernel) (by decide) (fun _ _ h => by rw [h.1]; rfl) (fun _ U U' hal hh h => ⟨h.1, h.2.1.mv hal hh, h.2.2.1.mv hal hh, h.2.2.2⟩) (fun r U U' V V' h1 hal h2 h => ⟨h.1, h.2.elim fun B' q => ⟨B', q.1.mv h1 h2, q.2⟩⟩) ?_
  intro p e s m args below meth c s₁ X0 hexec hbytes hml hret hlk hnm hown hh0 W hP
  obtain ⟨rfl, hA, hB, hne, l1, l2, hp⟩ := hP
  have c1 : Steps p.tables e below (s₁.setTop (entryFrame m #[.ref b, .int (Int32.ofNat o), .ref d, .int (Int32.ofNat q), .int (Int32.ofNat len)] 7)) (s₁.setTop (mkF m 0 #[.val (.ref b), .val (.int (Int32.ofNat o)), .val (.ref d), .val (.int (Int32.ofNat q)), .val (.int (Int32.ofNat len)), .unset, .unset] [])) := entry rfl
  have hA0 := hA.1.mv X0.warmed.alike hh0
  have hB0 := hB.mv X0.warmed.alike hh0
  have a31 := hA.1.2.2.2
  have c2 : Steps p.tables e below (s₁.setTop (entryFrame m #[.ref b, .int (Int32.ofNat o), .ref d, .int (Int32.ofNat q), .int (Int32.ofNat len)] 7)) (s₁.setTop (mkF m 3 #[.val (.ref b), .val (.int (Int32.ofNat o)), .val (.ref d), .val (.int (Int32.ofNat q)), .val (.int (Int32.ofNat len)), .val (.int 0), .unset] [])) := c1.trans (by
    refine iconstV X0.here hexec rfl 0 (hb hbytes d0) (by decide) ?_
    refine XS.istore X0.here hexec rfl (hb hbytes d1) rfl rfl ?_
    exact Steps.refl _)
  have loop : ∀ (r i : Nat), i + r = len → ∀ (z : Slot), (z = .unset ∨ ∃ w, z = .val w ∧ w.category = 1) → ∀ (Tl : State) (Bk : Cell), Stand p l e { frames := 0, locals := 0, cells := 0, slots := 0 } s m #[.ref b, .int (Int32.ofNat o), .ref d, .int (Int32.ofNat q), .int (Int32.ofNat len)] below meth c Tl ([] ++ copyLocs d q i) 0 0 → Put d Bk s₁ Tl → Laid B Bk q (q + i) (fun j => Value.int (lo8 (cv A (o + (j - q))))) →
      Steps p.tables e below (s₁.setTop (entryFrame m #[.ref b, .int (Int32.ofNat o), .ref d, .int (Int32.ofNat q), .int (Int32.ofNat len)] 7)) (Tl.setTop (mkF m 3 #[.val (.ref b), .val (.int (Int32.ofNat (o + i))), .val (.ref d), .val (.int (Int32.ofNat (q + i))), .val (.int (Int32.ofNat len)), .val (.int (Int32.ofNat i)), z] [])) → ∃ (T' : State) (B' : Cell) (z' : Slot), Stand p l e { frames := 0, locals := 0, cells := 0, slots := 0 } s m #[.ref b, .int (Int32.ofNat o), .ref d, .int (Int32.ofNat q), .int (Int32.ofNat len)] below meth c T' ([] ++ copyLocs d q len) 0 0 ∧ Put d B' s₁ T' ∧ Laid B B' q (q + len) (fun j => Value.int (lo8 (cv A (o + (j - q))))) ∧
      Steps p.tables e below (s₁.setTop (entryFrame m #[.ref b, .int (Int32.ofNat o), .ref d, .int (Int32.ofNat q), .int (Int32.ofNat len)] 7)) (T'.setTop (mkF m 3 #[.val (.ref b), .val (.int (Int32.ofNat (o + len))), .val (.ref d), .val (.int (Int32.ofNat (q + len))), .val (.int (Int32.ofNat len)), .val (.int (Int32.ofNat len)), z'] [])) := by
    intro r
    induction r with
    | zero =>
      intro i hi z hz Tl Bk Xl pl fl cl
      have hil : i = len := by omega
      rw [hil] at Xl fl cl
      exact ⟨Tl, Bk, z, Xl, pl, fl, cl⟩
    | succ r ih =>
      intro i hi z hz Tl Bk Xl pl fl cl
      have all := X0.warmed.alike.symm.trans Xl.warmed.alike
      have hAl := hA0.keep all (pl.other hne hA0.1)
      have hBk := hB0.like all pl.1 fl.1 fl.2.1 fl.2.2.1
      have hlt : q + i < Bk.slots.size := by rw [fl.2.2.1]; omega
      have c3 : Steps p.tables e below (s₁.setTop (entryFrame m #[.ref b, .int (Int32.ofNat o), .ref d, .int (Int32.ofNat q), .int (Int32.ofNat len)] 7)) (Tl.setTop (mkF m 12 #[.val (.ref b), .val (.int (Int32.ofNat (o + i))), .val (.ref d), .val (.int (Int32.ofNat (q + i))), .val (.int (Int32.ofNat len)), .val (.int (Int32.ofNat i)), z] [.int (Int32.ofNat (o + i)), .ref b])) := cl.trans (by
        refine XS.iload Xl.here hexec rfl (hb hbytes d3) rfl ?_
        refine XS.iload Xl.here hexec rfl (hb hbytes d5) rfl ?_
        refine XS.icmpNo Xl.here hexec rfl (hb hbytes d7) rfl (ii_ge_f (lt32 (by omega) (by omega))) ?_
        refine XS.aloadN Xl.here hexec rfl (hb hbytes d10) rfl rfl ?_
        refine XS.iloadN Xl.here hexec rfl (hb hbytes d11) rfl ?_
        exact Steps.refl _)
      have c4 : Steps p.tables e below (s₁.setTop (entryFrame m #[.ref b, .int (Int32.ofNat o), .ref d, .int (Int32.ofNat q), .int (Int32.ofNat len)] 7)) (Tl.setTop (mkF m 13 #[.val (.ref b), .val (.int (Int32.ofNat (o + i))), .val (.ref d), .val (.int (Int32.ofNat (q + i))), .val (.int (Int32.ofNat len)), .val (.int (Int32.ofNat i)), z] [.int (cv A (o + i))])) := c3.trans (by
        refine Xl.aget hexec hAl rfl (hA.get (i := o + i) (by omega)) rfl rfl (hb hbytes d12) ?_
        exact Steps.refl _)
      have c5 : Steps p.tables e below (s₁.setTop (entryFrame m #[.ref b, .int (Int32.ofNat o), .ref d, .int (Int32.ofNat q), .int (Int32.ofNat len)] 7)) (Tl.setTop (mkF m 15 #[.val (.ref b), .val (.int (Int32.ofNat (o + i))), .val (.ref d), .val (.int (Int32.ofNat (q + i))), .val (.int (Int32.ofNat len)), .val (.int (Int32.ofNat i)), .val (.int (cv A (o + i)))] [])) := c4.trans (by
        refine XS.istoreS Xl.here hexec rfl (hb hbytes d13) rfl rfl hz ?_
        exact Steps.refl _)
      have c6 : Steps p.tables e below (s₁.setTop (entryFrame m #[.ref b, .int (Int32.ofNat o), .ref d, .int (Int32.ofNat q), .int (Int32.ofNat len)] 7)) (Tl.setTop (mkF m 31 #[.val (.ref b), .val (.int (Int32.ofNat (o + i))), .val (.ref d), .val (.int (Int32.ofNat (q + i))), .val (.int (Int32.ofNat len)), .val (.int (Int32.ofNat i)), .val (.int (cv A (o + i)))] [.int (lo8 (cv A (o + i))), .int (Int32.ofNat (q + i)), .ref d])) := c5.trans (by
        refine XS.iload Xl.here hexec rfl (hb hbytes d15) rfl ?_
        refine sipushV Xl.here hexec rfl 255 (hb hbytes d17) (by decide) ?_
        refine XS.icmpYes Xl.here hexec rfl (pc0 := 20) rfl (hb hbytes d20) rfl (ii_le_t (hp i (by omega))) (by decide) rfl ?_
        refine XS.aloadN Xl.here hexec rfl (hb hbytes d26) rfl rfl ?_
        refine XS.iloadN Xl.here hexec rfl (hb hbytes d27) rfl ?_
        refine XS.iload Xl.here hexec rfl (hb hbytes d28) rfl ?_
        refine i2b Xl.here hexec rfl (hb hbytes d30) rfl ?_
        exact Steps.refl _)
      obtain ⟨T7, X7, p7, st7⟩ := Xl.aput hexec hBk rfl hlt rfl (fits_lo8 (cv A (o + i))) (g := (mkF m 31 #[.val (.ref b), .val (.int (Int32.ofNat (o + i))), .val (.ref d), .val (.int (Int32.ofNat (q + i))), .val (.int (Int32.ofNat len)), .val (.int (Int32.ofNat i)), .val (.int (cv A (o + i)))] [.int (lo8 (cv A (o + i))), .int (Int32.ofNat (q + i)), .ref d])) rfl (rest := []) rfl (hb hbytes d31)
      have c8 : Steps p.tables e below (s₁.setTop (entryFrame m #[.ref b, .int (Int32.ofNat o), .ref d, .int (Int32.ofNat q), .int (Int32.ofNat len)] 7)) (T7.setTop (mkF m 32 #[.val (.ref b), .val (.int (Int32.ofNat (o + i))), .val (.ref d), .val (.int (Int32.ofNat (q + i))), .val (.int (Int32.ofNat len)), .val (.int (Int32.ofNat i)), .val (.int (cv A (o + i)))] [])) := c6.trans (st7 _ (Steps.refl _))
      have c9 : Steps p.tables e below (s₁.setTop (entryFrame m #[.ref b, .int (Int32.ofNat o), .ref d, .int (Int32.ofNat q), .int (Int32.ofNat len)] 7)) (T7.setTop (mkF m 3 #[.val (.ref b), .val (.int (Int32.ofNat (o + i) + 1)), .val (.ref d), .val (.int (Int32.ofNat (q + i) + 1)), .val (.int (Int32.ofNat len)), .val (.int (Int32.ofNat i + 1)), .val (.int (cv A (o + i)))] [])) := c8.trans (by
        refine iincV X7.here hexec rfl 1 (hb hbytes d32) (by decide) rfl rfl ?_
        refine iincV X7.here hexec rfl 1 (hb hbytes d35) (by decide) rfl rfl ?_
        refine iincV X7.here hexec rfl 1 (hb hbytes d38) (by decide) rfl rfl ?_
        refine XS.goto X7.here hexec rfl (pc0 := 41) rfl (hb hbytes d41) (by decide) rfl ?_
        exact Steps.refl _)
      have c10 : Steps p.tables e below (s₁.setTop (entryFrame m #[.ref b, .int (Int32.ofNat o), .ref d, .int (Int32.ofNat q), .int (Int32.ofNat len)] 7)) (T7.setTop (mkF m 3 #[.val (.ref b), .val (.int (Int32.ofNat (o + (i + 1)))), .val (.ref d), .val (.int (Int32.ofNat (q + (i + 1)))), .val (.int (Int32.ofNat len)), .val (.int (Int32.ofNat (i + 1))), .val (.int (cv A (o + i)))] [])) := by
        have := c9
        rw [succ32, succ32, succ32] at this
        exact this
      exact ih (i + 1) (by omega) _ (Or.inr ⟨_, rfl, rfl⟩) T7 _ (by rw [copyLocs_step, ← List.append_assoc]; exact X7) (pl.trans p7) (fl.step (by omega) hlt (by simp)) c10
  obtain ⟨T9, B9, z9, X9, p9, f9, g9⟩ := loop len 0 (by omega) .unset (Or.inl rfl) s₁ B (by simpa [copyLocs] using X0) ⟨hB0.1, fun _ _ => rfl, rfl⟩ (Laid.zero _ _ _) c2
  have c11 : Steps p.tables e below (s₁.setTop (entryFrame m #[.ref b, .int (Int32.ofNat o), .ref d, .int (Int32.ofNat q), .int (Int32.ofNat len)] 7)) (T9.setTop (mkF m 46 #[.val (.ref b), .val (.int (Int32.ofNat (o + len))), .val (.ref d), .val (.int (Int32.ofNat (q + len))), .val (.int (Int32.ofNat len)), .val (.int (Int32.ofNat len)), z9] [.int (Int32.ofNat len)])) := g9.trans (by
    refine XS.iload X9.here hexec rfl (hb hbytes d3) rfl ?_
    refine XS.iload X9.here hexec rfl (hb hbytes d5) rfl ?_
    refine XS.icmpYes X9.here hexec rfl (pc0 := 7) rfl (hb hbytes d7) rfl (ii_ge_t (nlt32 (by omega) (Nat.le_refl _))) (by decide) rfl ?_
    refine XS.iload X9.here hexec rfl (hb hbytes d44) rfl ?_
    exact Steps.refl _)
  exact ⟨T9, some (.int (Int32.ofNat len)), _, _, _, X9, by simp, rfl, rfl, (fun h => by cases h), ⟨rfl, B9, p9.from hh0, f9⟩, fun fs hl => c11.trans (X9.ireturnOut hexec hret rfl (Or.inl rfl) (hb hbytes d46) hl)⟩
end Cmp5
namespace Cmp3
def yN : MethodName := ⟨"java/lang/StringUTF16", "compress", "([CII)[B"⟩
abbrev yB : ByteArray := jdk_52_method_16_code
theorem d0 : decode yB 0 = .ok (.iload_n 2, 1) := by decide +kernel
theorem d1 : decode yB 1 = .ok (.newarray .byte, 2) := by decide +kernel
theorem d3 : decode yB 3 = .ok (.astore_n 3, 1) := by decide +kernel
theorem d4 : decode yB 4 = .ok (.aload_n 0, 1) := by decide +kernel
theorem d5 : decode yB 5 = .ok (.iload_n 1, 1) := by decide +kernel
theorem d6 : decode yB 6 = .ok (.aload_n 3, 1) := by decide +kernel
theorem d7 : decode yB 7 = .ok (.iconst 0, 1) := by decide +kernel
theorem d8 : decode yB 8 = .ok (.iload_n 2, 1) := by decide +kernel
theorem d9 : decode yB 9 = .ok (.invokestatic 115, 3) := by decide +kernel
theorem d12 : decode yB 12 = .ok (.istore 4, 2) := by decide +kernel
theorem d14 : decode yB 14 = .ok (.iload 4, 2) := by decide +kernel
theorem d16 : decode yB 16 = .ok (.iload_n 2, 1) := by decide +kernel
theorem d17 : decode yB 17 = .ok (.if_icmp (.eq) 40, 3) := by decide +kernel
theorem d57 : decode yB 57 = .ok (.aload_n 3, 1) := by decide +kernel
theorem d58 : decode yB 58 = .ok (.areturn, 1) := by decide +kernel
def site : List Cond := [.arrayClass .byte, Cmp5.tab] ++ staticW U16 115 Cmp5.yN
def tab : Cond := tabOf yN yB 6 (some (.array .byte)) site
def P (b : Addr) (A : Cell) (o len : Nat) (args : Array Value) (s : State) : Prop := args = #[.ref b, .int (Int32.ofNat o), .int (Int32.ofNat len)] ∧ Ch b A s ∧ o + len ≤ A.slots.size ∧ len ≤ 536870912 ∧ ∀ i, i < len → ¬ 255 < cv A (o + i)
def E (b : Addr) (A : Cell) (o len : Nat) (r : Option Value) (s u : State) : Prop := NewArr .byte "[B" len (fun j => .int (lo8 (cv A (o + j)))) r s u ∧ u.heap.size = s.heap.size + 1
/-- no char of the range above 255: a new byte[] of their low bytes -/
theorem law (l : Launch) (b : Addr) (A : Cell) (o len : Nat) : Law l yN 3 3 1 18 yB 6 (some (.array .byte)) site (P b A o len) (E b A o len) [] 1 len := by
  refine Law.of_walk (plainFor_of_name (by decide +kernel)) (by decide +kernel) (by decide +kernel) (by decide) (fun _ _ h => by rw [h.1]; rfl) (fun _ U U' hal hh h => ⟨h.1, h.2.1.mv hal hh, h.2.2⟩) (fun r U U' V V' h1 hal h2 h => ⟨NewArr.mv r U U' V V' h1 hal h2 h.1, by rw [h1, h2]; exact h.2⟩) ?_
  intro p e s m args below meth c s₁ X0 hexec hbytes hml hret hlk hnm hown hh0 W hP
  obtain ⟨rfl, hA, l1, l2, hp⟩ := hP
  have a31 := hA.1.2.2.2
  have c1 : Steps p.tables e below (s₁.setTop (entryFrame m #[.ref b, .int (Int32.ofNat o), .int (Int32.ofNat len)] 6)) (s₁.setTop (mkF m 0 #[.val (.ref b), .val (.int (Int32.ofNat o)), .val (.int (Int32.ofNat len)), .unset, .unset, .unset] [])) := entry rfl
  have c2 : Steps p.tables e below (s₁.setTop (entryFrame m #[.ref b, .int (Int32.ofNat o), .int (Int32.ofNat len)] 6)) (s₁.setTop (mkF m 1 #[.val (.ref b), .val (.int (Int32.ofNat o)), .val (.int (Int32.ofNat len)), .unset, .unset, .unset] [.int (Int32.ofNat len)])) := c1.trans (by
    refine XS.iloadN X0.here hexec rfl (hb hbytes d0) rfl ?_
    exact Steps.refl _)
  obtain ⟨T3, B3, X3, ba3, bs3, bv3, bh3, bf3, st3⟩ := X0.anew hexec (atype := .byte) (wk W (.arrayClass .byte)) rfl (by show len * 1 ≤ _; omega) (by omega) (g := (mkF m 1 #[.val (.ref b), .val (.int (Int32.ofNat o)), .val (.int (Int32.ofNat len)), .unset, .unset, .unset] [.int (Int32.ofNat len)])) rfl (hb hbytes d1) (rest := []) rfl (Nat.le_refl _) (by show 0 + len ≤ len; omega)
  rw [hh0] at ba3 st3
  have kp3 : XT.Kept s T3 := (XT.Kept.of_eq hh0).push bh3
  have hA3 := hA.keep X3.warmed.alike (kp3 _ _ hA.1.1)
  have hne : b ≠ s.heap.size := hA.1.ne
  have c4 : Steps p.tables e below (s₁.setTop (entryFrame m #[.ref b, .int (Int32.ofNat o), .int (Int32.ofNat len)] 6)) (T3.setTop (mkF m 3 #[.val (.ref b), .val (.int (Int32.ofNat o)), .val (.int (Int32.ofNat len)), .unset, .unset, .unset] [.ref s.heap.size])) := c2.trans (st3 _ (Steps.refl _))
  have c5 : Steps p.tables e below (s₁.setTop (entryFrame m #[.ref b, .int (Int32.ofNat o), .int (Int32.ofNat len)] 6)) (T3.setTop (mkF m 9 #[.val (.ref b), .val (.int (Int32.ofNat o)), .val (.int (Int32.ofNat len)), .val (.ref s.heap.size), .unset, .unset] [.int (Int32.ofNat len), .int 0, .ref s.heap.size, .int (Int32.ofNat o), .ref b])) := c4.trans (by
    refine XS.astoreN X3.here hexec rfl (hb hbytes d3) rfl rfl rfl ?_
    refine XS.aloadN X3.here hexec rfl (hb hbytes d4) rfl rfl ?_
    refine XS.iloadN X3.here hexec rfl (hb hbytes d5) rfl ?_
    refine XS.aloadN X3.here hexec rfl (hb hbytes d6) rfl rfl ?_
    refine iconstV X3.here hexec rfl 0 (hb hbytes d7) (by decide) ?_
    refine XS.iloadN X3.here hexec rfl (hb hbytes d8) rfl ?_
    exact Steps.refl _)
  obtain ⟨v6, T6, X6, E6, g6⟩ := X3.callS hexec (Cmp5.law l b A s.heap.size B3 o 0 len) hown (wks W (staticW U16 115 Cmp5.yN)) (wk W Cmp5.tab) (W := 0) (Nat.le_of_ble_eq_true rfl) (Nat.le_of_ble_eq_true rfl) (Nat.le_refl _) (by show 0 + len + 0 ≤ len; omega) (g := (mkF m 9 #[.val (.ref b), .val (.int (Int32.ofNat o)), .val (.int (Int32.ofNat len)), .val (.ref s.heap.size), .unset, .unset] [.int (Int32.ofNat len), .int (Int32.ofNat 0), .ref s.heap.size, .int (Int32.ofNat o), .ref b])) rfl (by rw [hml]; rfl) c5 (argsL := [.ref b, .int (Int32.ofNat o), .ref s.heap.size, .int (Int32.ofNat 0), .int (Int32.ofNat len)]) (rest := []) rfl rfl (by show 2 * 0 + 0 ≤ _; decide) (hb hbytes d9) (⟨rfl, hA3, ba3, hne, l1, by rw [bs3]; simp, hp⟩)
  obtain ⟨rfl, B6, p6, f6⟩ := E6
  have c7 : Steps p.tables e below (s₁.setTop (entryFrame m #[.ref b, .int (Int32.ofNat o), .int (Int32.ofNat len)] 6)) (T6.setTop (mkF m 12 #[.val (.ref b), .val (.int (Int32.ofNat o)), .val (.int (Int32.ofNat len)), .val (.ref s.heap.size), .unset, .unset] [.int (Int32.ofNat len)])) := g6
  have c8 : Steps p.tables e below (s₁.setTop (entryFrame m #[.ref b, .int (Int32.ofNat o), .int (Int32.ofNat len)] 6)) (T6.setTop (mkF m 58 #[.val (.ref b), .val (.int (Int32.ofNat o)), .val (.int (Int32.ofNat len)), .val (.ref s.heap.size), .val (.int (Int32.ofNat len)), .unset] [.ref s.heap.size])) := c7.trans (by
    refine XS.istore X6.here hexec rfl (hb hbytes d12) rfl rfl ?_
    refine XS.iload X6.here hexec rfl (hb hbytes d14) rfl ?_
    refine XS.iloadN X6.here hexec rfl (hb hbytes d16) rfl ?_
    refine XS.icmpYes X6.here hexec rfl (pc0 := 17) rfl (hb hbytes d17) rfl (ii_eq_t rfl) (by decide) rfl ?_
    refine XS.aloadN X6.here hexec rfl (hb hbytes d57) rfl rfl ?_
    exact Steps.refl _)
  have X8 := X6.wide (L' := []) (cells' := 1) (slots' := len) (fun x hx hlt => by
    simp only [List.nil_append, copyLocs, List.mem_map, List.mem_range] at hx
    obtain ⟨i, -, rfl⟩ := hx
    exact absurd hlt (Nat.lt_irrefl _)) (Nat.le_refl _) (by omega)
  exact ⟨T6, some (.ref s.heap.size), _, _, _, X8, rfl, rfl, rfl, (fun h => by cases h), ⟨⟨rfl, B6, ba3.like (X3.warmed.alike.symm.trans X6.warmed.alike) p6.1 f6.1 f6.2.1 f6.2.2.1, f6.2.1.trans bv3, by rw [X6.warmed.alike.findClass, f6.1]; exact bf3, by rw [f6.2.2.1, bs3]; simp, fun j hj => by rw [f6.2.2.2 j, if_pos (by omega)]; rfl, kp3.put p6 (Nat.le_refl _)⟩, by rw [p6.2.2, bh3, hh0]; simp⟩, fun fs hl => c8.trans (X8.areturnOut hexec rfl hret rfl (hb hbytes d58) hl)⟩
end Cmp3
namespace CodL
def yN : MethodName := ⟨"java/lang/StringUTF16", "coderFromArrayLen", "([BI)B"⟩
abbrev yB : ByteArray := jdk_52_method_15_code
theorem d0 : decode yB 0 = .ok (.iload_n 1, 1) := by decide +kernel
theorem d1 : decode yB 1 = .ok (.aload_n 0, 1) := by decide +kernel
theorem d2 : decode yB 2 = .ok (.arraylength, 1) := by decide +kernel
theorem d3 : decode yB 3 = .ok (.isub, 1) := by decide +kernel
theorem d4 : decode yB 4 = .ok (.bipush 31, 2) := by decide +kernel
theorem d6 : decode yB 6 = .ok (.iushr, 1) := by decide +kernel
theorem d7 : decode yB 7 = .ok (.i2b, 1) := by decide +kernel
theorem d8 : decode yB 8 = .ok (.ireturn, 1) := by decide +kernel
def site : List Cond := []
def tab : Cond := tabOf yN yB 2 (some .byte) site
def P (d : Addr) (B : Cell) (args : Array Value) (s : State) : Prop := args = #[.ref d, .int (Int32.ofNat B.slots.size)] ∧ Arr .byte d B s
def E (r : Option Value) (s u : State) : Prop := XT.PureE (some (.int 0)) r s u
/-- an array as long as the number of chars: LATIN1 -/
theorem law (l : Launch) (d : Addr) (B : Cell) : Law l yN 2 2 0 0 yB 2 (some .byte) site (P d B) E [] 0 0 := by
  refine Law.of_walk (plainFor_of_name (by decide +kernel)) (by decide +kernel) (by decide +kernel) (by decide) (fun _ _ h => by rw [h.1]; rfl) (fun _ U U' hal hh h => ⟨h.1, h.2.mv hal hh⟩) (fun r U U' V V' h1 hal h2 h => XT.PureE.mv r U U' V V' h1 hal h2 h) ?_
  intro p e s m args below meth c s₁ X0 hexec hbytes hml hret hlk hnm hown hh0 W hP
  obtain ⟨rfl, hB⟩ := hP
  have hB0 := hB.mv X0.warmed.alike hh0
  have c1 : Steps p.tables e below (s₁.setTop (entryFrame m #[.ref d, .int (Int32.ofNat B.slots.size)] 2)) (s₁.setTop (mkF m 0 #[.val (.ref d), .val (.int (Int32.ofNat B.slots.size))] [])) := entry rfl
  have c2 : Steps p.tables e below (s₁.setTop (entryFrame m #[.ref d, .int (Int32.ofNat B.slots.size)] 2)) (s₁.setTop (mkF m 2 #[.val (.ref d), .val (.int (Int32.ofNat B.slots.size))] [.ref d, .int (Int32.ofNat B.slots.size)])) := c1.trans (by
    refine XS.iloadN X0.here hexec rfl (hb hbytes d0) rfl ?_
    refine XS.aloadN X0.here hexec rfl (hb hbytes d1) rfl rfl ?_
    exact Steps.refl _)
  have c3 : Steps p.tables e below (s₁.setTop (entryFrame m #[.ref d, .int (Int32.ofNat B.slots.size)] 2)) (s₁.setTop (mkF m 8 #[.val (.ref d), .val (.int (Int32.ofNat B.slots.size))] [.int (lo8 (ushr (Int32.ofNat B.slots.size - Int32.ofNat B.slots.size) 31))])) := c2.trans (by
    refine X0.alen hexec hB0 rfl rfl (hb hbytes d2) ?_
    refine XS.isub X0.here hexec rfl (hb hbytes d3) rfl ?_
    refine bipushV X0.here hexec rfl 31 (hb hbytes d4) (by decide) ?_
    refine iushr X0.here hexec rfl (hb hbytes d6) rfl ?_
    refine i2b X0.here hexec rfl (hb hbytes d7) rfl ?_
    exact Steps.refl _)
  have e0 : lo8 (ushr (Int32.ofNat B.slots.size - Int32.ofNat B.slots.size) 31) = 0 := by rw [Int32.sub_self]; decide
  rw [e0] at c3
  exact ⟨s₁, some (.int 0), _, _, _, X0, rfl, rfl, rfl, (fun h => by cases h), ⟨rfl, hh0⟩, fun fs hl => c3.trans (X0.ireturnOut hexec hret rfl (Or.inr (Or.inr (Or.inl rfl))) (hb hbytes d8) hl)⟩
end CodL
/-- the String at a is Latin-1 over a new byte[] (the heap's one new cell): the low bytes of the len chars of A from o on; every cell but a is kept -/
def Got (a : Addr) (D : Cell) (fV fC : Field) (A : Cell) (o len : Nat) (r : Option Value) (s u : State) : Prop := r = none ∧ ∃ D' V : Cell, Blank "java/lang/String" a D' u ∧ Same D D' [fV.slot, fC.slot] ∧ D'.slots[fV.slot]? = some (.ref s.heap.size) ∧ D'.slots[fC.slot]? = some (.int 0) ∧ Arr .byte s.heap.size V u ∧ V.vm = .none ∧ u.vm.findClass "[B" = some V.cls ∧ V.slots.size = len ∧ (∀ j, j < len → V.slots[j]? = some (.int (lo8 (cv A (o + j))))) ∧ (∀ (y : Addr) (c : Cell), y ≠ a → s.heap[y]? = some c → u.heap[y]? = some c) ∧ u.heap.size = s.heap.size + 1
theorem Got.mv {a : Addr} {D A : Cell} {fV fC : Field} {o len : Nat} : ∀ r (U U' V V' : State), U'.heap = U.heap → V.vm.Alike V'.vm → V'.heap = V.heap → Got a D fV fC A o len r U V → Got a D fV fC A o len r U' V' :=
  fun r U U' V V' h1 hal h2 ⟨e0, D', X, a1, a2, a3, a4, a5, a6, a7, a8, a9, a10, a11⟩ => ⟨e0, D', X, a1.mv hal h2, a2, by rw [h1]; exact a3, a4, by rw [h1]; exact a5.mv hal h2, a6, by rw [hal.findClass]; exact a7, a8, a9, by rw [h1, h2]; exact a10, by rw [h1, h2]; exact a11⟩
namespace New4
def yN : MethodName := ⟨"java/lang/String", "<init>", "([CIILjava/lang/Void;)V"⟩
abbrev yB : ByteArray := jdk_42_method_149_code
theorem d0 : decode yB 0 = .ok (.aload_n 0, 1) := by decide +kernel
theorem d1 : decode yB 1 = .ok (.invokespecial 1, 3) := by decide +kernel
theorem d4 : decode yB 4 = .ok (.iload_n 3, 1) := by decide +kernel
theorem d5 : decode yB 5 = .ok (.ifCond (.ne) 22, 3) := by decide +kernel
theorem d27 : decode yB 27 = .ok (.getstatic 38, 3) := by decide +kernel
theorem d30 : decode yB 30 = .ok (.ifCond (.eq) 28, 3) := by decide +kernel
theorem d33 : decode yB 33 = .ok (.aload_n 1, 1) := by decide +kernel
theorem d34 : decode yB 34 = .ok (.iload_n 2, 1) := by decide +kernel
theorem d35 : decode yB 35 = .ok (.iload_n 3, 1) := by decide +kernel
theorem d36 : decode yB 36 = .ok (.invokestatic 177, 3) := by decide +kernel
theorem d39 : decode yB 39 = .ok (.astore 5, 2) := by decide +kernel
theorem d41 : decode yB 41 = .ok (.aload_n 0, 1) := by decide +kernel
theorem d42 : decode yB 42 = .ok (.aload 5, 2) := by decide +kernel
theorem d44 : decode yB 44 = .ok (.iload_n 3, 1) := by decide +kernel
theorem d45 : decode yB 45 = .ok (.invokestatic 47, 3) := by decide +kernel
theorem d48 : decode yB 48 = .ok (.putfield 15, 3) := by decide +kernel
theorem d51 : decode yB 51 = .ok (.aload_n 0, 1) := by decide +kernel
theorem d52 : decode yB 52 = .ok (.aload 5, 2) := by decide +kernel
theorem d54 : decode yB 54 = .ok (.putfield 9, 3) := by decide +kernel
theorem d57 : decode yB 57 = .ok (.return_, 1) := by decide +kernel
def site : List Cond := [.fieldLink "java/lang/String" 38 "java/lang/String" "COMPACT_STRINGS" "Z", Cmp3.tab, CodL.tab, .laysFinal "java/lang/String" "java/lang/String" "value" "[B", .fieldLink "java/lang/String" 9 "java/lang/String" "value" "[B", .laysFinal "java/lang/String" "java/lang/String" "coder" "B", .fieldLink "java/lang/String" 15 "java/lang/String" "coder" "B"] ++ objW "java/lang/String" 1 ++ staticW "java/lang/String" 177 Cmp3.yN ++ staticW "java/lang/String" 47 CodL.yN
def tab : Cond := tabOf yN yB 6 none site
def P (a : Addr) (D : Cell) (fV fC : Field) (b : Addr) (A : Cell) (z : Int32) (o len : Nat) (args : Array Value) (s : State) : Prop := args = #[.ref a, .ref b, .int (Int32.ofNat o), .int (Int32.ofNat len), .null] ∧ Blank "java/lang/String" a D s ∧ Found "java/lang/String" "value" "[B" fV s ∧ Found "java/lang/String" "coder" "B" fC s ∧ Ch b A s ∧ StaticIs s "java/lang/String" "COMPACT_STRINGS" "Z" (.int z) ∧ ¬ z = 0 ∧ 0 < len ∧ o + len ≤ A.slots.size ∧ len ≤ 536870912 ∧ ∀ i, i < len → ¬ 255 < cv A (o + i)
def E (a : Addr) (D : Cell) (fV fC : Field) (A : Cell) (o len : Nat) (r : Option Value) (s u : State) : Prop := Got a D fV fC A o len r s u
/-- len > 0, no char of the range above 255: a Latin-1 String of their low bytes -/
theorem law (l : Launch) (a : Addr) (D : Cell) (fV fC : Field) (b : Addr) (A : Cell) (z : Int32) (o len : Nat) : Law l yN 5 4 2 35 yB 6 none site (P a D fV fC b A z o len) (E a D fV fC A o len) [⟨a, fC.slot⟩, ⟨a, fV.slot⟩] 1 len := by
  refine Law.of_walk (plainFor_of_name (by decide +kernel)) (by decide +kernel) (by decide +kernel) (by decide) (fun _ _ h => by rw [h.1]; rfl) (fun _ U U' hal hh h => ⟨h.1, h.2.1.mv hal hh, h.2.2.1.al hal, h.2.2.2.1.al hal, h.2.2.2.2.1.mv hal hh, h.2.2.2.2.2.1.there hal hh, h.2.2.2.2.2.2⟩) (fun r U U' V V' h1 hal h2 h => Got.mv r U U' V V' h1 hal h2 h) ?_
  intro p e s m args below meth c s₁ X0 hexec hbytes hml hret hlk hnm hown hh0 W hP
  obtain ⟨rfl, hB, f1, f2, hA, s1, hz, l0, l1, l2, hp⟩ := hP
  have a31 := hA.1.2.2.2
  have c1 : Steps p.tables e below (s₁.setTop (entryFrame m #[.ref a, .ref b, .int (Int32.ofNat o), .int (Int32.ofNat len), .null] 6)) (s₁.setTop (mkF m 0 #[.val (.ref a), .val (.ref b), .val (.int (Int32.ofNat o)), .val (.int (Int32.ofNat len)), .val .null, .unset] [])) := entry rfl
  have c2 : Steps p.tables e below (s₁.setTop (entryFrame m #[.ref a, .ref b, .int (Int32.ofNat o), .int (Int32.ofNat len), .null] 6)) (s₁.setTop (mkF m 1 #[.val (.ref a), .val (.ref b), .val (.int (Int32.ofNat o)), .val (.int (Int32.ofNat len)), .val .null, .unset] [.ref a])) := c1.trans (by
    refine XS.aloadN X0.here hexec rfl (hb hbytes d0) rfl rfl ?_
    exact Steps.refl _)
  obtain ⟨T3, X3, q3, st3⟩ := X0.oinit hexec hown (wks W (objW "java/lang/String" 1)) (g := (mkF m 1 #[.val (.ref a), .val (.ref b), .val (.int (Int32.ofNat o)), .val (.int (Int32.ofNat len)), .val .null, .unset] [.ref a])) rfl (by rw [hml]; rfl) (rest := []) rfl (hb hbytes d1) (W := 0) (by show 2 * 0 + 0 ≤ _; decide) (Nat.le_of_ble_eq_true rfl) (Nat.le_of_ble_eq_true rfl)
  have hh3 := q3.trans hh0
  have c4 : Steps p.tables e below (s₁.setTop (entryFrame m #[.ref a, .ref b, .int (Int32.ofNat o), .int (Int32.ofNat len), .null] 6)) (T3.setTop (mkF m 27 #[.val (.ref a), .val (.ref b), .val (.int (Int32.ofNat o)), .val (.int (Int32.ofNat len)), .val .null, .unset] [])) := (c2.trans (st3 _ (Steps.refl _))).trans (by
    refine XS.iloadN X3.here hexec rfl (hb hbytes d4) rfl ?_
    refine XS.ifYes X3.here hexec rfl (pc0 := 5) rfl (hb hbytes d5) rfl (i0_ne_t (nz32 (by omega) l0)) (by decide) rfl ?_
    exact Steps.refl _)
  obtain ⟨T5, X5, q5, st5⟩ := X3.sget hexec hown (wk W (.fieldLink "java/lang/String" 38 "java/lang/String" "COMPACT_STRINGS" "Z")) s1 (fun _ _ h => by rw [hh3]; exact h) (g := (mkF m 27 #[.val (.ref a), .val (.ref b), .val (.int (Int32.ofNat o)), .val (.int (Int32.ofNat len)), .val .null, .unset] [])) rfl (hb hbytes d27)
  have hh5 := q5.trans hh3
  have c6 : Steps p.tables e below (s₁.setTop (entryFrame m #[.ref a, .ref b, .int (Int32.ofNat o), .int (Int32.ofNat len), .null] 6)) (T5.setTop (mkF m 30 #[.val (.ref a), .val (.ref b), .val (.int (Int32.ofNat o)), .val (.int (Int32.ofNat len)), .val .null, .unset] [.int z])) := c4.trans (st5 _ (Steps.refl _))
  have c7 : Steps p.tables e below (s₁.setTop (entryFrame m #[.ref a, .ref b, .int (Int32.ofNat o), .int (Int32.ofNat len), .null] 6)) (T5.setTop (mkF m 36 #[.val (.ref a), .val (.ref b), .val (.int (Int32.ofNat o)), .val (.int (Int32.ofNat len)), .val .null, .unset] [.int (Int32.ofNat len), .int (Int32.ofNat o), .ref b])) := c6.trans (by
    refine XS.ifNo X5.here hexec rfl (hb hbytes d30) rfl (i0_eq_f hz) ?_
    refine XS.aloadN X5.here hexec rfl (hb hbytes d33) rfl rfl ?_
    refine XS.iloadN X5.here hexec rfl (hb hbytes d34) rfl ?_
    refine XS.iloadN X5.here hexec rfl (hb hbytes d35) rfl ?_
    exact Steps.refl _)
  obtain ⟨v8, T8, X8, E8, g8⟩ := X5.callS hexec (Cmp3.law l b A o len) hown (wks W (staticW "java/lang/String" 177 Cmp3.yN)) (wk W Cmp3.tab) (W := 0) (Nat.le_of_ble_eq_true rfl) (Nat.le_of_ble_eq_true rfl) (Nat.le_refl _) (by show 0 + len ≤ len; omega) (g := (mkF m 36 #[.val (.ref a), .val (.ref b), .val (.int (Int32.ofNat o)), .val (.int (Int32.ofNat len)), .val .null, .unset] [.int (Int32.ofNat len), .int (Int32.ofNat o), .ref b])) rfl (by rw [hml]; rfl) c7 (argsL := [.ref b, .int (Int32.ofNat o), .int (Int32.ofNat len)]) (rest := []) rfl rfl (by show 2 * 0 + 0 ≤ _; decide) (hb hbytes d36) (⟨rfl, hA.mv X5.warmed.alike hh5, l1, l2, hp⟩)
  obtain ⟨e8, z8⟩ := E8
  obtain ⟨rfl, N, n1, n2, n3, n4, n5, n6⟩ := NewArr.mv _ T5 s _ _ hh5.symm (Vm.Alike.refl _) rfl e8
  rw [hh5] at z8
  have hB1 := hB.keep X8.warmed.alike (n6 _ _ hB.1)
  have hne : s.heap.size ≠ a := (Nat.ne_of_lt (Array.getElem?_eq_some_iff.mp hB.1).1).symm
  have c9 : Steps p.tables e below (s₁.setTop (entryFrame m #[.ref a, .ref b, .int (Int32.ofNat o), .int (Int32.ofNat len), .null] 6)) (T8.setTop (mkF m 39 #[.val (.ref a), .val (.ref b), .val (.int (Int32.ofNat o)), .val (.int (Int32.ofNat len)), .val .null, .unset] [.ref s.heap.size])) := g8
  have c10 : Steps p.tables e below (s₁.setTop (entryFrame m #[.ref a, .ref b, .int (Int32.ofNat o), .int (Int32.ofNat len), .null] 6)) (T8.setTop (mkF m 45 #[.val (.ref a), .val (.ref b), .val (.int (Int32.ofNat o)), .val (.int (Int32.ofNat len)), .val .null, .val (.ref s.heap.size)] [.int (Int32.ofNat N.slots.size), .ref s.heap.size, .ref a])) := by
    have hc : Steps p.tables e below (s₁.setTop (entryFrame m #[.ref a, .ref b, .int (Int32.ofNat o), .int (Int32.ofNat len), .null] 6)) (T8.setTop (mkF m 45 #[.val (.ref a), .val (.ref b), .val (.int (Int32.ofNat o)), .val (.int (Int32.ofNat len)), .val .null, .val (.ref s.heap.size)] [.int (Int32.ofNat len), .ref s.heap.size, .ref a])) := c9.trans (by
      refine XS.astore X8.here hexec rfl (hb hbytes d39) rfl rfl rfl ?_
      refine XS.aloadN X8.here hexec rfl (hb hbytes d41) rfl rfl ?_
      refine XS.aload X8.here hexec rfl (hb hbytes d42) rfl rfl ?_
      refine XS.iloadN X8.here hexec rfl (hb hbytes d44) rfl ?_
      exact Steps.refl _)
    rw [n4]; exact hc
  obtain ⟨v11, T11, X11, E11, g11⟩ := X8.callS hexec (CodL.law l s.heap.size N) hown (wks W (staticW "java/lang/String" 47 CodL.yN)) (wk W CodL.tab) (W := 1) (Nat.le_of_ble_eq_true rfl) (Nat.le_of_ble_eq_true rfl) (Nat.le_refl _) (by show 0 + len + 0 ≤ len; omega) (g := (mkF m 45 #[.val (.ref a), .val (.ref b), .val (.int (Int32.ofNat o)), .val (.int (Int32.ofNat len)), .val .null, .val (.ref s.heap.size)] [.int (Int32.ofNat N.slots.size), .ref s.heap.size, .ref a])) rfl (by rw [hml]; rfl) c10 (argsL := [.ref s.heap.size, .int (Int32.ofNat N.slots.size)]) (rest := [.ref a]) rfl rfl (by show 2 * 0 + (1 + 0) ≤ _; decide) (hb hbytes d45) (⟨rfl, n1⟩)
  obtain ⟨rfl, q11⟩ := E11
  have hB11 := hB1.mv (X8.warmed.alike.symm.trans X11.warmed.alike) q11
  have c12 : Steps p.tables e below (s₁.setTop (entryFrame m #[.ref a, .ref b, .int (Int32.ofNat o), .int (Int32.ofNat len), .null] 6)) (T11.setTop (mkF m 48 #[.val (.ref a), .val (.ref b), .val (.int (Int32.ofNat o)), .val (.int (Int32.ofNat len)), .val .null, .val (.ref s.heap.size)] [.int 0, .ref a])) := g11
  obtain ⟨T13, X13, p13, bl13, sl13, st13⟩ := X11.finit hexec hown (wk W (.fieldLink "java/lang/String" 15 "java/lang/String" "coder" "B")) (Or.inr ⟨_, (wk W (.laysFinal "java/lang/String" "java/lang/String" "coder" "B"))⟩) (Or.inl ⟨rfl, hnm⟩) f2 (Or.inl rfl) hB11 (t := .byte) (by decide +kernel) rfl (g := (mkF m 48 #[.val (.ref a), .val (.ref b), .val (.int (Int32.ofNat o)), .val (.int (Int32.ofNat len)), .val .null, .val (.ref s.heap.size)] [.int 0, .ref a])) rfl (rest := []) rfl (hb hbytes d48)
  have c14 : Steps p.tables e below (s₁.setTop (entryFrame m #[.ref a, .ref b, .int (Int32.ofNat o), .int (Int32.ofNat len), .null] 6)) (T13.setTop (mkF m 54 #[.val (.ref a), .val (.ref b), .val (.int (Int32.ofNat o)), .val (.int (Int32.ofNat len)), .val .null, .val (.ref s.heap.size)] [.ref s.heap.size, .ref a])) := (c12.trans (st13 _ (Steps.refl _))).trans (by
    refine XS.aloadN X13.here hexec rfl (hb hbytes d51) rfl rfl ?_
    refine XS.aload X13.here hexec rfl (hb hbytes d52) rfl rfl ?_
    exact Steps.refl _)
  obtain ⟨T15, X15, p15, bl15, sl15, st15⟩ := X13.finit hexec hown (wk W (.fieldLink "java/lang/String" 9 "java/lang/String" "value" "[B")) (Or.inr ⟨_, (wk W (.laysFinal "java/lang/String" "java/lang/String" "value" "[B"))⟩) (Or.inl ⟨rfl, hnm⟩) f1 (Or.inl rfl) bl13 (t := (.array .byte)) (by decide +kernel) rfl (g := (mkF m 54 #[.val (.ref a), .val (.ref b), .val (.int (Int32.ofNat o)), .val (.int (Int32.ofNat len)), .val .null, .val (.ref s.heap.size)] [.ref s.heap.size, .ref a])) rfl (rest := []) rfl (hb hbytes d54)
  have c16 : Steps p.tables e below (s₁.setTop (entryFrame m #[.ref a, .ref b, .int (Int32.ofNat o), .int (Int32.ofNat len), .null] 6)) (T15.setTop (mkF m 57 #[.val (.ref a), .val (.ref b), .val (.int (Int32.ofNat o)), .val (.int (Int32.ofNat len)), .val .null, .val (.ref s.heap.size)] [])) := c14.trans (st15 _ (Steps.refl _))
  have ap := apart (Or.inr ⟨_, (wk W (.laysFinal "java/lang/String" "java/lang/String" "value" "[B"))⟩) (Or.inr ⟨_, (wk W (.laysFinal "java/lang/String" "java/lang/String" "coder" "B"))⟩) f1 f2 (t₁ := .array .byte) (t₂ := .byte) (by decide +kernel) (by decide +kernel) (by decide)
  have al := X8.warmed.alike.symm.trans X15.warmed.alike
  have n7 : T11.heap[s.heap.size]? = some N := by rw [q11]; exact n1.1
  exact ⟨T15, none, _, _, _, X15, by simp, rfl, by omega, (fun _ => rfl), ⟨rfl, _, N, bl15, ((Same.refl D _).set _ (by simp)).set _ (by simp), sl15, (Cell.slots_setSlot_ne _ ap).trans sl13, n1.keep al (p15.other hne (p13.other hne n7)), n2, by rw [al.findClass]; exact n3, n4, n5, fun y c h1 h2 => p15.other h1 (p13.other h1 (by rw [q11]; exact n6 y c h2)), by rw [p15.2.2, p13.2.2, q11]; exact z8⟩, fun fs hl => c16.trans (X15.returnOut hexec hret (hb hbytes d57) hl)⟩
end New4
namespace New1
def yN : MethodName := ⟨"java/lang/String", "<init>", "([C)V"⟩
abbrev yB : ByteArray := jdk_42_method_3_code
theorem d0 : decode yB 0 = .ok (.aload_n 0, 1) := by decide +kernel
theorem d1 : decode yB 1 = .ok (.aload_n 1, 1) := by decide +kernel
theorem d2 : decode yB 2 = .ok (.iconst 0, 1) := by decide +kernel
theorem d3 : decode yB 3 = .ok (.aload_n 1, 1) := by decide +kernel
theorem d4 : decode yB 4 = .ok (.arraylength, 1) := by decide +kernel
theorem d5 : decode yB 5 = .ok (.aconst_null, 1) := by decide +kernel
theorem d6 : decode yB 6 = .ok (.invokespecial 27, 3) := by decide +kernel
theorem d9 : decode yB 9 = .ok (.return_, 1) := by decide +kernel
def site : List Cond := [New4.tab] ++ initW "java/lang/String" 27 New4.yN
def tab : Cond := tabOf yN yB 2 none site
def P (a : Addr) (D : Cell) (fV fC : Field) (b : Addr) (A : Cell) (z : Int32) (args : Array Value) (s : State) : Prop := args = #[.ref a, .ref b] ∧ Blank "java/lang/String" a D s ∧ Found "java/lang/String" "value" "[B" fV s ∧ Found "java/lang/String" "coder" "B" fC s ∧ Ch b A s ∧ StaticIs s "java/lang/String" "COMPACT_STRINGS" "Z" (.int z) ∧ ¬ z = 0 ∧ 0 < A.slots.size ∧ A.slots.size ≤ 536870912 ∧ ∀ i, i < A.slots.size → ¬ 255 < cv A i
def E (a : Addr) (D : Cell) (fV fC : Field) (A : Cell) (r : Option Value) (s u : State) : Prop := Got a D fV fC A 0 A.slots.size r s u
/-- new String(chars), not empty, no char above 255: a Latin-1 String of their low bytes -/
theorem law (l : Launch) (a : Addr) (D : Cell) (fV fC : Field) (b : Addr) (A : Cell) (z : Int32) : Law l yN 2 1 3 52 yB 2 none site (P a D fV fC b A z) (E a D fV fC A) [⟨a, fC.slot⟩, ⟨a, fV.slot⟩] 1 A.slots.size := by
  refine Law.of_walk (plainFor_of_name (by decide +kernel)) (by decide +kernel) (by decide +kernel) (by decide) (fun _ _ h => by rw [h.1]; rfl) (fun _ U U' hal hh h => ⟨h.1, h.2.1.mv hal hh, h.2.2.1.al hal, h.2.2.2.1.al hal, h.2.2.2.2.1.mv hal hh, h.2.2.2.2.2.1.there hal hh, h.2.2.2.2.2.2⟩) (fun r U U' V V' h1 hal h2 h => Got.mv r U U' V V' h1 hal h2 h) ?_
  intro p e s m args below meth c s₁ X0 hexec hbytes hml hret hlk hnm hown hh0 W hP
  obtain ⟨rfl, hB, f1, f2, hA, s1, hz, l0, l2, hp⟩ := hP
  have c1 : Steps p.tables e below (s₁.setTop (entryFrame m #[.ref a, .ref b] 2)) (s₁.setTop (mkF m 0 #[.val (.ref a), .val (.ref b)] [])) := entry rfl
  have c2 : Steps p.tables e below (s₁.setTop (entryFrame m #[.ref a, .ref b] 2)) (s₁.setTop (mkF m 6 #[.val (.ref a), .val (.ref b)] [.null, .int (Int32.ofNat A.slots.size), .int 0, .ref b, .ref a])) := c1.trans (by
    refine XS.aloadN X0.here hexec rfl (hb hbytes d0) rfl rfl ?_
    refine XS.aloadN X0.here hexec rfl (hb hbytes d1) rfl rfl ?_
    refine iconstV X0.here hexec rfl 0 (hb hbytes d2) (by decide) ?_
    refine XS.aloadN X0.here hexec rfl (hb hbytes d3) rfl rfl ?_
    refine X0.alen hexec (hA.1.mv X0.warmed.alike hh0) rfl rfl (hb hbytes d4) ?_
    refine XS.aconstNull X0.here hexec rfl (hb hbytes d5) ?_
    exact Steps.refl _)
  obtain ⟨v3, T3, X3, E3, g3⟩ := X0.callN hexec (New4.law l a D fV fC b A z 0 A.slots.size) rfl hown (wks W (initW "java/lang/String" 27 New4.yN)) (W New4.tab (by simp only [site, List.mem_cons, List.mem_append, true_or, or_true])) (W := 0) (Nat.le_of_ble_eq_true rfl) (Nat.le_of_ble_eq_true rfl) (Nat.le_refl _) (by show 0 + A.slots.size ≤ A.slots.size; omega) (g := (mkF m 6 #[.val (.ref a), .val (.ref b)] [.null, .int (Int32.ofNat A.slots.size), .int (Int32.ofNat 0), .ref b, .ref a])) rfl (by rw [hml]; rfl) c2 (argsL := [.ref b, .int (Int32.ofNat 0), .int (Int32.ofNat A.slots.size), .null]) (rest := []) rfl rfl (by show 2 * 0 + 0 ≤ _; decide) (hb hbytes d6) (⟨rfl, hB.mv X0.warmed.alike hh0, f1.al X0.warmed.alike, f2.al X0.warmed.alike, hA.mv X0.warmed.alike hh0, s1.there X0.warmed.alike hh0, hz, l0, by omega, l2, fun i hi => by rw [Nat.zero_add]; exact hp i hi⟩)
  have e0 := Got.mv _ s₁ s _ _ hh0.symm (Vm.Alike.refl _) rfl E3
  obtain rfl := e0.1
  have c4 : Steps p.tables e below (s₁.setTop (entryFrame m #[.ref a, .ref b] 2)) (T3.setTop (mkF m 9 #[.val (.ref a), .val (.ref b)] [])) := g3
  exact ⟨T3, none, _, _, _, X3, by simp, rfl, by omega, (fun _ => rfl), e0, fun fs hl => c4.trans (X3.returnOut hexec hret (hb hbytes d9) hl)⟩
theorem pays {l : Launch} {R : Room} {p : Program} {e : Env} {below : List Frame} {s : State} {sargs : Array Value} {len W : Nat} (a : Addr) (D : Cell) (fV fC : Field) (b : Addr) (A : Cell) (z : Int32) (htab : tab.before sargs s = true) (hfr : 4 ≤ R.frames) (hlo : W + 65 ≤ R.locals) :
    Back l R p e below s sargs yN len W (fun A₁ a₁ => A₁.cells + 1 ≤ R.cells ∧ A₁.slots + A.slots.size ≤ R.slots ∧ P a D fV fC b A z a₁ A₁.U) (fun A₁ _ v₁ B₁ => E a D fV fC A v₁ A₁.U B₁.U ∧ B₁.locs = A₁.locs ++ [⟨a, fC.slot⟩, ⟨a, fV.slot⟩] ∧ B₁.cells = A₁.cells + 1 ∧ B₁.slots = A₁.slots + A.slots.size) :=
  (law l a D fV fC b A z).pays htab hfr (by omega)
end New1
end StrChars
namespace StrChars.Road
open Jvm Sem ClassFile Op Lib Jvm.Stand Jvm.Free Jvm.Free.XT
open Jvm.Lib.Cold (StaticIs)
abbrev ST : String := "java/lang/String"
/-- every table word that New1's law asks, flat -/
abbrev words : List Jvm.Cond := [.code New1.yN New1.yB 2 none, .initialized ST, .methodLink ST 27 New4.yN, .instanceMethod New4.yN,
  .code New4.yN New4.yB 6 none, .fieldLink ST 38 ST "COMPACT_STRINGS" "Z", .laysFinal ST ST "value" "[B", .fieldLink ST 9 ST "value" "[B", .laysFinal ST ST "coder" "B", .fieldLink ST 15 ST "coder" "B",
  .methodLink ST 1 Lib.objectInit, .instanceMethod Lib.objectInit, .code Lib.objectInit ⟨#[0xb1]⟩ 1 none, .methodLink ST 177 Cmp3.yN, .static Cmp3.yN, .methodLink ST 47 CodL.yN, .static CodL.yN,
  .code Cmp3.yN Cmp3.yB 6 (some (.array .byte)), .initialized U16, .arrayClass .byte, .methodLink U16 115 Cmp5.yN, .static Cmp5.yN, .code Cmp5.yN Cmp5.yB 7 (some .int), .code CodL.yN CodL.yB 2 (some .byte)]
theorem tab_of {a : Array Value} {s : State} (h : ∀ w ∈ words, w.before a s = true) : New1.tab.before a s = true := by
  have h5 : Cmp5.tab.before a s = true := unparts (wk h (.code Cmp5.yN Cmp5.yB 7 (some .int))) (wks h (.initialized Cmp5.yN.cls :: Cmp5.site))
  have hc : CodL.tab.before a s = true := unparts (wk h (.code CodL.yN CodL.yB 2 (some .byte))) (wks h (.initialized CodL.yN.cls :: CodL.site))
  have q5 : ∀ w ∈ Cmp5.tab :: words, w.before a s = true := fun w hw => (List.mem_cons.mp hw).elim (fun e => e ▸ h5) (h w)
  have h3 : Cmp3.tab.before a s = true := unparts (wk q5 (.code Cmp3.yN Cmp3.yB 6 (some (.array .byte)))) (wks q5 (.initialized Cmp3.yN.cls :: Cmp3.site))
  have q3 : ∀ w ∈ Cmp3.tab :: CodL.tab :: words, w.before a s = true := fun w hw => (List.mem_cons.mp hw).elim (fun e => e ▸ h3) fun hw => (List.mem_cons.mp hw).elim (fun e => e ▸ hc) (h w)
  have h4 : New4.tab.before a s = true := unparts (wk q3 (.code New4.yN New4.yB 6 none)) (wks q3 (.initialized New4.yN.cls :: New4.site))
  have q4 : ∀ w ∈ New4.tab :: words, w.before a s = true := fun w hw => (List.mem_cons.mp hw).elim (fun e => e ▸ h4) (h w)
  exact unparts (wk q4 (.code New1.yN New1.yB 2 none)) (wks q4 (.initialized New1.yN.cls :: New1.site))
/-- the words ride from the start Z to the walk's own state -/
theorem moved {Z s : State} {a0 args : Array Value} (hZ : Z.Warmed39 s.vm) (hw : ∀ d ∈ words, d.before a0 Z = true) : ∀ d ∈ words, d.before args s = true := fun d hd => by
  have q := hw d hd
  have t : ∀ d ∈ words, d = .arrayClass .byte ∨ (d.onTables && d.keepsFace) = true := by decide +kernel
  rcases t d hd with rfl | t
  · exact RoadKit.mvA hZ q
  · exact RoadKit.mv hZ q t
/-- WHAT COMES BACK, over the tables of the start Z: h the heap at the call, h' behind it -/
def Q (Z : State) (x : Addr) (A : Cell) (h : Heap) (v : Option Value) (h' : Heap) (L : List Loc) : Prop := v = none ∧ (∀ y ∈ L, y.base = x) ∧ RoadKit.Keep h h' [x] ∧ h'.size = h.size + 1 ∧ RoadKit.Exa Z h' x ST ∧ RoadKit.Fld Z h' x ST "value" "[B" (.ref h.size) ∧ RoadKit.Fld Z h' x ST "coder" "B" (.int 0) ∧
  (∃ V : Cell, RoadKit.Arr Z h' h.size V .byte ∧ V.vm = .none ∧ Z.vm.findClass "[B" = some V.cls ∧ V.slots.size = A.slots.size ∧ ∀ j, j < A.slots.size → V.slots[j]? = some (.int (lo8 (cv A j)))) ∧
  ∀ (O n d : String) (w : Value), RoadKit.Fld Z h x O n d w → RoadKit.slotOf Z O n d ≠ RoadKit.slotOf Z ST "value" "[B" → RoadKit.slotOf Z O n d ≠ RoadKit.slotOf Z ST "coder" "B" → RoadKit.Fld Z h' x O n d w
/-- **new String(chars) AT A CALL, IN THE ROAD'S FORM**: for specialBack behind newO: x the fresh String, b the char[] with the cell A -/
theorem back {p : Program} {l : Launch} {e : Env} {R : Room} {s : State} {args : Array Value} {below : List Frame} {len W : Nat} {Z : State} {a0 : Array Value} {h : Heap} (hZ : Z.Warmed39 s.vm) (hw : ∀ d ∈ words, d.before a0 Z = true) {kI : Nat} (wi : (Jvm.Cond.instantiable ST kI).before a0 Z = true)
    {x b : Addr} {A : Cell} {z : Int32} {v0 c0 : Value} (E : RoadKit.Exa Z h x ST) (V : RoadKit.Fld Z h x ST "value" "[B" v0) (C : RoadKit.Fld Z h x ST "coder" "B" c0) (K : RoadKit.Arr Z h b A .char) (hty : Typed .char A) (S : RoadKit.Sta Z h ST "COMPACT_STRINGS" "Z" (.int z)) (hz : ¬ z = 0)
    (l0 : 0 < A.slots.size) (l2 : A.slots.size ≤ 536870912) (hp : ∀ i, i < A.slots.size → ¬ 255 < cv A i) (hfr : 4 ≤ R.frames) (hlo : W + 65 ≤ R.locals) :
    Back l R p e below s args New1.yN len W (fun P a => a = #[.ref x, .ref b] ∧ P.U.heap = h ∧ P.cells + 1 ≤ R.cells ∧ P.slots + A.slots.size ≤ R.slots)
      (fun P _ v B => ∃ L, Q Z x A h v B.U.heap L ∧ B.locs = P.locs ++ L ∧ B.cells = P.cells + 1 ∧ B.slots = P.slots + A.slots.size) := by
  intro m meth c P g ig mk a X hg hsize hdg hW hn hp'
  obtain ⟨rfl, rfl, r1, r2⟩ := hp'
  have al : Z.vm.Alike P.U.vm := hZ.alike.trans X.warmed.alike
  obtain ⟨D, cfV, kV, iV, fV, hD, gV, stV, knV, obV, asV, slV⟩ := id V
  obtain ⟨D', cfC, kC, iC, fC, hD', gC, stC, -, -, asC, slC⟩ := id C
  cases hD.symm.trans hD'
  obtain ⟨D2, kD, e1, e2, e3, e4, e5⟩ := id E
  cases hD.symm.trans e1
  obtain ⟨c2, k2, i1, i2, i3, -⟩ := Cond.instantiable_spec wi
  cases e2.symm.trans i1
  cases e3.symm.trans i2
  obtain ⟨kU, u1, u2⟩ := al.2.2 _ _ e3
  have hB : Blank ST x D P.U := ⟨hD, ⟨knV, fun q hq => by rw [hq] at obV; cases obV⟩, by rw [al.findClass]; exact e2, kU, u1, by rw [u2]; exact i3, by rw [u2]; exact e5 i3⟩
  have F1 : Found ST "value" "[B" fV P.U := ⟨SBG.found_only al ⟨cfV, kV, iV, gV⟩, stV⟩
  have F2 : Found ST "coder" "B" fC P.U := ⟨SBG.found_only al ⟨cfC, kC, iC, gC⟩, stC⟩
  have hA : Ch b A P.U := ⟨⟨K.1, State.isArrayOf_alike al K.2.1, K.2.2, by omega⟩, hty⟩
  have hS : StaticIs P.U ST "COMPACT_STRINGS" "Z" (.int z) := by
    obtain ⟨cfS, iS, kS, fS, st, cS, t1, t2, t3, t4, t5, t6, t7⟩ := S
    exact StaticIs.there (s := { Z with heap := P.U.heap }) ⟨cfS, iS, kS, fS, st, cS, t1, t2, t3, t4, t5, (fun q => by rw [q] at t6; cases t6), t7⟩ al rfl
  obtain ⟨v, B, X', ⟨⟨hv, E', V', q1, q2, q3, q4, q5, q6, q7, q8, q9, q10, q11⟩, hl, hc, hs⟩, st⟩ := New1.pays x D fV fC b A z (tab_of (moved hZ hw)) hfr hlo m meth c P g ig mk _ X hg hsize hdg hW hn ⟨r1, r2, rfl, hB, F1, F2, hA, hS, hz, l0, l2, hp⟩
  have al' : Z.vm.Alike B.U.vm := hZ.alike.trans X'.warmed.alike
  have hsz : E'.slots.size = D.slots.size := by
    obtain ⟨-, -, -, kB, w1, w2, w3⟩ := q1
    obtain ⟨kB', y1, y2⟩ := al'.2.2 _ _ e3
    rw [q2.2.1] at w1
    cases w1.symm.trans y1
    rw [w3, e5 i3, y2]
  refine ⟨v, B, X', ⟨_, ⟨hv, ?_, ⟨by omega, fun y cy hy hn' => q10 y cy (by simpa using hn') hy, fun y cy hy => ?_⟩, q11, ⟨E', _, q1.1, by rw [q2.2.1]; exact e2, by rw [q2.2.1]; exact e3, by rw [q2.1]; exact obV, fun _ => by rw [hsz]; exact e5 i3⟩,
    ⟨E', cfV, kV, iV, fV, q1.1, gV, stV, by rw [q2.1]; exact knV, by rw [q2.1]; exact obV, by rw [q2.2.1]; exact asV, q3⟩, ⟨E', cfC, kC, iC, fC, q1.1, gC, stC, by rw [q2.1]; exact knV, by rw [q2.1]; exact obV, by rw [q2.2.1]; exact asC, q4⟩,
    ⟨V', ⟨q5.1, State.isArrayOf_alike al'.symm q5.2.1, q5.2.2.1⟩, q6, by rw [← al'.findClass]; exact q7, q8, fun j hj => by have := q9 j hj; rwa [Nat.zero_add] at this⟩, fun O n d w F n1 n2 => ?_⟩, hl, hc, hs⟩, st⟩
  · intro y hy
    simp only [List.mem_cons, List.not_mem_nil, or_false] at hy
    rcases hy with rfl | rfl <;> rfl
  · by_cases q : y = x
    · subst q
      cases hD.symm.trans hy
      exact ⟨E', q1.1, q2.2.1, q2.1, hsz⟩
    · exact ⟨cy, q10 y cy q hy, rfl, rfl, rfl⟩
  · obtain ⟨D3, cf, k, i, f, g1, g2, g3, g4, g5, g6, g7⟩ := F
    cases hD.symm.trans g1
    simp only [RoadKit.slotOf, g2, gV, gC, Option.map_some, Option.getD_some] at n1 n2
    exact ⟨E', cf, k, i, f, q1.1, g2, g3, by rw [q2.1]; exact g4, by rw [q2.1]; exact g5, by rw [q2.2.1]; exact g6, by rw [q2.2.2 f.slot (by simp [n1, n2])]; exact g7⟩
end StrChars.Road
namespace StrChars.Road
open Jvm Sem ClassFile Op Lib Jvm.Stand Jvm.Free Jvm.Free.XT
/-- WHAT COMES BACK, the byte[] as a list of values -/
def QA (Z : State) (x : Addr) (zn : Int32) (cs : List Int32) (h : Heap) (v : Option Value) (h' : Heap) (L : List Loc) : Prop := v = none ∧ (∀ y ∈ L, y.base = x) ∧ RoadKit.Keep h h' [x] ∧ h'.size = h.size + 1 ∧ RoadKit.Exa Z h' x ST ∧ RoadKit.Fld Z h' x ST "value" "[B" (.ref h.size) ∧ RoadKit.Fld Z h' x ST "coder" "B" (.int 0) ∧
  (∃ kb, Z.vm.findClass "[B" = some kb ∧ RoadKit.Arv Z h' h.size kb .byte zn (cs.map fun c => .int (lo8 c)) (.int 0)) ∧
  ∀ (O n d : String) (w : Value), RoadKit.Fld Z h x O n d w → RoadKit.slotOf Z O n d ≠ RoadKit.slotOf Z ST "value" "[B" → RoadKit.slotOf Z O n d ≠ RoadKit.slotOf Z ST "coder" "B" → RoadKit.Fld Z h' x O n d w
/-- **new String(chars) AT A CALL, THE ARRAYS AS LISTS**: the char[] at b holds cs, not empty, no char above 255 -/
theorem backArv {p : Program} {l : Launch} {e : Env} {R : Room} {s : State} {args : Array Value} {below : List Frame} {len W : Nat} {Z : State} {a0 : Array Value} {h : Heap} (hZ : Z.Warmed39 s.vm) (hw : ∀ d ∈ words, d.before a0 Z = true) {kI : Nat} (wi : (Jvm.Cond.instantiable ST kI).before a0 Z = true)
    {x b : Addr} {k : ClassId} {zn z : Int32} {cs : List Int32} {dv v0 c0 : Value} (E : RoadKit.Exa Z h x ST) (V : RoadKit.Fld Z h x ST "value" "[B" v0) (C : RoadKit.Fld Z h x ST "coder" "B" c0) (K : RoadKit.Arv Z h b k .char zn (cs.map Value.int) dv) (S : RoadKit.Sta Z h ST "COMPACT_STRINGS" "Z" (.int z)) (hz : ¬ z = 0)
    (hlen : zn.toNatClampNeg = cs.length) (h0 : 0 < cs.length) (hbig : cs.length ≤ 536870912) (hall : ∀ c ∈ cs, ¬ 255 < c) (hfr : 4 ≤ R.frames) (hlo : W + 65 ≤ R.locals) :
    Back l R p e below s args New1.yN len W (fun P a => a = #[.ref x, .ref b] ∧ P.U.heap = h ∧ P.cells + 1 ≤ R.cells ∧ P.slots + cs.length ≤ R.slots)
      (fun P _ v B => ∃ L, QA Z x zn cs h v B.U.heap L ∧ B.locs = P.locs ++ L ∧ B.cells = P.cells + 1 ∧ B.slots = P.slots + cs.length) := by
  obtain ⟨A, K1, K2, K3, K4, K5, K6⟩ := K
  have e : A.slots.size = cs.length := K3.trans hlen
  have hat : ∀ (i : Nat) (hi : i < cs.length), A.slots[i]? = some (.int cs[i]) := fun i hi => by rw [K5 i (by omega)]; simp [List.getD_eq_getElem?_getD, hi]
  have hcv : ∀ (i : Nat) (hi : i < cs.length), cv A i = cs[i] := fun i hi => by unfold cv; rw [hat i hi]
  have hty : Typed .char A := fun i v hv => by
    have hi : i < A.slots.size := (Array.getElem?_eq_some_iff.mp hv).1
    have q := K5 i hi
    rw [hv] at q
    rw [Option.some.inj q]
    exact K6 i hi
  refine Back.mono (back hZ hw wi E V C K1 hty S hz (by omega) (by omega) (fun i hi => by rw [hcv i (by omega)]; exact hall _ (List.getElem_mem _)) hfr hlo) (fun P a hp => ⟨hp.1, hp.2.1, hp.2.2.1, by rw [e]; exact hp.2.2.2⟩) (fun P a v B hp hq => ?_)
  obtain ⟨L, ⟨q1, q2, q3, q4, q5, q6, q7, ⟨V', v1, v2, v3, v4, v5⟩, q9⟩, hl, hc, hs⟩ := hq
  refine ⟨L, ⟨q1, q2, q3, q4, q5, q6, q7, ⟨V'.cls, v3, V', v1, rfl, by rw [v4, e, hlen], K4, fun i hi => ?_, fun i hi => ?_⟩, q9⟩, hl, hc, by rw [hs, e]⟩
  · have hi' : i < cs.length := by omega
    rw [v5 i (by omega), hcv i hi']; simp [List.getD_eq_getElem?_getD, hi']
  · have hi' : i < cs.length := by omega
    simp only [List.getD_eq_getElem?_getD, List.getElem?_map, List.getElem?_eq_getElem hi', Option.map_some, Option.getD_some]
    exact fits_lo8 _
end StrChars.Road
namespace StrChars.Road
open Jvm Sem ClassFile Op Lib Jvm.Stand Jvm.Free Jvm.Free.XT
/-- WHAT COMES BACK, in the writer's own shape -/
def QV (Z : State) (x : Addr) (N : Int32) (bs : List Int32) (h : Heap) (n0 : Nat) (v : Option Value) (h' : Heap) (L : List Loc) : Prop := v = none ∧ RoadKit.Fr n0 L ∧ RoadKit.Keep h h' [x] ∧ RoadKit.Exa Z h' x ST ∧ RoadKit.Fld Z h' x ST "coder" "B" (.int 0) ∧
  ∃ (t : Addr) (kb : ClassId), n0 ≤ t ∧ h.size ≤ t ∧ ¬ t = x ∧ RoadKit.Fld Z h' x ST "value" "[B" (.ref t) ∧ RoadKit.Arv Z h' t kb .byte N (bs.map Value.int) (.int 0)
/-- **new String(chars) AT A CALL, FOR THE WRITER**: a char[] of n known ints, each 0 to 255 -/
theorem backV {p : Program} {l : Launch} {e : Env} {R : Room} {s : State} {args : Array Value} {below : List Frame} {len W : Nat} {Z : State} {a0 : Array Value} {h : Heap} (hZ : Z.Warmed39 s.vm) (hw : ∀ d ∈ words, d.before a0 Z = true) {kI : Nat} (wi : (Jvm.Cond.instantiable ST kI).before a0 Z = true)
    {x b : Addr} {kC : ClassId} {cs bs : List Int32} {d v0 c0 : Value} {z N : Int32} {n n0 : Nat} (hx0 : n0 ≤ x) (hh0 : n0 ≤ h.size) (E : RoadKit.Exa Z h x ST) (V : RoadKit.Fld Z h x ST "value" "[B" v0) (C : RoadKit.Fld Z h x ST "coder" "B" c0) (K : RoadKit.Arv Z h b kC .char N (cs.map Value.int) d) (S : RoadKit.Sta Z h ST "COMPACT_STRINGS" "Z" (.int z)) (hz : ¬ z = 0)
    (hn : cs.length = n) (hN : N = Int32.ofNat n) (l0 : 0 < n) (l2 : n ≤ 4000) (hp : ∀ c ∈ cs, ¬ c < 0 ∧ ¬ (255 : Int32) < c) (hb : bs = cs.map (fun c => c.toInt8.toInt32)) (hfr : 4 ≤ R.frames) (hlo : W + 65 ≤ R.locals) :
    Back l R p e below s args (⟨"java/lang/String", "<init>", "([C)V"⟩ : MethodName) len W (fun P a => a = #[.ref x, .ref b] ∧ P.U.heap = h ∧ P.cells + 1 ≤ R.cells ∧ P.slots + n ≤ R.slots)
      (fun P _ v B => ∃ L, QV Z x N bs h n0 v B.U.heap L ∧ B.locs = P.locs ++ L ∧ B.cells = P.cells + 1 ∧ B.slots = P.slots + n) := by
  subst hn hN hb
  refine Back.mono (backArv hZ hw wi E V C K S hz (n32 (by omega)) l0 (by omega) (fun c hc => (hp c hc).2) hfr hlo) (fun P a hp => hp) (fun P a v B hp hq => ?_)
  obtain ⟨L, ⟨q1, q2, q3, q4, q5, q6, q7, ⟨kb, v1, v2⟩, q9⟩, hl, hc, hs⟩ := hq
  exact ⟨L, ⟨q1, fun y hy => by rw [q2 y hy]; exact hx0, q3, q5, q7, h.size, kb, hh0, Nat.le_refl _, Nat.ne_of_gt E.lt, q6, by rw [List.map_map]; exact v2⟩, hl, hc, hs⟩
end StrChars.Road
namespace StrChars
open Jvm Sem ClassFile Op Lib Jvm.Stand Jvm.Free.XT Jvm.Free.ALB Jvm.Free.JM Jvm.Free
open Jvm.Lib.Cold (StaticIs)
def hi8 (x : Int32) : Int32 := lo8 (x >>> ((8 : Int32) &&& 31))
end StrChars
namespace StrChars.Road
open Jvm Sem ClassFile Op Lib Jvm.Stand Jvm.Free Jvm.Free.XT
open Jvm.Lib.Cold (StaticIs)
/-- the bytes of the chars cs, low before high -/
def wideBytes : List Int32 → List Value
  | [] => []
  | c :: cs => .int (lo8 c) :: .int (hi8 c) :: wideBytes cs
/-- an array of N2 bytes vs codes the chars cs by the coder cd -/
def CodA (cs : List Int32) (cd N2 : Int32) (vs : List Value) : Prop := (cd = 0 ∧ N2 = Int32.ofNat cs.length ∧ vs = (cs.map fun c => Value.int (lo8 c)) ∧ ∀ c ∈ cs, ¬ 255 < c) ∨ (cd = 1 ∧ N2 = Int32.ofNat (2 * cs.length) ∧ vs = wideBytes cs ∧ ∃ c ∈ cs, 255 < c)
end StrChars.Road
namespace StrChars.Road
open Jvm Sem ClassFile Op Lib Jvm.Stand Jvm.Free Jvm.Free.XT
open Jvm.Lib.Cold (StaticIs)
/-- what backV says of its String, as the contracts of this text ask it: cs's low bytes, coder 0 -/
theorem codOf {cs : List Int32} {n : Nat} (hn : cs.length = n) (hb : ∀ c ∈ cs, ¬ 255 < c) : CodA cs 0 (Int32.ofNat n) ((cs.map lo8).map Value.int) := Or.inl ⟨rfl, by rw [hn], by simp [List.map_map, Function.comp_def], hb⟩
end StrChars.Road
end Jvm.Pilot.@@N@@
namespace Jvm.Pilot.@@N@@
open Jvm Jvm.ClassFile Sem Op Lib Jvm.Free Jvm.Stand Jvm.LawKit Jvm.RoadKit Bundle Jvm.Pilot.@@N@@.Jvm.D
theorem own_up (cs : List Int32) (h : ∀ c ∈ cs, ¬ c < 0 ∧ ¬ (255 : Int32) < c) : ∀ c ∈ cs, ¬ c < 0 ∧ ¬ (65535 : Int32) < c := fun c hc => ⟨(h c hc).1, fun q => (h c hc).2 (by rw [Int32.lt_iff_toInt_lt] at q ⊢; have e1 : (65535 : Int32).toInt = 65535 := rfl; have e2 : (255 : Int32).toInt = 255 := rfl; omega)⟩
theorem own_lat (x : Int32) : ¬ nar .char ((x &&& (255 : Int32)).toUInt32.toUInt16.toUInt32.toInt32) < 0 ∧ ¬ (255 : Int32) < nar .char ((x &&& (255 : Int32)).toUInt32.toUInt16.toUInt32.toInt32) := by
  have tt : ∀ k : Fin 256, ¬ nar .char ((Int32.ofNat k.val).toUInt32.toUInt16.toUInt32.toInt32) < 0 ∧ ¬ (255 : Int32) < nar .char ((Int32.ofNat k.val).toUInt32.toUInt16.toUInt32.toInt32) := by decide +kernel
  have h : (x &&& 255).toBitVec.toNat < 256 := by
    simp only [Int32.toBitVec_and, BitVec.toNat_and]
    exact Nat.lt_succ_of_le Nat.and_le_right
  have e : (x &&& 255) = Int32.ofNat (x &&& 255).toBitVec.toNat := by
    apply Int32.toBitVec_inj.mp
    show _ = BitVec.ofNat 32 _
    rw [BitVec.ofNat_toNat]; simp
  rw [e]
  exact tt ⟨_, h⟩
theorem own_hw_backV {Z : State} {a0 : Array Value} (hw : ∀ d ∈ tables_1, d.before a0 Z = true) : ∀ d ∈ StrChars.Road.words, d.before a0 Z = true := fun d hd => hw d ((by decide +kernel : ∀ d ∈ StrChars.Road.words, d ∈ tables_1) d hd)
theorem own_c255 (x : Int32) : ¬ (255 : Int32) < ((x &&& (255 : Int32)).toUInt32.toUInt16.toUInt32.toInt32) := by
  rw [i2c_mask]
  intro h
  have h1 := c_and x 255 (by decide)
  rw [Int32.lt_iff_toInt_lt] at h
  have e2 : (255 : Int32).toInt = 255 := rfl
  omega
theorem own_mod (x y : Int32) (d : Int) (hy : y.toInt = d) (hd : 0 < d) : 0 ≤ ((x &&& (2147483647 : Int32)) % y).toInt ∧ ((x &&& (2147483647 : Int32)) % y).toInt < d := by
  have h1 := c_and x 2147483647 (by decide)
  have h2 := (c_irem (x &&& (2147483647 : Int32)) y d hy).1 h1.1
  rw [h2]
  exact ⟨Int.emod_nonneg _ (by omega), Int.emod_lt_of_pos _ hd⟩
theorem own_i0 {x : Int32} (h : x.toInt = 0) : x = (0 : Int32) := Int32.toInt_inj.mp (by rw [h]; rfl)
theorem own_i1 {x : Int32} (h : x.toInt = 1) : x = (1 : Int32) := Int32.toInt_inj.mp (by rw [h]; rfl)
theorem own_i2 {x : Int32} (h : x.toInt = 2) : x = (2 : Int32) := Int32.toInt_inj.mp (by rw [h]; rfl)
theorem own_n3 (x : Int32) : ((1 : Int32) + ((x &&& (2147483647 : Int32)) % (3 : Int32))) = (1 : Int32) ∨ ((1 : Int32) + ((x &&& (2147483647 : Int32)) % (3 : Int32))) = (2 : Int32) ∨ ((1 : Int32) + ((x &&& (2147483647 : Int32)) % (3 : Int32))) = (3 : Int32) := by
  have h := own_mod x 3 3 rfl (by decide)
  have hh : ((x &&& (2147483647 : Int32)) % (3 : Int32)).toInt = 0 ∨ ((x &&& (2147483647 : Int32)) % (3 : Int32)).toInt = 1 ∨ ((x &&& (2147483647 : Int32)) % (3 : Int32)).toInt = 2 := by omega
  rcases hh with q | q | q
  · exact Or.inl (by rw [own_i0 q]; rfl)
  · exact Or.inr (Or.inl (by rw [own_i1 q]; rfl))
  · exact Or.inr (Or.inr (by rw [own_i2 q]; rfl))
theorem own_m1 (x : Int32) : ((x &&& (2147483647 : Int32)) % (1 : Int32)) = (0 : Int32) := by
  have h := own_mod x 1 1 rfl (by decide)
  exact own_i0 (by omega)
theorem own_m2 (x : Int32) : ((x &&& (2147483647 : Int32)) % (2 : Int32)) = (0 : Int32) ∨ ((x &&& (2147483647 : Int32)) % (2 : Int32)) = (1 : Int32) := by
  have h := own_mod x 2 2 rfl (by decide)
  have hh : ((x &&& (2147483647 : Int32)) % (2 : Int32)).toInt = 0 ∨ ((x &&& (2147483647 : Int32)) % (2 : Int32)).toInt = 1 := by omega
  exact hh.imp own_i0 own_i1
theorem own_m3 (x : Int32) : ((x &&& (2147483647 : Int32)) % (3 : Int32)) = (0 : Int32) ∨ ((x &&& (2147483647 : Int32)) % (3 : Int32)) = (1 : Int32) ∨ ((x &&& (2147483647 : Int32)) % (3 : Int32)) = (2 : Int32) := by
  have h := own_mod x 3 3 rfl (by decide)
  have hh : ((x &&& (2147483647 : Int32)) % (3 : Int32)).toInt = 0 ∨ ((x &&& (2147483647 : Int32)) % (3 : Int32)).toInt = 1 ∨ ((x &&& (2147483647 : Int32)) % (3 : Int32)).toInt = 2 := by omega
  exact hh.imp own_i0 (fun q => q.imp own_i1 own_i2)
theorem own_len {s : State} {args : Array Value} {t : Term} {a : Addr} {cell : Cell} {ty : FieldType} {n : Int32} (ev : t.eval args s none [] s = some (.ref a)) (A : Arr s s.heap a cell ty) (h : (Term.length t).eval args s none [] s = some (.int n)) : cell.slots.size < 2 ^ 31 ∧ cell.slots.size.toInt32 = n := by
  have ha := A.fin (Vm.Alike.refl _)
  by_cases hl : cell.slots.size < 2 ^ 31
  · have q := len_f ev ha hl
    rw [q] at h
    cases h
    exact ⟨hl, rfl⟩
  · simp [Term.eval, ev, ha, hl] at h
theorem d_jdk_43_method_3_code_0 : decode jdk_43_method_3_code 0 = .ok (.iload_n 0, 1) := by decide +kernel
theorem d_jdk_43_method_3_code_1 : decode jdk_43_method_3_code 1 = .ok (.sipush 255, 3) := by decide +kernel
theorem d_jdk_43_method_3_code_4 : decode jdk_43_method_3_code 4 = .ok (.if_icmp .gt 7, 3) := by decide +kernel
theorem d_jdk_43_method_3_code_7 : decode jdk_43_method_3_code 7 = .ok (.iconst 1, 1) := by decide +kernel
theorem d_jdk_43_method_3_code_8 : decode jdk_43_method_3_code 8 = .ok (.goto 4, 3) := by decide +kernel
theorem d_jdk_43_method_3_code_12 : decode jdk_43_method_3_code 12 = .ok (.ireturn, 1) := by decide +kernel
theorem ef_0 (m : MethodId) (x0 : Int32) : entryFrame m #[(.int x0)] 1 = mkF m 0 #[.val (.int x0)] [] := by first | (simp [entryFrame, mkF, argsToLocals, Value.category]; done) | rfl
theorem pn_0 : plainName "java/lang/StringLatin1" = true := by first | (simp [plainName, overriddenIn]; done) | decide +kernel
def Q_canEnc (Z : State) (xc : Int32) (h0 : Heap) (n0 : Nat) (v : Option Value) (h : Heap) (L : List Loc) : Prop := (v = some (.int (1 : Int32))) ∧ (Fr n0 L) ∧ (h = h0)
set_option maxRecDepth 65536 in
set_option maxHeartbeats 40000000 in
theorem rm_canEnc (l : Launch) (Z : State) (a0 : Array Value) (hw : ∀ d ∈ tables_1, d.before a0 Z = true) (ws : List Jvm.Cond) (xc : Int32) (h0 : Heap) (n0 : Nat) (Z0 : n0 ≤ h0.size) (h255 : ¬ (255 : Int32) < xc) :
    MetFree l (⟨"java/lang/StringLatin1", "canEncode", "(C)Z"⟩ : MethodName) (head1 (Jvm.Cond.code (⟨"java/lang/StringLatin1", "canEncode", "(C)Z"⟩ : MethodName) jdk_43_method_3_code 1 (some .boolean) :: ws) ({ frames := 0, cells := 0, slots := 0, locals := 0 } : Room)) (fun a₁ U₁ => a₁ = #[(.int xc)] ∧ Z.Warmed39 U₁.vm ∧ U₁.heap = h0) (fun _ _ _ _ _ => True) (fun _ U₁ o₁ U₂ => ∃ v₁ L₁, o₁ = .returned v₁ ∧ Q_canEnc Z xc h0 n0 v₁ U₂.heap L₁ ∧ FrameEnd U₁ o₁ U₂ L₁ ({ frames := 0, cells := 0, slots := 0, locals := 0 } : Room).cells ({ frames := 0, cells := 0, slots := 0, locals := 0 } : Room).slots) := by
  refine MetFree.of_bodySF (plainFor_of_name pn_0) hisR ?_
  intro p e s m args below meth c s₁ Bd hml0 hP hK
  obtain ⟨rfl, hZ, hh⟩ := hP
  have hx := Bd.exec
  have hby := Bd.bytes
  have hml : c.maxLocals = 1 := hml0
  have hown : s.vm.findClass "java/lang/StringLatin1" = some m.cls := findClass_of_methodNamed Bd.named
  have hnm := (name_of_methodNamed Bd.named Bd.method).1
  have X0 : Stand p l e ({ frames := 0, cells := 0, slots := 0, locals := 0 } : Room) s m #[(.int xc)] below meth c s₁ [] 0 0 := Stand.of_body Bd
  have e0 : s₁.heap = h0 := by rw [← hh, Bd.state]; rfl
  have N0 := Fr.nil n0
  have pre0 : ∀ t, Steps p.tables e below (s₁.setTop (mkF m 0 #[.val (.int xc)] [])) t → Steps p.tables e below (s₁.setTop (entryFrame m #[(.int xc)] 1)) t := fun t k => castTop (ef_0 m xc) k
  obtain ⟨fs, hr, hrun, hended, hW, hsame⟩ := X0.leave (v := some (.int (1 : Int32))) (fun h => by rw [Bd.returns] at h; cases h)
  refine ⟨_, _, pre0 _ ?_, hrun, hended, _, _, rfl, ?_, ⟨_, rfl⟩, hW, hsame.mono (by decide) (by decide)⟩
  · refine XS.iloadN X0.here hx rfl (hb hby d_jdk_43_method_3_code_0) rfl ?_
    show Steps p.tables e below (s₁.setTop (mkF m 1 #[.val (.int xc)] [(.int xc)])) _
    refine XS.sipush X0.here hx rfl (hb hby d_jdk_43_method_3_code_1) ?_
    show Steps p.tables e below (s₁.setTop (mkF m 4 #[.val (.int xc)] [(.int (255 : Int32)), (.int xc)])) _
    refine XS.icmpNo X0.here hx rfl (hb hby d_jdk_43_method_3_code_4) rfl (flt (h255 : ¬ ((255 : Int32) < xc))).2.2.1 ?_
    show Steps p.tables e below (s₁.setTop (mkF m 7 #[.val (.int xc)] [])) _
    refine XS.iconst X0.here hx rfl (hb hby d_jdk_43_method_3_code_7) ?_
    show Steps p.tables e below (s₁.setTop (mkF m 8 #[.val (.int xc)] [(.int (1 : Int32))])) _
    refine XS.goto X0.here hx rfl (pc0 := 8) (pc' := 12) rfl (hb hby d_jdk_43_method_3_code_8) (by decide) (by decide) ?_
    show Steps p.tables e below (s₁.setTop (mkF m 12 #[.val (.int xc)] [(.int (1 : Int32))])) _
    exact retN X0 hx (t := .boolean) Bd.returns (by simp) (hb hby d_jdk_43_method_3_code_12) hr
  · show Q_canEnc Z xc h0 n0 _ s₁.heap _
    rw [e0]
    exact ⟨rfl, N0, rfl⟩
theorem d_jdk_43_method_46_code_0 : decode jdk_43_method_46_code 0 = .ok (.iconst 1, 1) := by decide +kernel
theorem d_jdk_43_method_46_code_1 : decode jdk_43_method_46_code 1 = .ok (.newarray .byte, 2) := by decide +kernel
theorem d_jdk_43_method_46_code_3 : decode jdk_43_method_46_code 3 = .ok (.dup, 1) := by decide +kernel
theorem d_jdk_43_method_46_code_4 : decode jdk_43_method_46_code 4 = .ok (.iconst 0, 1) := by decide +kernel
theorem d_jdk_43_method_46_code_5 : decode jdk_43_method_46_code 5 = .ok (.iload_n 0, 1) := by decide +kernel
theorem d_jdk_43_method_46_code_6 : decode jdk_43_method_46_code 6 = .ok (.i2b, 1) := by decide +kernel
theorem d_jdk_43_method_46_code_7 : decode jdk_43_method_46_code 7 = .ok (.bastore, 1) := by decide +kernel
theorem d_jdk_43_method_46_code_8 : decode jdk_43_method_46_code 8 = .ok (.areturn, 1) := by decide +kernel
def Q_toB1 (Z : State) (xc : Int32) (h0 : Heap) (n0 : Nat) (v : Option Value) (h : Heap) (L : List Loc) : Prop := ∃ (tt : Addr) (kt : ClassId), (v = some (.ref tt)) ∧ (Fr n0 L) ∧ (Keep h0 h ([] : List Addr)) ∧ (h0.size ≤ tt) ∧ (Arv Z h tt kt .byte (1 : Int32) [(.int (nar .byte (xc.toInt8.toInt32)))] (.int (0 : Int32)))
set_option maxRecDepth 65536 in
set_option maxHeartbeats 40000000 in
theorem rm_toB1 (l : Launch) (Z : State) (a0 : Array Value) (hw : ∀ d ∈ tables_1, d.before a0 Z = true) (ws : List Jvm.Cond) (xc : Int32) (h0 : Heap) (n0 : Nat) (Z0 : n0 ≤ h0.size) :
    MetFree l (⟨"java/lang/StringLatin1", "toBytes", "(C)[B"⟩ : MethodName) (head1 (Jvm.Cond.code (⟨"java/lang/StringLatin1", "toBytes", "(C)[B"⟩ : MethodName) jdk_43_method_46_code 1 (some (.array .byte)) :: ws) ({ frames := 0, cells := 1, slots := 1, locals := 0 } : Room)) (fun a₁ U₁ => a₁ = #[(.int xc)] ∧ Z.Warmed39 U₁.vm ∧ U₁.heap = h0) (fun _ _ _ _ _ => True) (fun _ U₁ o₁ U₂ => ∃ v₁ L₁, o₁ = .returned v₁ ∧ Q_toB1 Z xc h0 n0 v₁ U₂.heap L₁ ∧ FrameEnd U₁ o₁ U₂ L₁ ({ frames := 0, cells := 1, slots := 1, locals := 0 } : Room).cells ({ frames := 0, cells := 1, slots := 1, locals := 0 } : Room).slots) := by
  refine MetFree.of_bodySF (plainFor_of_name pn_0) hisR ?_
  intro p e s m args below meth c s₁ Bd hml0 hP hK
  obtain ⟨rfl, hZ, hh⟩ := hP
  have hx := Bd.exec
  have hby := Bd.bytes
  have hml : c.maxLocals = 1 := hml0
  have hown : s.vm.findClass "java/lang/StringLatin1" = some m.cls := findClass_of_methodNamed Bd.named
  have hnm := (name_of_methodNamed Bd.named Bd.method).1
  have X0 : Stand p l e ({ frames := 0, cells := 1, slots := 1, locals := 0 } : Room) s m #[(.int xc)] below meth c s₁ [] 0 0 := Stand.of_body Bd
  have e0 : s₁.heap = h0 := by rw [← hh, Bd.state]; rfl
  have N0 := Fr.nil n0
  have pre0 : ∀ t, Steps p.tables e below (s₁.setTop (mkF m 0 #[.val (.int xc)] [])) t → Steps p.tables e below (s₁.setTop (entryFrame m #[(.int xc)] 1)) t := fun t k => castTop (ef_0 m xc) k
  obtain ⟨T301, h301, ky301, X301, e301, E301, A301, st301⟩ := newP X0 hx hZ (hw _ (List.mem_of_getElem? (i := 14) rfl)) e0 (g := (mkF m 1 #[.val (.int xc)] [(.int (1 : Int32))])) rfl (hb hby d_jdk_43_method_46_code_1) rfl ((by decide) : ¬ ((1 : Int32) < (0 : Int32))) (cap := 1) ((by decide) : (1 : Int32).toNatClampNeg ≤ 1) (by decide) (by decide) (by decide)
  obtain ⟨b301, g301⟩ : ∃ z, z = h0.size := ⟨_, rfl⟩
  rw [← g301] at A301 st301
  have V301 : Arv Z h301 b301 ky301 .byte (1 : Int32) [] (.int (0 : Int32)) := Arv.new A301 (by decide)
  have U301 : Arv Z h301 b301 ky301 .byte (1 : Int32) [(.int (0 : Int32))] (.int (0 : Int32)) := V301.pad (pad_rep [] (.int (0 : Int32)) 1)
  have ge303 : n0 ≤ b301 := Nat.le_trans Z0 (Nat.le_trans (Nat.le_refl _) (Nat.le_of_eq g301.symm))
  obtain ⟨cl302, Ar302, qq302, S302, M302, Hh302, U302⟩ := id U301
  obtain ⟨T302, h302, X302, e302, W302, st302⟩ := stB X301 hx hZ e301 Ar302 (j := (0 : Int32)) (inb_of S302 ⟨(by decide : ¬ ((0 : Int32) < (0 : Int32))), (by decide : (0 : Int32) < (1 : Int32))⟩) (g := (mkF m 7 #[.val (.int xc)] [(.int (xc.toInt8.toInt32)), (.int (0 : Int32)), (.ref b301), (.ref b301)])) rfl rfl (hb hby d_jdk_43_method_46_code_7)
  have N302 := Fr.snoc X302 N0 ge303
  have V302 : Arv Z h302 b301 ky301 .byte (1 : Int32) [(.int (nar .byte (xc.toInt8.toInt32)))] (.int (0 : Int32)) := Arv.set Ar302 qq302 S302 M302 Hh302 U302 (fits_nar_byte _) W302 0 rfl (Nat.le_of_ble_eq_true rfl)
  obtain ⟨fs, hr, hrun, hended, hW, hsame⟩ := X302.leave (v := some (.ref b301)) (fun h => by rw [Bd.returns] at h; cases h)
  refine ⟨_, _, pre0 _ ?_, hrun, hended, _, _, rfl, ?_, ⟨_, rfl⟩, hW, hsame.mono (by decide) (by decide)⟩
  · refine XS.iconst X0.here hx rfl (hb hby d_jdk_43_method_46_code_0) ?_
    show Steps p.tables e below (s₁.setTop (mkF m 1 #[.val (.int xc)] [(.int (1 : Int32))])) _
    refine st301 _ ?_
    show Steps p.tables e below (T301.setTop (mkF m 3 #[.val (.int xc)] [(.ref b301)])) _
    refine XS.dup X301.here hx rfl (hb hby d_jdk_43_method_46_code_3) rfl rfl ?_
    show Steps p.tables e below (T301.setTop (mkF m 4 #[.val (.int xc)] [(.ref b301), (.ref b301)])) _
    refine XS.iconst X301.here hx rfl (hb hby d_jdk_43_method_46_code_4) ?_
    show Steps p.tables e below (T301.setTop (mkF m 5 #[.val (.int xc)] [(.int (0 : Int32)), (.ref b301), (.ref b301)])) _
    refine XS.iloadN X301.here hx rfl (hb hby d_jdk_43_method_46_code_5) rfl ?_
    show Steps p.tables e below (T301.setTop (mkF m 6 #[.val (.int xc)] [(.int xc), (.int (0 : Int32)), (.ref b301), (.ref b301)])) _
    refine XS.i2b X301.here hx rfl (hb hby d_jdk_43_method_46_code_6) rfl ?_
    show Steps p.tables e below (T301.setTop (mkF m 7 #[.val (.int xc)] [(.int (xc.toInt8.toInt32)), (.int (0 : Int32)), (.ref b301), (.ref b301)])) _
    refine st302 _ ?_
    show Steps p.tables e below (T302.setTop (mkF m 8 #[.val (.int xc)] [(.ref b301)])) _
    jvm_step X302.here [X302.here.top, hx, (hb hby d_jdk_43_method_46_code_8), X302.method', Bd.returns, Value.isRef, FieldType.isReference]
    first | (intro acts; rw [hr _ acts rfl rfl rfl]) | rw [hr _ _ rfl rfl rfl]
    exact Steps.refl _
  · show Q_toB1 Z xc h0 n0 _ T302.heap _
    rw [e302]
    exact ⟨b301, ky301, rfl, N302, (((Keep.refl h0 ([] : List Addr)).ext E301).wr W302 (Or.inr (Nat.le_trans (Nat.le_refl _) (Nat.le_of_eq g301.symm)))), (Nat.le_trans (Nat.le_refl _) (Nat.le_of_eq g301.symm)), V302⟩
theorem d_jdk_42_method_151_code_0 : decode jdk_42_method_151_code 0 = .ok (.aload_n 0, 1) := by decide +kernel
theorem d_jdk_42_method_151_code_1 : decode jdk_42_method_151_code 1 = .ok (.invokespecial 1, 3) := by decide +kernel
theorem d_jdk_42_method_151_code_4 : decode jdk_42_method_151_code 4 = .ok (.aload_n 0, 1) := by decide +kernel
theorem d_jdk_42_method_151_code_5 : decode jdk_42_method_151_code 5 = .ok (.aload_n 1, 1) := by decide +kernel
theorem d_jdk_42_method_151_code_6 : decode jdk_42_method_151_code 6 = .ok (.putfield 9, 3) := by decide +kernel
theorem d_jdk_42_method_151_code_9 : decode jdk_42_method_151_code 9 = .ok (.aload_n 0, 1) := by decide +kernel
theorem d_jdk_42_method_151_code_10 : decode jdk_42_method_151_code 10 = .ok (.iload_n 2, 1) := by decide +kernel
theorem d_jdk_42_method_151_code_11 : decode jdk_42_method_151_code 11 = .ok (.putfield 15, 3) := by decide +kernel
theorem d_jdk_42_method_151_code_14 : decode jdk_42_method_151_code 14 = .ok (.return_, 1) := by decide +kernel
theorem ef_1 (m : MethodId) (x0 : Addr) (x1 : Addr) (x2 : Int32) : entryFrame m #[(.ref x0), (.ref x1), (.int x2)] 3 = mkF m 0 #[.val (.ref x0), .val (.ref x1), .val (.int x2)] [] := by first | (simp [entryFrame, mkF, argsToLocals, Value.category]; done) | rfl
theorem pn_1 : plainName "java/lang/String" = true := by first | (simp [plainName, overriddenIn]; done) | decide +kernel
def Q_strBB (Z : State) (xs : Addr) (tt : Addr) (h0 : Heap) (n0 : Nat) (v : Option Value) (h : Heap) (L : List Loc) : Prop := (v = none) ∧ (Fr n0 L) ∧ (Keep h0 h ([xs] : List Addr)) ∧ (Fld Z h xs "java/lang/String" "value" "[B" (.ref tt)) ∧ (Fld Z h xs "java/lang/String" "coder" "B" (.int (0 : Int32)))
set_option maxRecDepth 65536 in
set_option maxHeartbeats 40000000 in
theorem rm_strBB (l : Launch) (Z : State) (a0 : Array Value) (hw : ∀ d ∈ tables_1, d.before a0 Z = true) (ws : List Jvm.Cond) (xs : Addr) (tt : Addr) (h0 : Heap) (n0 : Nat) (Z0 : n0 ≤ h0.size) (q0 : Exa Z h0 xs "java/lang/String") (q1 : Fld Z h0 xs "java/lang/String" "value" "[B" .null) (q2 : Fld Z h0 xs "java/lang/String" "coder" "B" (.int (0 : Int32))) (q3 : n0 ≤ xs) :
    MetFree l (⟨"java/lang/String", "<init>", "([BB)V"⟩ : MethodName) (head1 (Jvm.Cond.code (⟨"java/lang/String", "<init>", "([BB)V"⟩ : MethodName) jdk_42_method_151_code 3 none :: ws) ({ frames := 1, cells := 0, slots := 0, locals := 12 } : Room)) (fun a₁ U₁ => a₁ = #[(.ref xs), (.ref tt), (.int (0 : Int32))] ∧ Z.Warmed39 U₁.vm ∧ U₁.heap = h0) (fun _ _ _ _ _ => True) (fun _ U₁ o₁ U₂ => ∃ v₁ L₁, o₁ = .returned v₁ ∧ Q_strBB Z xs tt h0 n0 v₁ U₂.heap L₁ ∧ FrameEnd U₁ o₁ U₂ L₁ ({ frames := 1, cells := 0, slots := 0, locals := 12 } : Room).cells ({ frames := 1, cells := 0, slots := 0, locals := 12 } : Room).slots) := by
  refine MetFree.of_bodySF (plainFor_of_name pn_1) hisR ?_
  intro p e s m args below meth c s₁ Bd hml0 hP hK
  obtain ⟨rfl, hZ, hh⟩ := hP
  have hx := Bd.exec
  have hby := Bd.bytes
  have hml : c.maxLocals = 3 := hml0
  have hown : s.vm.findClass "java/lang/String" = some m.cls := findClass_of_methodNamed Bd.named
  have hnm := (name_of_methodNamed Bd.named Bd.method).1
  have X0 : Stand p l e ({ frames := 1, cells := 0, slots := 0, locals := 12 } : Room) s m #[(.ref xs), (.ref tt), (.int (0 : Int32))] below meth c s₁ [] 0 0 := Stand.of_body Bd
  have e0 : s₁.heap = h0 := by rw [← hh, Bd.state]; rfl
  have N0 := Fr.nil n0
  have pre0 : ∀ t, Steps p.tables e below (s₁.setTop (mkF m 0 #[.val (.ref xs), .val (.ref tt), .val (.int (0 : Int32))] [])) t → Steps p.tables e below (s₁.setTop (entryFrame m #[(.ref xs), (.ref tt), (.int (0 : Int32))] 3)) t := fun t k => castTop (ef_1 m xs tt (0 : Int32)) k
  obtain ⟨T301, X301, e301, st301⟩ := initO X0 hx hZ hown (hw _ (List.mem_of_getElem? (i := 19) rfl)) (hw _ (List.mem_of_getElem? (i := 20) rfl)) (hw _ (List.mem_of_getElem? (i := 21) rfl)) e0 (g := (mkF m 1 #[.val (.ref xs), .val (.ref tt), .val (.int (0 : Int32))] [(.ref xs)])) rfl (by rw [hml]; rfl) rfl (hb hby d_jdk_42_method_151_code_1) (by decide) (W := 0) (by show 2 * 0 + _ ≤ _; exact Nat.le_of_eq rfl) (by decide)
  obtain ⟨T302, h302, X302, e302, W302, st302⟩ := putF X301 hx hZ hown (host := "") (Or.inl (hw _ (List.mem_of_getElem? (i := 22) rfl))) Via.refl e301 q1 q0 (Or.inr ⟨(hw _ (List.mem_of_getElem? (i := 23) rfl)), rfl, hnm⟩) (hw _ (List.mem_of_getElem? (i := 10) rfl)) (ty := (.array .byte)) (by decide) rfl rfl (g := (mkF m 6 #[.val (.ref xs), .val (.ref tt), .val (.int (0 : Int32))] [(.ref tt), (.ref xs)])) rfl rfl (hb hby d_jdk_42_method_151_code_6)
  have N302 := Fr.snoc X302 N0 q3
  have F302 : Fld Z h302 xs "java/lang/String" "value" "[B" (.ref tt) := q1.same W302
  have c303 : Fld Z h302 xs "java/lang/String" "coder" "B" (.int (0 : Int32)) := (q2.other W302 (Or.inr (slot_ne (Or.inr (hw _ (List.mem_of_getElem? (i := 25) rfl))) (Or.inr (hw _ (List.mem_of_getElem? (i := 23) rfl))) (by decide) (t := .byte) (t' := (.array .byte)) (by decide) (by decide))))
  have c304 : Exa Z h302 xs "java/lang/String" := (q0.wr W302)
  obtain ⟨T305, h305, X305, e305, W305, st305⟩ := putFN X302 hx hZ hown (hw _ (List.mem_of_getElem? (i := 24) rfl)) Via.refl e302 c303 c304 (Or.inr ⟨(hw _ (List.mem_of_getElem? (i := 25) rfl)), rfl, hnm⟩) (hw _ (List.mem_of_getElem? (i := 10) rfl)) (ty := .byte) (v' := (.int (0 : Int32))) (by decide) rfl rfl (g := (mkF m 11 #[.val (.ref xs), .val (.ref tt), .val (.int (0 : Int32))] [(.int (0 : Int32)), (.ref xs)])) rfl rfl (hb hby d_jdk_42_method_151_code_11)
  have N305 := Fr.snoc X305 N302 q3
  have F305 : Fld Z h305 xs "java/lang/String" "coder" "B" (.int (0 : Int32)) := c303.same W305
  have c306 : Fld Z h305 xs "java/lang/String" "value" "[B" (.ref tt) := (F302.other W305 (Or.inr (slot_ne (Or.inr (hw _ (List.mem_of_getElem? (i := 23) rfl))) (Or.inr (hw _ (List.mem_of_getElem? (i := 25) rfl))) (by decide) (t := (.array .byte)) (t' := .byte) (by decide) (by decide))))
  obtain ⟨fs, hr, hrun, hended, hW, hsame⟩ := X305.leave (v := none) (fun _ => rfl)
  refine ⟨_, _, pre0 _ ?_, hrun, hended, _, _, rfl, ?_, ⟨_, rfl⟩, hW, hsame.mono (by decide) (by decide)⟩
  · refine XS.aloadN X0.here hx rfl (hb hby d_jdk_42_method_151_code_0) rfl rfl ?_
    show Steps p.tables e below (s₁.setTop (mkF m 1 #[.val (.ref xs), .val (.ref tt), .val (.int (0 : Int32))] [(.ref xs)])) _
    refine st301 _ ?_
    show Steps p.tables e below (T301.setTop (mkF m 4 #[.val (.ref xs), .val (.ref tt), .val (.int (0 : Int32))] [])) _
    refine XS.aloadN X301.here hx rfl (hb hby d_jdk_42_method_151_code_4) rfl rfl ?_
    show Steps p.tables e below (T301.setTop (mkF m 5 #[.val (.ref xs), .val (.ref tt), .val (.int (0 : Int32))] [(.ref xs)])) _
    refine XS.aloadN X301.here hx rfl (hb hby d_jdk_42_method_151_code_5) rfl rfl ?_
    show Steps p.tables e below (T301.setTop (mkF m 6 #[.val (.ref xs), .val (.ref tt), .val (.int (0 : Int32))] [(.ref tt), (.ref xs)])) _
    refine st302 _ ?_
    show Steps p.tables e below (T302.setTop (mkF m 9 #[.val (.ref xs), .val (.ref tt), .val (.int (0 : Int32))] [])) _
    refine XS.aloadN X302.here hx rfl (hb hby d_jdk_42_method_151_code_9) rfl rfl ?_
    show Steps p.tables e below (T302.setTop (mkF m 10 #[.val (.ref xs), .val (.ref tt), .val (.int (0 : Int32))] [(.ref xs)])) _
    refine XS.iloadN X302.here hx rfl (hb hby d_jdk_42_method_151_code_10) rfl ?_
    show Steps p.tables e below (T302.setTop (mkF m 11 #[.val (.ref xs), .val (.ref tt), .val (.int (0 : Int32))] [(.int (0 : Int32)), (.ref xs)])) _
    refine st305 _ ?_
    show Steps p.tables e below (T305.setTop (mkF m 14 #[.val (.ref xs), .val (.ref tt), .val (.int (0 : Int32))] [])) _
    exact X305.returnOut hx Bd.returns (hb hby d_jdk_42_method_151_code_14) hr
  · show Q_strBB Z xs tt h0 n0 _ T305.heap _
    rw [e305]
    exact ⟨rfl, N305, (((Keep.refl h0 ([xs] : List Addr)).wr W302 (Or.inl (by simp))).wr W305 (Or.inl (by simp))), c306, F305⟩
theorem d_jdk_42_method_139_code_0 : decode jdk_42_method_139_code 0 = .ok (.getstatic 38, 3) := by decide +kernel
theorem d_jdk_42_method_139_code_3 : decode jdk_42_method_139_code 3 = .ok (.ifCond .eq 23, 3) := by decide +kernel
theorem d_jdk_42_method_139_code_6 : decode jdk_42_method_139_code 6 = .ok (.iload_n 0, 1) := by decide +kernel
theorem d_jdk_42_method_139_code_7 : decode jdk_42_method_139_code 7 = .ok (.invokestatic 1015, 3) := by decide +kernel
theorem pd_0 : parseMethodDescriptor "(C)Z" = some ⟨[.char], some .boolean⟩ := by decide +kernel
theorem d_jdk_42_method_139_code_10 : decode jdk_42_method_139_code 10 = .ok (.ifCond .eq 16, 3) := by decide +kernel
theorem d_jdk_42_method_139_code_13 : decode jdk_42_method_139_code 13 = .ok (.new 10, 3) := by decide +kernel
theorem d_jdk_42_method_139_code_16 : decode jdk_42_method_139_code 16 = .ok (.dup, 1) := by decide +kernel
theorem d_jdk_42_method_139_code_17 : decode jdk_42_method_139_code 17 = .ok (.iload_n 0, 1) := by decide +kernel
theorem d_jdk_42_method_139_code_18 : decode jdk_42_method_139_code 18 = .ok (.invokestatic 1018, 3) := by decide +kernel
theorem pd_1 : parseMethodDescriptor "(C)[B" = some ⟨[.char], some (.array .byte)⟩ := by decide +kernel
theorem d_jdk_42_method_139_code_21 : decode jdk_42_method_139_code 21 = .ok (.iconst 0, 1) := by decide +kernel
theorem d_jdk_42_method_139_code_22 : decode jdk_42_method_139_code 22 = .ok (.invokespecial 209, 3) := by decide +kernel
theorem pd_2 : parseMethodDescriptor "([BB)V" = some ⟨[(.array .byte), .byte], none⟩ := by decide +kernel
theorem d_jdk_42_method_139_code_25 : decode jdk_42_method_139_code 25 = .ok (.areturn, 1) := by decide +kernel
def Q_valC (Z : State) (xc : Int32) (G : Int32) (h0 : Heap) (n0 : Nat) (v : Option Value) (h : Heap) (L : List Loc) : Prop := ∃ (xr : Addr) (tt : Addr) (kt : ClassId), (v = some (.ref xr)) ∧ (Fr n0 L) ∧ (Keep h0 h ([] : List Addr)) ∧ (h0.size ≤ xr) ∧ (h0.size ≤ tt) ∧ (Exa Z h xr "java/lang/String") ∧ (Fld Z h xr "java/lang/String" "value" "[B" (.ref tt)) ∧ (Fld Z h xr "java/lang/String" "coder" "B" (.int (0 : Int32))) ∧ (Arv Z h tt kt .byte (1 : Int32) [(.int (nar .byte (xc.toInt8.toInt32)))] (.int (0 : Int32)))
set_option maxRecDepth 65536 in
set_option maxHeartbeats 40000000 in
theorem rm_valC (l : Launch) (Z : State) (a0 : Array Value) (hw : ∀ d ∈ tables_1, d.before a0 Z = true) (ws : List Jvm.Cond) (xc : Int32) (G : Int32) (h0 : Heap) (n0 : Nat) (Z0 : n0 ≤ h0.size) (q0 : Sta Z Z.heap "java/lang/String" "COMPACT_STRINGS" "Z" (.int G)) (hCS : ¬ (G = (0 : Int32))) (q2 : Old Z n0 h0) (h255 : ¬ (255 : Int32) < xc) :
    MetFree l (⟨"java/lang/String", "valueOf", "(C)Ljava/lang/String;"⟩ : MethodName) (head1 (Jvm.Cond.code (⟨"java/lang/String", "valueOf", "(C)Ljava/lang/String;"⟩ : MethodName) jdk_42_method_139_code 1 (some (.object "java/lang/String")) :: ws) ({ frames := 2, cells := 2, slots := 5, locals := 27 } : Room)) (fun a₁ U₁ => a₁ = #[(.int xc)] ∧ Z.Warmed39 U₁.vm ∧ U₁.heap = h0) (fun _ _ _ _ _ => True) (fun _ U₁ o₁ U₂ => ∃ v₁ L₁, o₁ = .returned v₁ ∧ Q_valC Z xc G h0 n0 v₁ U₂.heap L₁ ∧ FrameEnd U₁ o₁ U₂ L₁ ({ frames := 2, cells := 2, slots := 5, locals := 27 } : Room).cells ({ frames := 2, cells := 2, slots := 5, locals := 27 } : Room).slots) := by
  refine MetFree.of_bodySF (plainFor_of_name pn_1) hisR ?_
  intro p e s m args below meth c s₁ Bd hml0 hP hK
  obtain ⟨rfl, hZ, hh⟩ := hP
  have hx := Bd.exec
  have hby := Bd.bytes
  have hml : c.maxLocals = 1 := hml0
  have hown : s.vm.findClass "java/lang/String" = some m.cls := findClass_of_methodNamed Bd.named
  have hnm := (name_of_methodNamed Bd.named Bd.method).1
  have X0 : Stand p l e ({ frames := 2, cells := 2, slots := 5, locals := 27 } : Room) s m #[(.int xc)] below meth c s₁ [] 0 0 := Stand.of_body Bd
  have e0 : s₁.heap = h0 := by rw [← hh, Bd.state]; rfl
  have N0 := Fr.nil n0
  have pre0 : ∀ t, Steps p.tables e below (s₁.setTop (mkF m 0 #[.val (.int xc)] [])) t → Steps p.tables e below (s₁.setTop (entryFrame m #[(.int xc)] 1)) t := fun t k => castTop (ef_0 m xc) k
  obtain ⟨T301, X301, e301, st301⟩ := getS2 X0 hx hZ hown (host := "") (Or.inl (hw _ (List.mem_of_getElem? (i := 4) rfl))) Via.refl e0 (q0.ext q2.2) (g := (mkF m 0 #[.val (.int xc)] [])) rfl (hb hby d_jdk_42_method_139_code_0)
  obtain ⟨_, _, ⟨T302, L302, k302, n302⟩, -, X302, ⟨Lc302, hQ302, l302, y302, z302⟩, st302⟩ := Jvm.LawKit.callS X301 hx (y := (⟨"java/lang/StringLatin1", "canEncode", "(C)Z"⟩ : MethodName)) hown (mvT hZ (hw _ (List.mem_of_getElem? (i := 5) rfl))) (mvT hZ (hw _ (List.mem_of_getElem? (i := 6) rfl))) (mvT hZ (hw _ (List.mem_of_getElem? (i := 7) rfl))) (mvT hZ (hw _ (List.mem_of_getElem? (i := 8) rfl))) (by decide) (backOf (W := 0) (rm_canEnc l Z a0 hw [] xc h0 n0 Z0 h255) hZ (hw _ (List.mem_of_getElem? (i := 8) rfl)) (hw _ (List.mem_of_getElem? (i := 7) rfl)) (by decide) (by decide)) (g := (mkF m 7 #[.val (.int xc)] [(.int xc)])) rfl (by rw [hml]; rfl) (argsL := [(.int xc)]) (rest := []) (lenOf pd_0 rfl) rfl (by show 2 * 0 + _ ≤ _; exact Nat.le_of_eq rfl) (hb hby d_jdk_42_method_139_code_7) (fun _ _ => ⟨rfl, e301, (by decide : 0 + 0 ≤ _), (by decide : 0 + 0 ≤ _)⟩)
  dsimp only [Pt.U, Pt.locs, Pt.cells, Pt.slots] at X302 l302 y302 z302 st302 hQ302
  subst l302 y302 z302
  obtain ⟨rfl, Nq302, e302⟩ := hQ302
  have N302 := Fr.app N0 Nq302
  obtain ⟨T303, h303, X303, e303, E303, A303, D303, -, st303⟩ := newO X302 hx hZ hown (hw _ (List.mem_of_getElem? (i := 9) rfl)) (hw _ (List.mem_of_getElem? (i := 10) rfl)) (hw _ (List.mem_of_getElem? (i := 2) rfl)) e302 (g := (mkF m 13 #[.val (.int xc)] [])) rfl (hb hby d_jdk_42_method_139_code_13) (by decide) (by decide)
  obtain ⟨b303, g303⟩ : ∃ z, z = h0.size := ⟨_, rfl⟩
  rw [← g303] at A303 D303 st303
  have D303_value : Fld Z h303 b303 "java/lang/String" "value" "[B" .null := D303 (Or.inr (hw _ (List.mem_of_getElem? (i := 23) rfl))) (ty := (.array .byte)) (by decide)
  have D303_coder : Fld Z h303 b303 "java/lang/String" "coder" "B" (.int (0 : Int32)) := D303 (Or.inr (hw _ (List.mem_of_getElem? (i := 25) rfl))) (ty := .byte) (by decide)
  obtain ⟨_, _, ⟨T304, L304, k304, n304⟩, -, X304, ⟨Lc304, hQ304, l304, y304, z304⟩, st304⟩ := Jvm.LawKit.callS X303 hx (y := (⟨"java/lang/StringLatin1", "toBytes", "(C)[B"⟩ : MethodName)) hown (mvT hZ (hw _ (List.mem_of_getElem? (i := 11) rfl))) (mvT hZ (hw _ (List.mem_of_getElem? (i := 12) rfl))) (mvT hZ (hw _ (List.mem_of_getElem? (i := 7) rfl))) (mvT hZ (hw _ (List.mem_of_getElem? (i := 13) rfl))) (by decide) (backOf (W := 2) (rm_toB1 l Z a0 hw [] xc h303 n0 (Nat.le_trans Z0 E303.1) ) hZ (hw _ (List.mem_of_getElem? (i := 13) rfl)) (hw _ (List.mem_of_getElem? (i := 7) rfl)) (by decide) (by decide)) (g := (mkF m 18 #[.val (.int xc)] [(.int xc), (.ref b303), (.ref b303)])) rfl (by rw [hml]; rfl) (argsL := [(.int xc)]) (rest := [(.ref b303), (.ref b303)]) (lenOf pd_1 rfl) rfl (by show 2 * 0 + _ ≤ _; exact Nat.le_of_eq rfl) (hb hby d_jdk_42_method_139_code_18) (fun _ _ => ⟨rfl, e303, (by decide : 1 + 1 ≤ _), (by decide : 4 + 1 ≤ _)⟩)
  dsimp only [Pt.U, Pt.locs, Pt.cells, Pt.slots] at X304 l304 y304 z304 st304 hQ304
  subst l304 y304 z304
  obtain ⟨tt_304, kt_304, rfl, Nq304, K304, f304_0, f304_1⟩ := hQ304
  have N304 := Fr.app N302 Nq304
  have c305 : Exa Z T304.heap b303 "java/lang/String" := (A303.keep K304)
  have c306 : Fld Z T304.heap b303 "java/lang/String" "value" "[B" .null := (D303_value.keep K304 nin0)
  have c307 : Fld Z T304.heap b303 "java/lang/String" "coder" "B" (.int (0 : Int32)) := (D303_coder.keep K304 nin0)
  have ge308 : n0 ≤ b303 := Nat.le_trans Z0 (Nat.le_trans (Nat.le_refl _) (Nat.le_of_eq g303.symm))
  obtain ⟨_, _, ⟨T309, L309, k309, n309⟩, -, X309, ⟨Lc309, hQ309, l309, y309, z309⟩, st309⟩ := X304.specialBack hx (y := (⟨"java/lang/String", "<init>", "([BB)V"⟩ : MethodName)) rfl hown (mvT hZ (hw _ (List.mem_of_getElem? (i := 15) rfl))) (mvT hZ (hw _ (List.mem_of_getElem? (i := 16) rfl))) (mvT hZ (hw _ (List.mem_of_getElem? (i := 18) rfl))) (by decide) (backOf (W := 1) (rm_strBB l Z a0 hw [] b303 tt_304 T304.heap n0 (Nat.le_trans Z0 (Nat.le_trans E303.1 K304.1)) c305 c306 c307 ge308) hZ (hw _ (List.mem_of_getElem? (i := 18) rfl)) (hw _ (List.mem_of_getElem? (i := 2) rfl)) (by decide) (by decide)) (g := (mkF m 22 #[.val (.int xc)] [(.int (0 : Int32)), (.ref tt_304), (.ref b303), (.ref b303)])) rfl (by rw [hml]; rfl) (Steps.refl _) (a := b303) (argsL := [(.ref tt_304), (.int (0 : Int32))]) (rest := [(.ref b303)]) (lenOf pd_2 rfl) rfl (by show 2 * 0 + _ ≤ _; exact Nat.le_of_eq rfl) (hb hby d_jdk_42_method_139_code_22) (fun _ _ => ⟨rfl, rfl, (by decide : 2 + 0 ≤ _), (by decide : 5 + 0 ≤ _)⟩)
  dsimp only [Pt.U, Pt.locs, Pt.cells, Pt.slots] at X309 l309 y309 z309 st309 hQ309
  subst l309 y309 z309
  obtain ⟨rfl, Nq309, K309, f309_0, f309_1⟩ := hQ309
  have N309 := Fr.app N304 Nq309
  have c310 : Exa Z T309.heap b303 "java/lang/String" := (c305.keep K309)
  have ne311 : b303 ≠ tt_304 := Nat.ne_of_lt (Nat.lt_of_lt_of_le A303.lt f304_0)
  have c312 : Arv Z T309.heap tt_304 kt_304 .byte (1 : Int32) [(.int (nar .byte (xc.toInt8.toInt32)))] (.int (0 : Int32)) := (f304_1.keep K309 (ninS (Ne.symm ne311) nin0))
  obtain ⟨fs, hr, hrun, hended, hW, hsame⟩ := X309.leave (v := some (.ref b303)) (fun h => by rw [Bd.returns] at h; cases h)
  refine ⟨_, _, pre0 _ ?_, hrun, hended, _, _, rfl, ?_, ⟨_, rfl⟩, hW, hsame.mono (by decide) (by decide)⟩
  · refine st301 _ ?_
    show Steps p.tables e below (T301.setTop (mkF m 3 #[.val (.int xc)] [(.int G)])) _
    refine XS.ifNo X301.here hx rfl (hb hby d_jdk_42_method_139_code_3) rfl ((if0 _ _).trans (feq (hCS : ¬ (G = (0 : Int32)))).1) ?_
    show Steps p.tables e below (T301.setTop (mkF m 6 #[.val (.int xc)] [])) _
    refine XS.iloadN X301.here hx rfl (hb hby d_jdk_42_method_139_code_6) rfl ?_
    show Steps p.tables e below (T301.setTop (mkF m 7 #[.val (.int xc)] [(.int xc)])) _
    refine st302 _ ?_
    show Steps p.tables e below (T302.setTop (mkF m 10 #[.val (.int xc)] [(.int (1 : Int32))])) _
    refine XS.ifNo X302.here hx rfl (hb hby d_jdk_42_method_139_code_10) rfl ((if0 _ _).trans (feq ((by decide) : ¬ ((1 : Int32) = (0 : Int32)))).1) ?_
    show Steps p.tables e below (T302.setTop (mkF m 13 #[.val (.int xc)] [])) _
    refine st303 _ ?_
    show Steps p.tables e below (T303.setTop (mkF m 16 #[.val (.int xc)] [(.ref b303)])) _
    refine XS.dup X303.here hx rfl (hb hby d_jdk_42_method_139_code_16) rfl rfl ?_
    show Steps p.tables e below (T303.setTop (mkF m 17 #[.val (.int xc)] [(.ref b303), (.ref b303)])) _
    refine XS.iloadN X303.here hx rfl (hb hby d_jdk_42_method_139_code_17) rfl ?_
    show Steps p.tables e below (T303.setTop (mkF m 18 #[.val (.int xc)] [(.int xc), (.ref b303), (.ref b303)])) _
    refine st304 _ ?_
    show Steps p.tables e below (T304.setTop (mkF m 21 #[.val (.int xc)] [(.ref tt_304), (.ref b303), (.ref b303)])) _
    refine XS.iconst X304.here hx rfl (hb hby d_jdk_42_method_139_code_21) ?_
    show Steps p.tables e below (T304.setTop (mkF m 22 #[.val (.int xc)] [(.int (0 : Int32)), (.ref tt_304), (.ref b303), (.ref b303)])) _
    refine st309.trans ?_
    show Steps p.tables e below (T309.setTop (mkF m 25 #[.val (.int xc)] [(.ref b303)])) _
    jvm_step X309.here [X309.here.top, hx, (hb hby d_jdk_42_method_139_code_25), X309.method', Bd.returns, Value.isRef, FieldType.isReference]
    first | (intro acts; rw [hr _ acts rfl rfl rfl]) | rw [hr _ _ rfl rfl rfl]
    exact Steps.refl _
  · show Q_valC Z xc G h0 n0 _ T309.heap _
    exact ⟨b303, tt_304, kt_304, rfl, N309, ((((Keep.refl h0 ([] : List Addr)).ext E303).trans K304 all0).trans K309 (allS (Or.inr (Nat.le_trans (Nat.le_refl _) (Nat.le_of_eq g303.symm))) all0)), (Nat.le_trans (Nat.le_refl _) (Nat.le_of_eq g303.symm)), (Nat.le_trans E303.1 f304_0), c310, f309_0, f309_1, c312⟩
theorem d_jdk_22_method_1_code_0 : decode jdk_22_method_1_code 0 = .ok (.aload_n 0, 1) := by decide +kernel
theorem d_jdk_22_method_1_code_1 : decode jdk_22_method_1_code 1 = .ok (.invokespecial 1, 3) := by decide +kernel
theorem d_jdk_22_method_1_code_4 : decode jdk_22_method_1_code 4 = .ok (.return_, 1) := by decide +kernel
theorem ef_2 (m : MethodId) (x0 : Addr) : entryFrame m #[(.ref x0)] 1 = mkF m 0 #[.val (.ref x0)] [] := by first | (simp [entryFrame, mkF, argsToLocals, Value.category]; done) | rfl
theorem pn_2 : plainName "java/util/AbstractCollection" = true := by first | (simp [plainName, overriddenIn]; done) | decide +kernel
def Q_abc (Z : State) (al : Addr) (h0 : Heap) (n0 : Nat) (v : Option Value) (h : Heap) (L : List Loc) : Prop := (v = none) ∧ (Fr n0 L) ∧ (h = h0)
set_option maxRecDepth 65536 in
set_option maxHeartbeats 40000000 in
theorem rm_abc (l : Launch) (Z : State) (a0 : Array Value) (hw : ∀ d ∈ tables_1, d.before a0 Z = true) (ws : List Jvm.Cond) (al : Addr) (h0 : Heap) (n0 : Nat) (Z0 : n0 ≤ h0.size) :
    MetFree l (⟨"java/util/AbstractCollection", "<init>", "()V"⟩ : MethodName) (head1 (Jvm.Cond.code (⟨"java/util/AbstractCollection", "<init>", "()V"⟩ : MethodName) jdk_22_method_1_code 1 none :: ws) ({ frames := 1, cells := 0, slots := 0, locals := 12 } : Room)) (fun a₁ U₁ => a₁ = #[(.ref al)] ∧ Z.Warmed39 U₁.vm ∧ U₁.heap = h0) (fun _ _ _ _ _ => True) (fun _ U₁ o₁ U₂ => ∃ v₁ L₁, o₁ = .returned v₁ ∧ Q_abc Z al h0 n0 v₁ U₂.heap L₁ ∧ FrameEnd U₁ o₁ U₂ L₁ ({ frames := 1, cells := 0, slots := 0, locals := 12 } : Room).cells ({ frames := 1, cells := 0, slots := 0, locals := 12 } : Room).slots) := by
  refine MetFree.of_bodySF (plainFor_of_name pn_2) hisR ?_
  intro p e s m args below meth c s₁ Bd hml0 hP hK
  obtain ⟨rfl, hZ, hh⟩ := hP
  have hx := Bd.exec
  have hby := Bd.bytes
  have hml : c.maxLocals = 1 := hml0
  have hown : s.vm.findClass "java/util/AbstractCollection" = some m.cls := findClass_of_methodNamed Bd.named
  have hnm := (name_of_methodNamed Bd.named Bd.method).1
  have X0 : Stand p l e ({ frames := 1, cells := 0, slots := 0, locals := 12 } : Room) s m #[(.ref al)] below meth c s₁ [] 0 0 := Stand.of_body Bd
  have e0 : s₁.heap = h0 := by rw [← hh, Bd.state]; rfl
  have N0 := Fr.nil n0
  have pre0 : ∀ t, Steps p.tables e below (s₁.setTop (mkF m 0 #[.val (.ref al)] [])) t → Steps p.tables e below (s₁.setTop (entryFrame m #[(.ref al)] 1)) t := fun t k => castTop (ef_2 m al) k
  obtain ⟨T301, X301, e301, st301⟩ := initO X0 hx hZ hown (hw _ (List.mem_of_getElem? (i := 63) rfl)) (hw _ (List.mem_of_getElem? (i := 20) rfl)) (hw _ (List.mem_of_getElem? (i := 21) rfl)) e0 (g := (mkF m 1 #[.val (.ref al)] [(.ref al)])) rfl (by rw [hml]; rfl) rfl (hb hby d_jdk_22_method_1_code_1) (by decide) (W := 0) (by show 2 * 0 + _ ≤ _; exact Nat.le_of_eq rfl) (by decide)
  obtain ⟨fs, hr, hrun, hended, hW, hsame⟩ := X301.leave (v := none) (fun _ => rfl)
  refine ⟨_, _, pre0 _ ?_, hrun, hended, _, _, rfl, ?_, ⟨_, rfl⟩, hW, hsame.mono (by decide) (by decide)⟩
  · refine XS.aloadN X0.here hx rfl (hb hby d_jdk_22_method_1_code_0) rfl rfl ?_
    show Steps p.tables e below (s₁.setTop (mkF m 1 #[.val (.ref al)] [(.ref al)])) _
    refine st301 _ ?_
    show Steps p.tables e below (T301.setTop (mkF m 4 #[.val (.ref al)] [])) _
    exact X301.returnOut hx Bd.returns (hb hby d_jdk_22_method_1_code_4) hr
  · show Q_abc Z al h0 n0 _ T301.heap _
    rw [e301]
    exact ⟨rfl, N0, rfl⟩
theorem d_jdk_39_method_1_code_0 : decode jdk_39_method_1_code 0 = .ok (.aload_n 0, 1) := by decide +kernel
theorem d_jdk_39_method_1_code_1 : decode jdk_39_method_1_code 1 = .ok (.invokespecial 1, 3) := by decide +kernel
theorem pd_3 : parseMethodDescriptor "()V" = some ⟨[], none⟩ := by decide +kernel
theorem d_jdk_39_method_1_code_4 : decode jdk_39_method_1_code 4 = .ok (.aload_n 0, 1) := by decide +kernel
theorem d_jdk_39_method_1_code_5 : decode jdk_39_method_1_code 5 = .ok (.iconst 0, 1) := by decide +kernel
theorem d_jdk_39_method_1_code_6 : decode jdk_39_method_1_code 6 = .ok (.putfield 7, 3) := by decide +kernel
theorem d_jdk_39_method_1_code_9 : decode jdk_39_method_1_code 9 = .ok (.return_, 1) := by decide +kernel
theorem pn_3 : plainName "java/util/AbstractList" = true := by first | (simp [plainName, overriddenIn]; done) | decide +kernel
def Q_abl (Z : State) (al : Addr) (h0 : Heap) (n0 : Nat) (v : Option Value) (h : Heap) (L : List Loc) : Prop := (v = none) ∧ (Fr n0 L) ∧ (Keep h0 h ([al] : List Addr)) ∧ (Fld Z h al "java/util/AbstractList" "modCount" "I" (.int (0 : Int32))) ∧ (Fld Z h al "java/util/ArrayList" "size" "I" (.int (0 : Int32))) ∧ (Fld Z h al "java/util/ArrayList" "elementData" "[Ljava/lang/Object;" .null)
set_option maxRecDepth 65536 in
set_option maxHeartbeats 40000000 in
theorem rm_abl (l : Launch) (Z : State) (a0 : Array Value) (hw : ∀ d ∈ tables_1, d.before a0 Z = true) (ws : List Jvm.Cond) (al : Addr) (h0 : Heap) (n0 : Nat) (Z0 : n0 ≤ h0.size) (q0 : Exa Z h0 al "java/util/ArrayList") (q1 : Fld Z h0 al "java/util/AbstractList" "modCount" "I" (.int (0 : Int32))) (q2 : Fld Z h0 al "java/util/ArrayList" "size" "I" (.int (0 : Int32))) (q3 : Fld Z h0 al "java/util/ArrayList" "elementData" "[Ljava/lang/Object;" .null) (q4 : n0 ≤ al) :
    MetFree l (⟨"java/util/AbstractList", "<init>", "()V"⟩ : MethodName) (head1 (Jvm.Cond.code (⟨"java/util/AbstractList", "<init>", "()V"⟩ : MethodName) jdk_39_method_1_code 1 none :: ws) ({ frames := 2, cells := 0, slots := 0, locals := 24 } : Room)) (fun a₁ U₁ => a₁ = #[(.ref al)] ∧ Z.Warmed39 U₁.vm ∧ U₁.heap = h0) (fun _ _ _ _ _ => True) (fun _ U₁ o₁ U₂ => ∃ v₁ L₁, o₁ = .returned v₁ ∧ Q_abl Z al h0 n0 v₁ U₂.heap L₁ ∧ FrameEnd U₁ o₁ U₂ L₁ ({ frames := 2, cells := 0, slots := 0, locals := 24 } : Room).cells ({ frames := 2, cells := 0, slots := 0, locals := 24 } : Room).slots) := by
  refine MetFree.of_bodySF (plainFor_of_name pn_3) hisR ?_
  intro p e s m args below meth c s₁ Bd hml0 hP hK
  obtain ⟨rfl, hZ, hh⟩ := hP
  have hx := Bd.exec
  have hby := Bd.bytes
  have hml : c.maxLocals = 1 := hml0
  have hown : s.vm.findClass "java/util/AbstractList" = some m.cls := findClass_of_methodNamed Bd.named
  have hnm := (name_of_methodNamed Bd.named Bd.method).1
  have X0 : Stand p l e ({ frames := 2, cells := 0, slots := 0, locals := 24 } : Room) s m #[(.ref al)] below meth c s₁ [] 0 0 := Stand.of_body Bd
  have e0 : s₁.heap = h0 := by rw [← hh, Bd.state]; rfl
  have N0 := Fr.nil n0
  have pre0 : ∀ t, Steps p.tables e below (s₁.setTop (mkF m 0 #[.val (.ref al)] [])) t → Steps p.tables e below (s₁.setTop (entryFrame m #[(.ref al)] 1)) t := fun t k => castTop (ef_2 m al) k
  obtain ⟨_, _, ⟨T301, L301, k301, n301⟩, -, X301, ⟨Lc301, hQ301, l301, y301, z301⟩, st301⟩ := X0.specialBack hx (y := (⟨"java/util/AbstractCollection", "<init>", "()V"⟩ : MethodName)) rfl hown (mvT hZ (hw _ (List.mem_of_getElem? (i := 57) rfl))) (mvT hZ (hw _ (List.mem_of_getElem? (i := 58) rfl))) (mvT hZ (hw _ (List.mem_of_getElem? (i := 62) rfl))) (by decide) (backOf (W := 0) (rm_abc l Z a0 hw [] al h0 n0 Z0 ) hZ (hw _ (List.mem_of_getElem? (i := 62) rfl)) (hw _ (List.mem_of_getElem? (i := 61) rfl)) (by decide) (by decide)) (g := (mkF m 1 #[.val (.ref al)] [(.ref al)])) rfl (by rw [hml]; rfl) (Steps.refl _) (a := al) (argsL := []) (rest := []) (lenOf pd_3 rfl) rfl (by show 2 * 0 + _ ≤ _; exact Nat.le_of_eq rfl) (hb hby d_jdk_39_method_1_code_1) (fun _ _ => ⟨rfl, e0, (by decide : 0 + 0 ≤ _), (by decide : 0 + 0 ≤ _)⟩)
  dsimp only [Pt.U, Pt.locs, Pt.cells, Pt.slots] at X301 l301 y301 z301 st301 hQ301
  subst l301 y301 z301
  obtain ⟨rfl, Nq301, e301⟩ := hQ301
  have N301 := Fr.app N0 Nq301
  obtain ⟨T302, h302, X302, e302, W302, st302⟩ := putF X301 hx hZ hown (host := "") (Or.inl (hw _ (List.mem_of_getElem? (i := 64) rfl))) Via.refl e301 q1 q0 (Or.inl (hw _ (List.mem_of_getElem? (i := 65) rfl))) (hw _ (List.mem_of_getElem? (i := 46) rfl)) (ty := .int) (by decide) rfl rfl (g := (mkF m 6 #[.val (.ref al)] [(.int (0 : Int32)), (.ref al)])) rfl rfl (hb hby d_jdk_39_method_1_code_6)
  have N302 := Fr.snoc X302 N301 q4
  have F302 : Fld Z h302 al "java/util/AbstractList" "modCount" "I" (.int (0 : Int32)) := q1.same W302
  have c303 : Fld Z h302 al "java/util/ArrayList" "size" "I" (.int (0 : Int32)) := (q2.other W302 (Or.inr (slot_ne (Or.inl (hw _ (List.mem_of_getElem? (i := 77) rfl))) (Or.inl (hw _ (List.mem_of_getElem? (i := 65) rfl))) (by decide) (t := .int) (t' := .int) (by decide) (by decide))))
  have c304 : Fld Z h302 al "java/util/ArrayList" "elementData" "[Ljava/lang/Object;" .null := (q3.other W302 (Or.inr (slot_ne (Or.inl (hw _ (List.mem_of_getElem? (i := 68) rfl))) (Or.inl (hw _ (List.mem_of_getElem? (i := 65) rfl))) (by decide) (t := (.array (.object "java/lang/Object"))) (t' := .int) (by decide) (by decide))))
  obtain ⟨fs, hr, hrun, hended, hW, hsame⟩ := X302.leave (v := none) (fun _ => rfl)
  refine ⟨_, _, pre0 _ ?_, hrun, hended, _, _, rfl, ?_, ⟨_, rfl⟩, hW, hsame.mono (by decide) (by decide)⟩
  · refine XS.aloadN X0.here hx rfl (hb hby d_jdk_39_method_1_code_0) rfl rfl ?_
    show Steps p.tables e below (s₁.setTop (mkF m 1 #[.val (.ref al)] [(.ref al)])) _
    refine st301.trans ?_
    show Steps p.tables e below (T301.setTop (mkF m 4 #[.val (.ref al)] [])) _
    refine XS.aloadN X301.here hx rfl (hb hby d_jdk_39_method_1_code_4) rfl rfl ?_
    show Steps p.tables e below (T301.setTop (mkF m 5 #[.val (.ref al)] [(.ref al)])) _
    refine XS.iconst X301.here hx rfl (hb hby d_jdk_39_method_1_code_5) ?_
    show Steps p.tables e below (T301.setTop (mkF m 6 #[.val (.ref al)] [(.int (0 : Int32)), (.ref al)])) _
    refine st302 _ ?_
    show Steps p.tables e below (T302.setTop (mkF m 9 #[.val (.ref al)] [])) _
    exact X302.returnOut hx Bd.returns (hb hby d_jdk_39_method_1_code_9) hr
  · show Q_abl Z al h0 n0 _ T302.heap _
    rw [e302]
    exact ⟨rfl, N302, ((Keep.refl h0 ([al] : List Addr)).wr W302 (Or.inl (by simp))), F302, c303, c304⟩
theorem d_jdk_38_method_2_code_0 : decode jdk_38_method_2_code 0 = .ok (.aload_n 0, 1) := by decide +kernel
theorem d_jdk_38_method_2_code_1 : decode jdk_38_method_2_code 1 = .ok (.invokespecial 1, 3) := by decide +kernel
theorem d_jdk_38_method_2_code_4 : decode jdk_38_method_2_code 4 = .ok (.aload_n 0, 1) := by decide +kernel
theorem d_jdk_38_method_2_code_5 : decode jdk_38_method_2_code 5 = .ok (.getstatic 39, 3) := by decide +kernel
theorem d_jdk_38_method_2_code_8 : decode jdk_38_method_2_code 8 = .ok (.putfield 9, 3) := by decide +kernel
theorem d_jdk_38_method_2_code_11 : decode jdk_38_method_2_code 11 = .ok (.return_, 1) := by decide +kernel
theorem pn_4 : plainName "java/util/ArrayList" = true := by first | (simp [plainName, overriddenIn]; done) | decide +kernel
def Q_ali (Z : State) (al : Addr) (dd : Addr) (h0 : Heap) (n0 : Nat) (v : Option Value) (h : Heap) (L : List Loc) : Prop := (v = none) ∧ (Fr n0 L) ∧ (Keep h0 h ([al] : List Addr)) ∧ (Fld Z h al "java/util/AbstractList" "modCount" "I" (.int (0 : Int32))) ∧ (Fld Z h al "java/util/ArrayList" "size" "I" (.int (0 : Int32))) ∧ (Fld Z h al "java/util/ArrayList" "elementData" "[Ljava/lang/Object;" (.ref dd))
set_option maxRecDepth 65536 in
set_option maxHeartbeats 40000000 in
theorem rm_ali (l : Launch) (Z : State) (a0 : Array Value) (hw : ∀ d ∈ tables_1, d.before a0 Z = true) (ws : List Jvm.Cond) (al : Addr) (dd : Addr) (h0 : Heap) (n0 : Nat) (Z0 : n0 ≤ h0.size) (q0 : Sta Z Z.heap "java/util/ArrayList" "DEFAULTCAPACITY_EMPTY_ELEMENTDATA" "[Ljava/lang/Object;" (.ref dd)) (q1 : Old Z n0 h0) (q2 : Exa Z h0 al "java/util/ArrayList") (q3 : Fld Z h0 al "java/util/AbstractList" "modCount" "I" (.int (0 : Int32))) (q4 : Fld Z h0 al "java/util/ArrayList" "size" "I" (.int (0 : Int32))) (q5 : Fld Z h0 al "java/util/ArrayList" "elementData" "[Ljava/lang/Object;" .null) (q6 : n0 ≤ al) :
    MetFree l (⟨"java/util/ArrayList", "<init>", "()V"⟩ : MethodName) (head1 (Jvm.Cond.code (⟨"java/util/ArrayList", "<init>", "()V"⟩ : MethodName) jdk_38_method_2_code 1 none :: ws) ({ frames := 3, cells := 0, slots := 0, locals := 36 } : Room)) (fun a₁ U₁ => a₁ = #[(.ref al)] ∧ Z.Warmed39 U₁.vm ∧ U₁.heap = h0) (fun _ _ _ _ _ => True) (fun _ U₁ o₁ U₂ => ∃ v₁ L₁, o₁ = .returned v₁ ∧ Q_ali Z al dd h0 n0 v₁ U₂.heap L₁ ∧ FrameEnd U₁ o₁ U₂ L₁ ({ frames := 3, cells := 0, slots := 0, locals := 36 } : Room).cells ({ frames := 3, cells := 0, slots := 0, locals := 36 } : Room).slots) := by
  refine MetFree.of_bodySF (plainFor_of_name pn_4) hisR ?_
  intro p e s m args below meth c s₁ Bd hml0 hP hK
  obtain ⟨rfl, hZ, hh⟩ := hP
  have hx := Bd.exec
  have hby := Bd.bytes
  have hml : c.maxLocals = 1 := hml0
  have hown : s.vm.findClass "java/util/ArrayList" = some m.cls := findClass_of_methodNamed Bd.named
  have hnm := (name_of_methodNamed Bd.named Bd.method).1
  have X0 : Stand p l e ({ frames := 3, cells := 0, slots := 0, locals := 36 } : Room) s m #[(.ref al)] below meth c s₁ [] 0 0 := Stand.of_body Bd
  have e0 : s₁.heap = h0 := by rw [← hh, Bd.state]; rfl
  have N0 := Fr.nil n0
  have pre0 : ∀ t, Steps p.tables e below (s₁.setTop (mkF m 0 #[.val (.ref al)] [])) t → Steps p.tables e below (s₁.setTop (entryFrame m #[(.ref al)] 1)) t := fun t k => castTop (ef_2 m al) k
  obtain ⟨_, _, ⟨T301, L301, k301, n301⟩, -, X301, ⟨Lc301, hQ301, l301, y301, z301⟩, st301⟩ := X0.specialBack hx (y := (⟨"java/util/AbstractList", "<init>", "()V"⟩ : MethodName)) rfl hown (mvT hZ (hw _ (List.mem_of_getElem? (i := 51) rfl))) (mvT hZ (hw _ (List.mem_of_getElem? (i := 52) rfl))) (mvT hZ (hw _ (List.mem_of_getElem? (i := 56) rfl))) (by decide) (backOf (W := 0) (rm_abl l Z a0 hw [] al h0 n0 Z0 q2 q3 q4 q5 q6) hZ (hw _ (List.mem_of_getElem? (i := 56) rfl)) (hw _ (List.mem_of_getElem? (i := 55) rfl)) (by decide) (by decide)) (g := (mkF m 1 #[.val (.ref al)] [(.ref al)])) rfl (by rw [hml]; rfl) (Steps.refl _) (a := al) (argsL := []) (rest := []) (lenOf pd_3 rfl) rfl (by show 2 * 0 + _ ≤ _; exact Nat.le_of_eq rfl) (hb hby d_jdk_38_method_2_code_1) (fun _ _ => ⟨rfl, e0, (by decide : 0 + 0 ≤ _), (by decide : 0 + 0 ≤ _)⟩)
  dsimp only [Pt.U, Pt.locs, Pt.cells, Pt.slots] at X301 l301 y301 z301 st301 hQ301
  subst l301 y301 z301
  obtain ⟨rfl, Nq301, K301, f301_0, f301_1, f301_2⟩ := hQ301
  have N301 := Fr.app N0 Nq301
  have c303 : Old Z n0 T301.heap := (q1.keep K301 (allS q6 all0))
  obtain ⟨T302, X302, e302, st302⟩ := getS2 X301 hx hZ hown (host := "") (Or.inl (hw _ (List.mem_of_getElem? (i := 66) rfl))) Via.refl rfl (q0.ext c303.2) (g := (mkF m 5 #[.val (.ref al)] [(.ref al)])) rfl (hb hby d_jdk_38_method_2_code_5)
  have c304 : Exa Z T301.heap al "java/util/ArrayList" := (q2.keep K301)
  obtain ⟨T305, h305, X305, e305, W305, st305⟩ := putF X302 hx hZ hown (host := "") (Or.inl (hw _ (List.mem_of_getElem? (i := 67) rfl))) Via.refl e302 f301_2 c304 (Or.inl (hw _ (List.mem_of_getElem? (i := 68) rfl))) (hw _ (List.mem_of_getElem? (i := 46) rfl)) (ty := (.array (.object "java/lang/Object"))) (by decide) rfl rfl (g := (mkF m 8 #[.val (.ref al)] [(.ref dd), (.ref al)])) rfl rfl (hb hby d_jdk_38_method_2_code_8)
  have N305 := Fr.snoc X305 N301 q6
  have F305 : Fld Z h305 al "java/util/ArrayList" "elementData" "[Ljava/lang/Object;" (.ref dd) := f301_2.same W305
  have c306 : Fld Z h305 al "java/util/AbstractList" "modCount" "I" (.int (0 : Int32)) := (f301_0.other W305 (Or.inr (slot_ne (Or.inl (hw _ (List.mem_of_getElem? (i := 65) rfl))) (Or.inl (hw _ (List.mem_of_getElem? (i := 68) rfl))) (by decide) (t := .int) (t' := (.array (.object "java/lang/Object"))) (by decide) (by decide))))
  have c307 : Fld Z h305 al "java/util/ArrayList" "size" "I" (.int (0 : Int32)) := (f301_1.other W305 (Or.inr (slot_ne (Or.inl (hw _ (List.mem_of_getElem? (i := 77) rfl))) (Or.inl (hw _ (List.mem_of_getElem? (i := 68) rfl))) (by decide) (t := .int) (t' := (.array (.object "java/lang/Object"))) (by decide) (by decide))))
  obtain ⟨fs, hr, hrun, hended, hW, hsame⟩ := X305.leave (v := none) (fun _ => rfl)
  refine ⟨_, _, pre0 _ ?_, hrun, hended, _, _, rfl, ?_, ⟨_, rfl⟩, hW, hsame.mono (by decide) (by decide)⟩
  · refine XS.aloadN X0.here hx rfl (hb hby d_jdk_38_method_2_code_0) rfl rfl ?_
    show Steps p.tables e below (s₁.setTop (mkF m 1 #[.val (.ref al)] [(.ref al)])) _
    refine st301.trans ?_
    show Steps p.tables e below (T301.setTop (mkF m 4 #[.val (.ref al)] [])) _
    refine XS.aloadN X301.here hx rfl (hb hby d_jdk_38_method_2_code_4) rfl rfl ?_
    show Steps p.tables e below (T301.setTop (mkF m 5 #[.val (.ref al)] [(.ref al)])) _
    refine st302 _ ?_
    show Steps p.tables e below (T302.setTop (mkF m 8 #[.val (.ref al)] [(.ref dd), (.ref al)])) _
    refine st305 _ ?_
    show Steps p.tables e below (T305.setTop (mkF m 11 #[.val (.ref al)] [])) _
    exact X305.returnOut hx Bd.returns (hb hby d_jdk_38_method_2_code_11) hr
  · show Q_ali Z al dd h0 n0 _ T305.heap _
    rw [e305]
    exact ⟨rfl, N305, (((Keep.refl h0 ([al] : List Addr)).trans K301 (allS (Or.inl (by simp)) all0)).wr W305 (Or.inl (by simp))), c306, c307, F305⟩
theorem d_jdk_29_method_65_code_0 : decode jdk_29_method_65_code 0 = .ok (.iload_n 0, 1) := by decide +kernel
theorem d_jdk_29_method_65_code_1 : decode jdk_29_method_65_code 1 = .ok (.iload_n 1, 1) := by decide +kernel
theorem d_jdk_29_method_65_code_2 : decode jdk_29_method_65_code 2 = .ok (.if_icmp .lt 7, 3) := by decide +kernel
theorem d_jdk_29_method_65_code_5 : decode jdk_29_method_65_code 5 = .ok (.iload_n 0, 1) := by decide +kernel
theorem d_jdk_29_method_65_code_6 : decode jdk_29_method_65_code 6 = .ok (.goto 4, 3) := by decide +kernel
theorem d_jdk_29_method_65_code_10 : decode jdk_29_method_65_code 10 = .ok (.ireturn, 1) := by decide +kernel
theorem ef_3 (m : MethodId) (x0 : Int32) (x1 : Int32) : entryFrame m #[(.int x0), (.int x1)] 2 = mkF m 0 #[.val (.int x0), .val (.int x1)] [] := by first | (simp [entryFrame, mkF, argsToLocals, Value.category]; done) | rfl
def Q_mmax (Z : State) (xa : Int32) (xb : Int32) (h0 : Heap) (n0 : Nat) (v : Option Value) (h : Heap) (L : List Loc) : Prop := (v = some (.int xa)) ∧ (Fr n0 L) ∧ (h = h0)
set_option maxRecDepth 65536 in
set_option maxHeartbeats 40000000 in
theorem rm_mmax (l : Launch) (Z : State) (a0 : Array Value) (hw : ∀ d ∈ tables_1, d.before a0 Z = true) (ws : List Jvm.Cond) (xa : Int32) (xb : Int32) (h0 : Heap) (n0 : Nat) (Z0 : n0 ≤ h0.size) (hab : ¬ (xa < xb)) :
    MetFree l (⟨"java/lang/Math", "max", "(II)I"⟩ : MethodName) (head1 (Jvm.Cond.code (⟨"java/lang/Math", "max", "(II)I"⟩ : MethodName) jdk_29_method_65_code 2 (some .int) :: ws) ({ frames := 0, cells := 0, slots := 0, locals := 0 } : Room)) (fun a₁ U₁ => a₁ = #[(.int xa), (.int xb)] ∧ Z.Warmed39 U₁.vm ∧ U₁.heap = h0) (fun _ _ _ _ _ => True) (fun _ U₁ o₁ U₂ => ∃ v₁ L₁, o₁ = .returned v₁ ∧ Q_mmax Z xa xb h0 n0 v₁ U₂.heap L₁ ∧ FrameEnd U₁ o₁ U₂ L₁ ({ frames := 0, cells := 0, slots := 0, locals := 0 } : Room).cells ({ frames := 0, cells := 0, slots := 0, locals := 0 } : Room).slots) := by
  refine MetFree.of_bodySF (Jvm.Free.JP.mathPlain rfl (by decide +kernel)) hisR ?_
  intro p e s m args below meth c s₁ Bd hml0 hP hK
  obtain ⟨rfl, hZ, hh⟩ := hP
  have hx := Bd.exec
  have hby := Bd.bytes
  have hml : c.maxLocals = 2 := hml0
  have hown : s.vm.findClass "java/lang/Math" = some m.cls := findClass_of_methodNamed Bd.named
  have hnm := (name_of_methodNamed Bd.named Bd.method).1
  have X0 : Stand p l e ({ frames := 0, cells := 0, slots := 0, locals := 0 } : Room) s m #[(.int xa), (.int xb)] below meth c s₁ [] 0 0 := Stand.of_body Bd
  have e0 : s₁.heap = h0 := by rw [← hh, Bd.state]; rfl
  have N0 := Fr.nil n0
  have pre0 : ∀ t, Steps p.tables e below (s₁.setTop (mkF m 0 #[.val (.int xa), .val (.int xb)] [])) t → Steps p.tables e below (s₁.setTop (entryFrame m #[(.int xa), (.int xb)] 2)) t := fun t k => castTop (ef_3 m xa xb) k
  obtain ⟨fs, hr, hrun, hended, hW, hsame⟩ := X0.leave (v := some (.int xa)) (fun h => by rw [Bd.returns] at h; cases h)
  refine ⟨_, _, pre0 _ ?_, hrun, hended, _, _, rfl, ?_, ⟨_, rfl⟩, hW, hsame.mono (by decide) (by decide)⟩
  · refine XS.iloadN X0.here hx rfl (hb hby d_jdk_29_method_65_code_0) rfl ?_
    show Steps p.tables e below (s₁.setTop (mkF m 1 #[.val (.int xa), .val (.int xb)] [(.int xa)])) _
    refine XS.iloadN X0.here hx rfl (hb hby d_jdk_29_method_65_code_1) rfl ?_
    show Steps p.tables e below (s₁.setTop (mkF m 2 #[.val (.int xa), .val (.int xb)] [(.int xb), (.int xa)])) _
    refine XS.icmpNo X0.here hx rfl (hb hby d_jdk_29_method_65_code_2) rfl (flt (hab : ¬ (xa < xb))).1 ?_
    show Steps p.tables e below (s₁.setTop (mkF m 5 #[.val (.int xa), .val (.int xb)] [])) _
    refine XS.iloadN X0.here hx rfl (hb hby d_jdk_29_method_65_code_5) rfl ?_
    show Steps p.tables e below (s₁.setTop (mkF m 6 #[.val (.int xa), .val (.int xb)] [(.int xa)])) _
    refine XS.goto X0.here hx rfl (pc0 := 6) (pc' := 10) rfl (hb hby d_jdk_29_method_65_code_6) (by decide) (by decide) ?_
    show Steps p.tables e below (s₁.setTop (mkF m 10 #[.val (.int xa), .val (.int xb)] [(.int xa)])) _
    exact retI X0 hx Bd.returns (hb hby d_jdk_29_method_65_code_10) hr
  · show Q_mmax Z xa xb h0 n0 _ s₁.heap _
    rw [e0]
    exact ⟨rfl, N0, rfl⟩
theorem d_jdk_38_method_6_code_0 : decode jdk_38_method_6_code 0 = .ok (.aload_n 0, 1) := by decide +kernel
theorem d_jdk_38_method_6_code_1 : decode jdk_38_method_6_code 1 = .ok (.getfield 9, 3) := by decide +kernel
theorem d_jdk_38_method_6_code_4 : decode jdk_38_method_6_code 4 = .ok (.arraylength, 1) := by decide +kernel
theorem d_jdk_38_method_6_code_5 : decode jdk_38_method_6_code 5 = .ok (.istore_n 2, 1) := by decide +kernel
theorem d_jdk_38_method_6_code_6 : decode jdk_38_method_6_code 6 = .ok (.iload_n 2, 1) := by decide +kernel
theorem d_jdk_38_method_6_code_7 : decode jdk_38_method_6_code 7 = .ok (.ifCond .gt 13, 3) := by decide +kernel
theorem d_jdk_38_method_6_code_10 : decode jdk_38_method_6_code 10 = .ok (.aload_n 0, 1) := by decide +kernel
theorem d_jdk_38_method_6_code_11 : decode jdk_38_method_6_code 11 = .ok (.getfield 9, 3) := by decide +kernel
theorem d_jdk_38_method_6_code_14 : decode jdk_38_method_6_code 14 = .ok (.getstatic 39, 3) := by decide +kernel
theorem d_jdk_38_method_6_code_17 : decode jdk_38_method_6_code 17 = .ok (.if_acmp .eq 28, 3) := by decide +kernel
theorem d_jdk_38_method_6_code_45 : decode jdk_38_method_6_code 45 = .ok (.aload_n 0, 1) := by decide +kernel
theorem d_jdk_38_method_6_code_46 : decode jdk_38_method_6_code 46 = .ok (.bipush 10, 2) := by decide +kernel
theorem d_jdk_38_method_6_code_48 : decode jdk_38_method_6_code 48 = .ok (.iload_n 1, 1) := by decide +kernel
theorem d_jdk_38_method_6_code_49 : decode jdk_38_method_6_code 49 = .ok (.invokestatic 79, 3) := by decide +kernel
theorem pd_4 : parseMethodDescriptor "(II)I" = some ⟨[.int, .int], some .int⟩ := by decide +kernel
theorem d_jdk_38_method_6_code_52 : decode jdk_38_method_6_code 52 = .ok (.anewarray 7, 3) := by decide +kernel
theorem d_jdk_38_method_6_code_55 : decode jdk_38_method_6_code 55 = .ok (.dup_x1, 1) := by decide +kernel
theorem d_jdk_38_method_6_code_56 : decode jdk_38_method_6_code 56 = .ok (.putfield 9, 3) := by decide +kernel
theorem d_jdk_38_method_6_code_59 : decode jdk_38_method_6_code 59 = .ok (.areturn, 1) := by decide +kernel
theorem ef_4 (m : MethodId) (x0 : Addr) (x1 : Int32) : entryFrame m #[(.ref x0), (.int x1)] 4 = mkF m 0 #[.val (.ref x0), .val (.int x1), .unset, .unset] [] := by first | (simp [entryFrame, mkF, argsToLocals, Value.category]; done) | rfl
def Q_growI (Z : State) (al : Addr) (dd : Addr) (kd : ClassId) (mc : Int32) (h0 : Heap) (n0 : Nat) (v : Option Value) (h : Heap) (L : List Loc) : Prop := ∃ (es : Addr) (ke : ClassId), (v = some (.ref es)) ∧ (Fr n0 L) ∧ (Keep h0 h ([al] : List Addr)) ∧ (h0.size ≤ es) ∧ (Fld Z h al "java/util/AbstractList" "modCount" "I" (.int mc)) ∧ (Fld Z h al "java/util/ArrayList" "size" "I" (.int (0 : Int32))) ∧ (Fld Z h al "java/util/ArrayList" "elementData" "[Ljava/lang/Object;" (.ref es)) ∧ (Arv Z h es ke (.object "java/lang/Object") (10 : Int32) [.null, .null, .null, .null, .null, .null, .null, .null, .null, .null] .null) ∧ (Ovr Z ke "java/lang/Object")
set_option maxRecDepth 65536 in
set_option maxHeartbeats 40000000 in
theorem rm_growI (l : Launch) (Z : State) (a0 : Array Value) (hw : ∀ d ∈ tables_1, d.before a0 Z = true) (ws : List Jvm.Cond) (al : Addr) (dd : Addr) (kd : ClassId) (mc : Int32) (h0 : Heap) (n0 : Nat) (Z0 : n0 ≤ h0.size) (q0 : Sta Z Z.heap "java/util/ArrayList" "DEFAULTCAPACITY_EMPTY_ELEMENTDATA" "[Ljava/lang/Object;" (.ref dd)) (q1 : Arv Z Z.heap dd kd (.object "java/lang/Object") (0 : Int32) [] .null) (q2 : Old Z n0 h0) (q3 : Exa Z h0 al "java/util/ArrayList") (q4 : Fld Z h0 al "java/util/AbstractList" "modCount" "I" (.int mc)) (q5 : Fld Z h0 al "java/util/ArrayList" "size" "I" (.int (0 : Int32))) (q6 : Fld Z h0 al "java/util/ArrayList" "elementData" "[Ljava/lang/Object;" (.ref dd)) (q7 : n0 ≤ al) :
    MetFree l (⟨"java/util/ArrayList", "grow", "(I)[Ljava/lang/Object;"⟩ : MethodName) (head1 (Jvm.Cond.code (⟨"java/util/ArrayList", "grow", "(I)[Ljava/lang/Object;"⟩ : MethodName) jdk_38_method_6_code 4 (some (.array (.object "java/lang/Object"))) :: ws) ({ frames := 1, cells := 1, slots := 10, locals := 14 } : Room)) (fun a₁ U₁ => a₁ = #[(.ref al), (.int (1 : Int32))] ∧ Z.Warmed39 U₁.vm ∧ U₁.heap = h0) (fun _ _ _ _ _ => True) (fun _ U₁ o₁ U₂ => ∃ v₁ L₁, o₁ = .returned v₁ ∧ Q_growI Z al dd kd mc h0 n0 v₁ U₂.heap L₁ ∧ FrameEnd U₁ o₁ U₂ L₁ ({ frames := 1, cells := 1, slots := 10, locals := 14 } : Room).cells ({ frames := 1, cells := 1, slots := 10, locals := 14 } : Room).slots) := by
  refine MetFree.of_bodySF (plainFor_of_name pn_4) hisR ?_
  intro p e s m args below meth c s₁ Bd hml0 hP hK
  obtain ⟨rfl, hZ, hh⟩ := hP
  have hx := Bd.exec
  have hby := Bd.bytes
  have hml : c.maxLocals = 4 := hml0
  have hown : s.vm.findClass "java/util/ArrayList" = some m.cls := findClass_of_methodNamed Bd.named
  have hnm := (name_of_methodNamed Bd.named Bd.method).1
  have X0 : Stand p l e ({ frames := 1, cells := 1, slots := 10, locals := 14 } : Room) s m #[(.ref al), (.int (1 : Int32))] below meth c s₁ [] 0 0 := Stand.of_body Bd
  have e0 : s₁.heap = h0 := by rw [← hh, Bd.state]; rfl
  have N0 := Fr.nil n0
  have pre0 : ∀ t, Steps p.tables e below (s₁.setTop (mkF m 0 #[.val (.ref al), .val (.int (1 : Int32)), .unset, .unset] [])) t → Steps p.tables e below (s₁.setTop (entryFrame m #[(.ref al), (.int (1 : Int32))] 4)) t := fun t k => castTop (ef_4 m al (1 : Int32)) k
  obtain ⟨T301, X301, e301, st301⟩ := getF X0 hx hZ hown (host := "") (Or.inl (hw _ (List.mem_of_getElem? (i := 67) rfl))) Via.refl e0 q6 (g := (mkF m 1 #[.val (.ref al), .val (.int (1 : Int32)), .unset, .unset] [(.ref al)])) rfl rfl (hb hby d_jdk_38_method_6_code_1)
  obtain ⟨cl302, Ar302, -, S302, M302, -, -⟩ := id (q1.ext q2.2)
  obtain ⟨T303, X303, e303, st303⟩ := getF X301 hx hZ hown (host := "") (Or.inl (hw _ (List.mem_of_getElem? (i := 67) rfl))) Via.refl e301 q6 (g := (mkF m 11 #[.val (.ref al), .val (.int (1 : Int32)), .val (.int (0 : Int32)), .unset] [(.ref al)])) rfl rfl (hb hby d_jdk_38_method_6_code_11)
  obtain ⟨T304, X304, e304, st304⟩ := getS2 X303 hx hZ hown (host := "") (Or.inl (hw _ (List.mem_of_getElem? (i := 66) rfl))) Via.refl e303 (q0.ext q2.2) (g := (mkF m 14 #[.val (.ref al), .val (.int (1 : Int32)), .val (.int (0 : Int32)), .unset] [(.ref dd)])) rfl (hb hby d_jdk_38_method_6_code_14)
  obtain ⟨_, _, ⟨T305, L305, k305, n305⟩, -, X305, ⟨Lc305, hQ305, l305, y305, z305⟩, st305⟩ := Jvm.LawKit.callS X304 hx (y := (⟨"java/lang/Math", "max", "(II)I"⟩ : MethodName)) hown (mvT hZ (hw _ (List.mem_of_getElem? (i := 93) rfl))) (mvT hZ (hw _ (List.mem_of_getElem? (i := 94) rfl))) (mvT hZ (hw _ (List.mem_of_getElem? (i := 95) rfl))) (mvT hZ (hw _ (List.mem_of_getElem? (i := 96) rfl))) (by decide) (backOf (W := 1) (rm_mmax l Z a0 hw [] (10 : Int32) (1 : Int32) h0 n0 Z0 (by decide)) hZ (hw _ (List.mem_of_getElem? (i := 96) rfl)) (hw _ (List.mem_of_getElem? (i := 95) rfl)) (by decide) (by decide)) (g := (mkF m 49 #[.val (.ref al), .val (.int (1 : Int32)), .val (.int (0 : Int32)), .unset] [(.int (1 : Int32)), (.int (10 : Int32)), (.ref al)])) rfl (by rw [hml]; rfl) (argsL := [(.int (10 : Int32)), (.int (1 : Int32))]) (rest := [(.ref al)]) (lenOf pd_4 rfl) rfl (by show 2 * 0 + _ ≤ _; exact Nat.le_of_eq rfl) (hb hby d_jdk_38_method_6_code_49) (fun _ _ => ⟨rfl, e304, (by decide : 0 + 0 ≤ _), (by decide : 0 + 0 ≤ _)⟩)
  dsimp only [Pt.U, Pt.locs, Pt.cells, Pt.slots] at X305 l305 y305 z305 st305 hQ305
  subst l305 y305 z305
  obtain ⟨rfl, Nq305, e305⟩ := hQ305
  have N305 := Fr.app N0 Nq305
  obtain ⟨T306, h306, ky306, X306, e306, E306, A306, O306, st306⟩ := newR X305 hx hZ hown (hw _ (List.mem_of_getElem? (i := 97) rfl)) (hw _ (List.mem_of_getElem? (i := 98) rfl)) e305 (g := (mkF m 52 #[.val (.ref al), .val (.int (1 : Int32)), .val (.int (0 : Int32)), .unset] [(.int (10 : Int32)), (.ref al)])) rfl (hb hby d_jdk_38_method_6_code_52) rfl (by decide) (cap := 10) (by decide) (by decide) (by decide) (by decide)
  obtain ⟨b306, g306⟩ : ∃ z, z = h0.size := ⟨_, rfl⟩
  rw [← g306] at A306 st306
  have V306 : Arv Z h306 b306 ky306 (.object "java/lang/Object") (10 : Int32) [] .null := Arv.new A306 (by decide)
  have U306 : Arv Z h306 b306 ky306 (.object "java/lang/Object") (10 : Int32) [.null, .null, .null, .null, .null, .null, .null, .null, .null, .null] .null := V306.pad (pad_rep [] .null 10)
  have c307 : Fld Z h306 al "java/util/ArrayList" "elementData" "[Ljava/lang/Object;" (.ref dd) := (q6.ext E306)
  have c308 : Exa Z h306 al "java/util/ArrayList" := (q3.ext E306)
  obtain ⟨T309, h309, X309, e309, W309, st309⟩ := putF X306 hx hZ hown (host := "") (Or.inl (hw _ (List.mem_of_getElem? (i := 67) rfl))) Via.refl e306 c307 c308 (Or.inl (hw _ (List.mem_of_getElem? (i := 68) rfl))) (hw _ (List.mem_of_getElem? (i := 46) rfl)) (ty := (.array (.object "java/lang/Object"))) (by decide) rfl rfl (g := (mkF m 56 #[.val (.ref al), .val (.int (1 : Int32)), .val (.int (0 : Int32)), .unset] [(.ref b306), (.ref al), (.ref b306)])) rfl rfl (hb hby d_jdk_38_method_6_code_56)
  have N309 := Fr.snoc X309 N305 q7
  have F309 : Fld Z h309 al "java/util/ArrayList" "elementData" "[Ljava/lang/Object;" (.ref b306) := c307.same W309
  have c310 : Fld Z h309 al "java/util/AbstractList" "modCount" "I" (.int mc) := ((q4.ext E306).other W309 (Or.inr (slot_ne (Or.inl (hw _ (List.mem_of_getElem? (i := 65) rfl))) (Or.inl (hw _ (List.mem_of_getElem? (i := 68) rfl))) (by decide) (t := .int) (t' := (.array (.object "java/lang/Object"))) (by decide) (by decide))))
  have c311 : Fld Z h309 al "java/util/ArrayList" "size" "I" (.int (0 : Int32)) := ((q5.ext E306).other W309 (Or.inr (slot_ne (Or.inl (hw _ (List.mem_of_getElem? (i := 77) rfl))) (Or.inl (hw _ (List.mem_of_getElem? (i := 68) rfl))) (by decide) (t := .int) (t' := (.array (.object "java/lang/Object"))) (by decide) (by decide))))
  have ne312 : al ≠ b306 := Nat.ne_of_lt (Nat.lt_of_lt_of_le q6.lt (Nat.le_of_eq g306.symm))
  have c313 : Arv Z h309 b306 ky306 (.object "java/lang/Object") (10 : Int32) [.null, .null, .null, .null, .null, .null, .null, .null, .null, .null] .null := (U306.other W309 (Ne.symm ne312))
  obtain ⟨fs, hr, hrun, hended, hW, hsame⟩ := X309.leave (v := some (.ref b306)) (fun h => by rw [Bd.returns] at h; cases h)
  refine ⟨_, _, pre0 _ ?_, hrun, hended, _, _, rfl, ?_, ⟨_, rfl⟩, hW, hsame.mono (by decide) (by decide)⟩
  · refine XS.aloadN X0.here hx rfl (hb hby d_jdk_38_method_6_code_0) rfl rfl ?_
    show Steps p.tables e below (s₁.setTop (mkF m 1 #[.val (.ref al), .val (.int (1 : Int32)), .unset, .unset] [(.ref al)])) _
    refine st301 _ ?_
    show Steps p.tables e below (T301.setTop (mkF m 4 #[.val (.ref al), .val (.int (1 : Int32)), .unset, .unset] [(.ref dd)])) _
    refine X301.arraylength hx (by rw [e301]; exact Ar302.1) (State.isArrayOf_alike hZ.alike Ar302.2.1) (g := (mkF m 4 #[.val (.ref al), .val (.int (1 : Int32)), .unset, .unset] [(.ref dd)])) rfl rfl (hb hby d_jdk_38_method_6_code_4) _ ?_
    rw [len_of S302 M302]
    show Steps p.tables e below (T301.setTop (mkF m 5 #[.val (.ref al), .val (.int (1 : Int32)), .unset, .unset] [(.int (0 : Int32))])) _
    refine XS.istoreN X301.here hx rfl (hb hby d_jdk_38_method_6_code_5) rfl (l' := #[.val (.ref al), .val (.int (1 : Int32)), .val (.int (0 : Int32)), .unset]) rfl ?_
    show Steps p.tables e below (T301.setTop (mkF m 6 #[.val (.ref al), .val (.int (1 : Int32)), .val (.int (0 : Int32)), .unset] [])) _
    refine XS.iloadN X301.here hx rfl (hb hby d_jdk_38_method_6_code_6) rfl ?_
    show Steps p.tables e below (T301.setTop (mkF m 7 #[.val (.ref al), .val (.int (1 : Int32)), .val (.int (0 : Int32)), .unset] [(.int (0 : Int32))])) _
    refine XS.ifNo X301.here hx rfl (hb hby d_jdk_38_method_6_code_7) rfl ((if0 _ _).trans (flt ((by decide) : ¬ ((0 : Int32) < (0 : Int32)))).2.2.1) ?_
    show Steps p.tables e below (T301.setTop (mkF m 10 #[.val (.ref al), .val (.int (1 : Int32)), .val (.int (0 : Int32)), .unset] [])) _
    refine XS.aloadN X301.here hx rfl (hb hby d_jdk_38_method_6_code_10) rfl rfl ?_
    show Steps p.tables e below (T301.setTop (mkF m 11 #[.val (.ref al), .val (.int (1 : Int32)), .val (.int (0 : Int32)), .unset] [(.ref al)])) _
    refine st303 _ ?_
    show Steps p.tables e below (T303.setTop (mkF m 14 #[.val (.ref al), .val (.int (1 : Int32)), .val (.int (0 : Int32)), .unset] [(.ref dd)])) _
    refine st304 _ ?_
    show Steps p.tables e below (T304.setTop (mkF m 17 #[.val (.ref al), .val (.int (1 : Int32)), .val (.int (0 : Int32)), .unset] [(.ref dd), (.ref dd)])) _
    refine Jvm.RoadKit.acmp (g := (mkF m 17 #[.val (.ref al), .val (.int (1 : Int32)), .val (.int (0 : Int32)), .unset] [(.ref dd), (.ref dd)])) X304 hx rfl rfl rfl (pc0 := 17) (pc' := 45) (same := true) rfl (hb hby d_jdk_38_method_6_code_17) rfl (decide_eq_true rfl) (by decide) (by decide) ?_
    show Steps p.tables e below (T304.setTop (mkF m 45 #[.val (.ref al), .val (.int (1 : Int32)), .val (.int (0 : Int32)), .unset] [])) _
    refine XS.aloadN X304.here hx rfl (hb hby d_jdk_38_method_6_code_45) rfl rfl ?_
    show Steps p.tables e below (T304.setTop (mkF m 46 #[.val (.ref al), .val (.int (1 : Int32)), .val (.int (0 : Int32)), .unset] [(.ref al)])) _
    refine XS.bipush X304.here hx rfl (hb hby d_jdk_38_method_6_code_46) ?_
    show Steps p.tables e below (T304.setTop (mkF m 48 #[.val (.ref al), .val (.int (1 : Int32)), .val (.int (0 : Int32)), .unset] [(.int (10 : Int32)), (.ref al)])) _
    refine XS.iloadN X304.here hx rfl (hb hby d_jdk_38_method_6_code_48) rfl ?_
    show Steps p.tables e below (T304.setTop (mkF m 49 #[.val (.ref al), .val (.int (1 : Int32)), .val (.int (0 : Int32)), .unset] [(.int (1 : Int32)), (.int (10 : Int32)), (.ref al)])) _
    refine st305 _ ?_
    show Steps p.tables e below (T305.setTop (mkF m 52 #[.val (.ref al), .val (.int (1 : Int32)), .val (.int (0 : Int32)), .unset] [(.int (10 : Int32)), (.ref al)])) _
    refine st306 _ ?_
    show Steps p.tables e below (T306.setTop (mkF m 55 #[.val (.ref al), .val (.int (1 : Int32)), .val (.int (0 : Int32)), .unset] [(.ref b306), (.ref al)])) _
    refine XS.dupX1 X306.here hx rfl (hb hby d_jdk_38_method_6_code_55) rfl rfl rfl ?_
    show Steps p.tables e below (T306.setTop (mkF m 56 #[.val (.ref al), .val (.int (1 : Int32)), .val (.int (0 : Int32)), .unset] [(.ref b306), (.ref al), (.ref b306)])) _
    refine st309 _ ?_
    show Steps p.tables e below (T309.setTop (mkF m 59 #[.val (.ref al), .val (.int (1 : Int32)), .val (.int (0 : Int32)), .unset] [(.ref b306)])) _
    jvm_step X309.here [X309.here.top, hx, (hb hby d_jdk_38_method_6_code_59), X309.method', Bd.returns, Value.isRef, FieldType.isReference]
    first | (intro acts; rw [hr _ acts rfl rfl rfl]) | rw [hr _ _ rfl rfl rfl]
    exact Steps.refl _
  · show Q_growI Z al dd kd mc h0 n0 _ T309.heap _
    rw [e309]
    exact ⟨b306, ky306, rfl, N309, (((Keep.refl h0 ([al] : List Addr)).ext E306).wr W309 (Or.inl (by simp))), (Nat.le_trans (Nat.le_refl _) (Nat.le_of_eq g306.symm)), c310, c311, F309, c313, O306⟩
theorem d_jdk_38_method_7_code_0 : decode jdk_38_method_7_code 0 = .ok (.aload_n 0, 1) := by decide +kernel
theorem d_jdk_38_method_7_code_1 : decode jdk_38_method_7_code 1 = .ok (.aload_n 0, 1) := by decide +kernel
theorem d_jdk_38_method_7_code_2 : decode jdk_38_method_7_code 2 = .ok (.getfield 48, 3) := by decide +kernel
theorem d_jdk_38_method_7_code_5 : decode jdk_38_method_7_code 5 = .ok (.iconst 1, 1) := by decide +kernel
theorem d_jdk_38_method_7_code_6 : decode jdk_38_method_7_code 6 = .ok (.iadd, 1) := by decide +kernel
theorem d_jdk_38_method_7_code_7 : decode jdk_38_method_7_code 7 = .ok (.invokevirtual 69, 3) := by decide +kernel
theorem pd_5 : parseMethodDescriptor "(I)[Ljava/lang/Object;" = some ⟨[.int], some (.array (.object "java/lang/Object"))⟩ := by decide +kernel
theorem d_jdk_38_method_7_code_10 : decode jdk_38_method_7_code 10 = .ok (.areturn, 1) := by decide +kernel
def Q_grow0 (Z : State) (al : Addr) (dd : Addr) (kd : ClassId) (mc : Int32) (h0 : Heap) (n0 : Nat) (v : Option Value) (h : Heap) (L : List Loc) : Prop := ∃ (es : Addr) (ke : ClassId), (v = some (.ref es)) ∧ (Fr n0 L) ∧ (Keep h0 h ([al] : List Addr)) ∧ (h0.size ≤ es) ∧ (Fld Z h al "java/util/AbstractList" "modCount" "I" (.int mc)) ∧ (Fld Z h al "java/util/ArrayList" "size" "I" (.int (0 : Int32))) ∧ (Fld Z h al "java/util/ArrayList" "elementData" "[Ljava/lang/Object;" (.ref es)) ∧ (Arv Z h es ke (.object "java/lang/Object") (10 : Int32) [.null, .null, .null, .null, .null, .null, .null, .null, .null, .null] .null) ∧ (Ovr Z ke "java/lang/Object")
set_option maxRecDepth 65536 in
set_option maxHeartbeats 40000000 in
theorem rm_grow0 (l : Launch) (Z : State) (a0 : Array Value) (hw : ∀ d ∈ tables_1, d.before a0 Z = true) (ws : List Jvm.Cond) (al : Addr) (dd : Addr) (kd : ClassId) (mc : Int32) (h0 : Heap) (n0 : Nat) (Z0 : n0 ≤ h0.size) (q0 : Sta Z Z.heap "java/util/ArrayList" "DEFAULTCAPACITY_EMPTY_ELEMENTDATA" "[Ljava/lang/Object;" (.ref dd)) (q1 : Arv Z Z.heap dd kd (.object "java/lang/Object") (0 : Int32) [] .null) (q2 : Old Z n0 h0) (q3 : Exa Z h0 al "java/util/ArrayList") (q4 : Fld Z h0 al "java/util/AbstractList" "modCount" "I" (.int mc)) (q5 : Fld Z h0 al "java/util/ArrayList" "size" "I" (.int (0 : Int32))) (q6 : Fld Z h0 al "java/util/ArrayList" "elementData" "[Ljava/lang/Object;" (.ref dd)) (q7 : n0 ≤ al) :
    MetFree l (⟨"java/util/ArrayList", "grow", "()[Ljava/lang/Object;"⟩ : MethodName) (head1 (Jvm.Cond.code (⟨"java/util/ArrayList", "grow", "()[Ljava/lang/Object;"⟩ : MethodName) jdk_38_method_7_code 1 (some (.array (.object "java/lang/Object"))) :: ws) ({ frames := 2, cells := 1, slots := 10, locals := 29 } : Room)) (fun a₁ U₁ => a₁ = #[(.ref al)] ∧ Z.Warmed39 U₁.vm ∧ U₁.heap = h0) (fun _ _ _ _ _ => True) (fun _ U₁ o₁ U₂ => ∃ v₁ L₁, o₁ = .returned v₁ ∧ Q_grow0 Z al dd kd mc h0 n0 v₁ U₂.heap L₁ ∧ FrameEnd U₁ o₁ U₂ L₁ ({ frames := 2, cells := 1, slots := 10, locals := 29 } : Room).cells ({ frames := 2, cells := 1, slots := 10, locals := 29 } : Room).slots) := by
  refine MetFree.of_bodySF (plainFor_of_name pn_4) hisR ?_
  intro p e s m args below meth c s₁ Bd hml0 hP hK
  obtain ⟨rfl, hZ, hh⟩ := hP
  have hx := Bd.exec
  have hby := Bd.bytes
  have hml : c.maxLocals = 1 := hml0
  have hown : s.vm.findClass "java/util/ArrayList" = some m.cls := findClass_of_methodNamed Bd.named
  have hnm := (name_of_methodNamed Bd.named Bd.method).1
  have X0 : Stand p l e ({ frames := 2, cells := 1, slots := 10, locals := 29 } : Room) s m #[(.ref al)] below meth c s₁ [] 0 0 := Stand.of_body Bd
  have e0 : s₁.heap = h0 := by rw [← hh, Bd.state]; rfl
  have N0 := Fr.nil n0
  have pre0 : ∀ t, Steps p.tables e below (s₁.setTop (mkF m 0 #[.val (.ref al)] [])) t → Steps p.tables e below (s₁.setTop (entryFrame m #[(.ref al)] 1)) t := fun t k => castTop (ef_2 m al) k
  obtain ⟨T301, X301, e301, st301⟩ := getF X0 hx hZ hown (host := "") (Or.inl (hw _ (List.mem_of_getElem? (i := 76) rfl))) Via.refl e0 q5 (g := (mkF m 2 #[.val (.ref al)] [(.ref al), (.ref al)])) rfl rfl (hb hby d_jdk_38_method_7_code_2)
  obtain ⟨cq302, q302_, q302_'⟩ := q3.cell
  obtain ⟨_, _, ⟨T302, L302, k302, n302⟩, -, X302, ⟨Lc302, hQ302, l302, y302, z302⟩, st302⟩ := X301.privateBack hx (y := (⟨"java/util/ArrayList", "grow", "(I)[Ljava/lang/Object;"⟩ : MethodName)) hown (mvT hZ (hw _ (List.mem_of_getElem? (i := 88) rfl))) (mvT hZ (hw _ (List.mem_of_getElem? (i := 89) rfl))) (mvT hZ (hw _ (List.mem_of_getElem? (i := 91) rfl))) (Cond.privateMethod_at (mvP hZ (hw _ (List.mem_of_getElem? (i := 90) rfl)) (args := #[]))) (mvT hZ (hw _ (List.mem_of_getElem? (i := 92) rfl))) (by decide) (backOf (W := 0) (rm_growI l Z a0 hw [] al dd kd mc h0 n0 Z0 q0 q1 q2 q3 q4 q5 q6 q7) hZ (hw _ (List.mem_of_getElem? (i := 92) rfl)) (hw _ (List.mem_of_getElem? (i := 47) rfl)) (by decide) (by decide)) (g := (mkF m 7 #[.val (.ref al)] [(.int (1 : Int32)), (.ref al)])) rfl (by rw [hml]; rfl) (Steps.refl _) (a := al) (by rw [e301]; exact q302_) q302_' (argsL := [(.int (1 : Int32))]) (rest := []) (lenOf pd_5 rfl) rfl (by show 2 * 0 + _ ≤ _; exact Nat.le_of_eq rfl) (hb hby d_jdk_38_method_7_code_7) (fun _ _ => ⟨rfl, e301, (by decide : 0 + 1 ≤ _), (by decide : 0 + 10 ≤ _)⟩)
  dsimp only [Pt.U, Pt.locs, Pt.cells, Pt.slots] at X302 l302 y302 z302 st302 hQ302
  subst l302 y302 z302
  obtain ⟨es_302, ke_302, rfl, Nq302, K302, f302_0, f302_1, f302_2, f302_3, f302_4, f302_5⟩ := hQ302
  have N302 := Fr.app N0 Nq302
  obtain ⟨fs, hr, hrun, hended, hW, hsame⟩ := X302.leave (v := some (.ref es_302)) (fun h => by rw [Bd.returns] at h; cases h)
  refine ⟨_, _, pre0 _ ?_, hrun, hended, _, _, rfl, ?_, ⟨_, rfl⟩, hW, hsame.mono (by decide) (by decide)⟩
  · refine XS.aloadN X0.here hx rfl (hb hby d_jdk_38_method_7_code_0) rfl rfl ?_
    show Steps p.tables e below (s₁.setTop (mkF m 1 #[.val (.ref al)] [(.ref al)])) _
    refine XS.aloadN X0.here hx rfl (hb hby d_jdk_38_method_7_code_1) rfl rfl ?_
    show Steps p.tables e below (s₁.setTop (mkF m 2 #[.val (.ref al)] [(.ref al), (.ref al)])) _
    refine st301 _ ?_
    show Steps p.tables e below (T301.setTop (mkF m 5 #[.val (.ref al)] [(.int (0 : Int32)), (.ref al)])) _
    refine XS.iconst X301.here hx rfl (hb hby d_jdk_38_method_7_code_5) ?_
    show Steps p.tables e below (T301.setTop (mkF m 6 #[.val (.ref al)] [(.int (1 : Int32)), (.int (0 : Int32)), (.ref al)])) _
    refine XS.iadd X301.here hx rfl (hb hby d_jdk_38_method_7_code_6) rfl ?_
    show Steps p.tables e below (T301.setTop (mkF m 7 #[.val (.ref al)] [(.int (1 : Int32)), (.ref al)])) _
    refine st302.trans ?_
    show Steps p.tables e below (T302.setTop (mkF m 10 #[.val (.ref al)] [(.ref es_302)])) _
    jvm_step X302.here [X302.here.top, hx, (hb hby d_jdk_38_method_7_code_10), X302.method', Bd.returns, Value.isRef, FieldType.isReference]
    first | (intro acts; rw [hr _ acts rfl rfl rfl]) | rw [hr _ _ rfl rfl rfl]
    exact Steps.refl _
  · show Q_grow0 Z al dd kd mc h0 n0 _ T302.heap _
    exact ⟨es_302, ke_302, rfl, N302, ((Keep.refl h0 ([al] : List Addr)).trans K302 (allS (Or.inl (by simp)) all0)), (Nat.le_trans (Nat.le_refl _) f302_0), f302_1, f302_2, f302_3, f302_4, f302_5⟩
theorem d_jdk_38_method_24_code_0 : decode jdk_38_method_24_code 0 = .ok (.iload_n 3, 1) := by decide +kernel
theorem d_jdk_38_method_24_code_1 : decode jdk_38_method_24_code 1 = .ok (.aload_n 2, 1) := by decide +kernel
theorem d_jdk_38_method_24_code_2 : decode jdk_38_method_24_code 2 = .ok (.arraylength, 1) := by decide +kernel
theorem d_jdk_38_method_24_code_3 : decode jdk_38_method_24_code 3 = .ok (.if_icmp .ne 8, 3) := by decide +kernel
theorem d_jdk_38_method_24_code_6 : decode jdk_38_method_24_code 6 = .ok (.aload_n 0, 1) := by decide +kernel
theorem d_jdk_38_method_24_code_7 : decode jdk_38_method_24_code 7 = .ok (.invokevirtual 129, 3) := by decide +kernel
theorem pd_6 : parseMethodDescriptor "()[Ljava/lang/Object;" = some ⟨[], some (.array (.object "java/lang/Object"))⟩ := by decide +kernel
theorem d_jdk_38_method_24_code_10 : decode jdk_38_method_24_code 10 = .ok (.astore_n 2, 1) := by decide +kernel
theorem d_jdk_38_method_24_code_11 : decode jdk_38_method_24_code 11 = .ok (.aload_n 2, 1) := by decide +kernel
theorem d_jdk_38_method_24_code_12 : decode jdk_38_method_24_code 12 = .ok (.iload_n 3, 1) := by decide +kernel
theorem d_jdk_38_method_24_code_13 : decode jdk_38_method_24_code 13 = .ok (.aload_n 1, 1) := by decide +kernel
theorem d_jdk_38_method_24_code_14 : decode jdk_38_method_24_code 14 = .ok (.aastore, 1) := by decide +kernel
theorem d_jdk_38_method_24_code_15 : decode jdk_38_method_24_code 15 = .ok (.aload_n 0, 1) := by decide +kernel
theorem d_jdk_38_method_24_code_16 : decode jdk_38_method_24_code 16 = .ok (.iload_n 3, 1) := by decide +kernel
theorem d_jdk_38_method_24_code_17 : decode jdk_38_method_24_code 17 = .ok (.iconst 1, 1) := by decide +kernel
theorem d_jdk_38_method_24_code_18 : decode jdk_38_method_24_code 18 = .ok (.iadd, 1) := by decide +kernel
theorem d_jdk_38_method_24_code_19 : decode jdk_38_method_24_code 19 = .ok (.putfield 48, 3) := by decide +kernel
theorem d_jdk_38_method_24_code_22 : decode jdk_38_method_24_code 22 = .ok (.return_, 1) := by decide +kernel
theorem ef_5 (m : MethodId) (x0 : Addr) (x1 : Addr) (x2 : Addr) (x3 : Int32) : entryFrame m #[(.ref x0), (.ref x1), (.ref x2), (.int x3)] 4 = mkF m 0 #[.val (.ref x0), .val (.ref x1), .val (.ref x2), .val (.int x3)] [] := by first | (simp [entryFrame, mkF, argsToLocals, Value.category]; done) | rfl
def Q_add3_0 (Z : State) (al : Addr) (wv : Addr) (dd : Addr) (kd : ClassId) (mc : Int32) (h0 : Heap) (n0 : Nat) (v : Option Value) (h : Heap) (L : List Loc) : Prop := ∃ (es : Addr) (ke : ClassId), (v = none) ∧ (Fr n0 L) ∧ (Keep h0 h ([al] : List Addr)) ∧ (h0.size ≤ es) ∧ (Fld Z h al "java/util/AbstractList" "modCount" "I" (.int mc)) ∧ (Fld Z h al "java/util/ArrayList" "size" "I" (.int (1 : Int32))) ∧ (Fld Z h al "java/util/ArrayList" "elementData" "[Ljava/lang/Object;" (.ref es)) ∧ (Arv Z h es ke (.object "java/lang/Object") (10 : Int32) [(.ref wv), .null, .null, .null, .null, .null, .null, .null, .null, .null] .null) ∧ (Ovr Z ke "java/lang/Object")
set_option maxRecDepth 65536 in
set_option maxHeartbeats 40000000 in
theorem rm_add3_0 (l : Launch) (Z : State) (a0 : Array Value) (hw : ∀ d ∈ tables_1, d.before a0 Z = true) (ws : List Jvm.Cond) (al : Addr) (wv : Addr) (dd : Addr) (kd : ClassId) (mc : Int32) (h0 : Heap) (n0 : Nat) (Z0 : n0 ≤ h0.size) (q0 : Sta Z Z.heap "java/util/ArrayList" "DEFAULTCAPACITY_EMPTY_ELEMENTDATA" "[Ljava/lang/Object;" (.ref dd)) (q1 : Arv Z Z.heap dd kd (.object "java/lang/Object") (0 : Int32) [] .null) (q2 : Old Z n0 h0) (q3 : Exa Z h0 al "java/util/ArrayList") (q4 : Fld Z h0 al "java/util/AbstractList" "modCount" "I" (.int mc)) (q5 : Fld Z h0 al "java/util/ArrayList" "size" "I" (.int (0 : Int32))) (q6 : Fld Z h0 al "java/util/ArrayList" "elementData" "[Ljava/lang/Object;" (.ref dd)) (q7 : n0 ≤ al) (q8 : Exa Z h0 wv "java/lang/String") :
    MetFree l (⟨"java/util/ArrayList", "add", "(Ljava/lang/Object;[Ljava/lang/Object;I)V"⟩ : MethodName) (head1 (Jvm.Cond.code (⟨"java/util/ArrayList", "add", "(Ljava/lang/Object;[Ljava/lang/Object;I)V"⟩ : MethodName) jdk_38_method_24_code 4 none :: ws) ({ frames := 3, cells := 1, slots := 10, locals := 41 } : Room)) (fun a₁ U₁ => a₁ = #[(.ref al), (.ref wv), (.ref dd), (.int (0 : Int32))] ∧ Z.Warmed39 U₁.vm ∧ U₁.heap = h0) (fun _ _ _ _ _ => True) (fun _ U₁ o₁ U₂ => ∃ v₁ L₁, o₁ = .returned v₁ ∧ Q_add3_0 Z al wv dd kd mc h0 n0 v₁ U₂.heap L₁ ∧ FrameEnd U₁ o₁ U₂ L₁ ({ frames := 3, cells := 1, slots := 10, locals := 41 } : Room).cells ({ frames := 3, cells := 1, slots := 10, locals := 41 } : Room).slots) := by
  refine MetFree.of_bodySF (plainFor_of_name pn_4) hisR ?_
  intro p e s m args below meth c s₁ Bd hml0 hP hK
  obtain ⟨rfl, hZ, hh⟩ := hP
  have hx := Bd.exec
  have hby := Bd.bytes
  have hml : c.maxLocals = 4 := hml0
  have hown : s.vm.findClass "java/util/ArrayList" = some m.cls := findClass_of_methodNamed Bd.named
  have hnm := (name_of_methodNamed Bd.named Bd.method).1
  have X0 : Stand p l e ({ frames := 3, cells := 1, slots := 10, locals := 41 } : Room) s m #[(.ref al), (.ref wv), (.ref dd), (.int (0 : Int32))] below meth c s₁ [] 0 0 := Stand.of_body Bd
  have e0 : s₁.heap = h0 := by rw [← hh, Bd.state]; rfl
  have N0 := Fr.nil n0
  have pre0 : ∀ t, Steps p.tables e below (s₁.setTop (mkF m 0 #[.val (.ref al), .val (.ref wv), .val (.ref dd), .val (.int (0 : Int32))] [])) t → Steps p.tables e below (s₁.setTop (entryFrame m #[(.ref al), (.ref wv), (.ref dd), (.int (0 : Int32))] 4)) t := fun t k => castTop (ef_5 m al wv dd (0 : Int32)) k
  obtain ⟨cl301, Ar301, -, S301, M301, -, -⟩ := id (q1.ext q2.2)
  obtain ⟨cq302, q302_, q302_'⟩ := q3.cell
  obtain ⟨_, _, ⟨T302, L302, k302, n302⟩, -, X302, ⟨Lc302, hQ302, l302, y302, z302⟩, st302⟩ := X0.privateBack hx (y := (⟨"java/util/ArrayList", "grow", "()[Ljava/lang/Object;"⟩ : MethodName)) hown (mvT hZ (hw _ (List.mem_of_getElem? (i := 83) rfl))) (mvT hZ (hw _ (List.mem_of_getElem? (i := 84) rfl))) (mvT hZ (hw _ (List.mem_of_getElem? (i := 86) rfl))) (Cond.privateMethod_at (mvP hZ (hw _ (List.mem_of_getElem? (i := 85) rfl)) (args := #[]))) (mvT hZ (hw _ (List.mem_of_getElem? (i := 87) rfl))) (by decide) (backOf (W := 0) (rm_grow0 l Z a0 hw [] al dd kd mc h0 n0 Z0 q0 q1 q2 q3 q4 q5 q6 q7) hZ (hw _ (List.mem_of_getElem? (i := 87) rfl)) (hw _ (List.mem_of_getElem? (i := 47) rfl)) (by decide) (by decide)) (g := (mkF m 7 #[.val (.ref al), .val (.ref wv), .val (.ref dd), .val (.int (0 : Int32))] [(.ref al)])) rfl (by rw [hml]; rfl) (Steps.refl _) (a := al) (by rw [e0]; exact q302_) q302_' (argsL := []) (rest := []) (lenOf pd_6 rfl) rfl (by show 2 * 0 + _ ≤ _; exact Nat.le_of_eq rfl) (hb hby d_jdk_38_method_24_code_7) (fun _ _ => ⟨rfl, e0, (by decide : 0 + 1 ≤ _), (by decide : 0 + 10 ≤ _)⟩)
  dsimp only [Pt.U, Pt.locs, Pt.cells, Pt.slots] at X302 l302 y302 z302 st302 hQ302
  subst l302 y302 z302
  obtain ⟨es_302, ke_302, rfl, Nq302, K302, f302_0, f302_1, f302_2, f302_3, f302_4, f302_5⟩ := hQ302
  have N302 := Fr.app N0 Nq302
  have ge304 : n0 ≤ es_302 := Nat.le_trans Z0 (Nat.le_trans (Nat.le_refl _) f302_0)
  obtain ⟨cl303, Ar303, qq303, S303, M303, Hh303, U303⟩ := id f302_4
  have c305 : Exa Z T302.heap wv "java/lang/String" := (q8.keep K302)
  obtain ⟨T303, h303, X303, e303, W303, st303⟩ := stR X302 hx hZ rfl Ar303 (j := (0 : Int32)) (inb_of S303 ⟨(by decide : ¬ ((0 : Int32) < (0 : Int32))), (by decide : (0 : Int32) < (10 : Int32))⟩) rfl (Sto.ofV Ar303 qq303 f302_5 (Ins.of_exa c305 (hw _ (List.mem_of_getElem? (i := 99) rfl)))) (g := (mkF m 14 #[.val (.ref al), .val (.ref wv), .val (.ref es_302), .val (.int (0 : Int32))] [(.ref wv), (.int (0 : Int32)), (.ref es_302)])) rfl rfl (hb hby d_jdk_38_method_24_code_14)
  have N303 := Fr.snoc X303 N302 ge304
  have V303 : Arv Z h303 es_302 ke_302 (.object "java/lang/Object") (10 : Int32) [(.ref wv), .null, .null, .null, .null, .null, .null, .null, .null, .null] .null := Arv.set Ar303 qq303 S303 M303 Hh303 U303 rfl W303 0 rfl (Nat.le_of_ble_eq_true rfl)
  have ne306 : al ≠ es_302 := Nat.ne_of_lt (Nat.lt_of_lt_of_le q3.lt f302_0)
  have c307 : Fld Z h303 al "java/util/ArrayList" "size" "I" (.int (0 : Int32)) := (f302_2.other W303 (Or.inl ne306))
  have c308 : Exa Z h303 al "java/util/ArrayList" := ((q3.keep K302).wr W303)
  obtain ⟨T309, h309, X309, e309, W309, st309⟩ := putF X303 hx hZ hown (host := "") (Or.inl (hw _ (List.mem_of_getElem? (i := 76) rfl))) Via.refl e303 c307 c308 (Or.inl (hw _ (List.mem_of_getElem? (i := 77) rfl))) (hw _ (List.mem_of_getElem? (i := 46) rfl)) (ty := .int) (by decide) rfl rfl (g := (mkF m 19 #[.val (.ref al), .val (.ref wv), .val (.ref es_302), .val (.int (0 : Int32))] [(.int (1 : Int32)), (.ref al)])) rfl rfl (hb hby d_jdk_38_method_24_code_19)
  have N309 := Fr.snoc X309 N303 q7
  have F309 : Fld Z h309 al "java/util/ArrayList" "size" "I" (.int (1 : Int32)) := c307.same W309
  have c310 : Fld Z h309 al "java/util/AbstractList" "modCount" "I" (.int mc) := ((f302_1.other W303 (Or.inl ne306)).other W309 (Or.inr (slot_ne (Or.inl (hw _ (List.mem_of_getElem? (i := 65) rfl))) (Or.inl (hw _ (List.mem_of_getElem? (i := 77) rfl))) (by decide) (t := .int) (t' := .int) (by decide) (by decide))))
  have c311 : Fld Z h309 al "java/util/ArrayList" "elementData" "[Ljava/lang/Object;" (.ref es_302) := ((f302_3.other W303 (Or.inl ne306)).other W309 (Or.inr (slot_ne (Or.inl (hw _ (List.mem_of_getElem? (i := 68) rfl))) (Or.inl (hw _ (List.mem_of_getElem? (i := 77) rfl))) (by decide) (t := (.array (.object "java/lang/Object"))) (t' := .int) (by decide) (by decide))))
  have c312 : Arv Z h309 es_302 ke_302 (.object "java/lang/Object") (10 : Int32) [(.ref wv), .null, .null, .null, .null, .null, .null, .null, .null, .null] .null := (V303.other W309 (Ne.symm ne306))
  obtain ⟨fs, hr, hrun, hended, hW, hsame⟩ := X309.leave (v := none) (fun _ => rfl)
  refine ⟨_, _, pre0 _ ?_, hrun, hended, _, _, rfl, ?_, ⟨_, rfl⟩, hW, hsame.mono (by decide) (by decide)⟩
  · refine XS.iloadN X0.here hx rfl (hb hby d_jdk_38_method_24_code_0) rfl ?_
    show Steps p.tables e below (s₁.setTop (mkF m 1 #[.val (.ref al), .val (.ref wv), .val (.ref dd), .val (.int (0 : Int32))] [(.int (0 : Int32))])) _
    refine XS.aloadN X0.here hx rfl (hb hby d_jdk_38_method_24_code_1) rfl rfl ?_
    show Steps p.tables e below (s₁.setTop (mkF m 2 #[.val (.ref al), .val (.ref wv), .val (.ref dd), .val (.int (0 : Int32))] [(.ref dd), (.int (0 : Int32))])) _
    refine X0.arraylength hx (by rw [e0]; exact Ar301.1) (State.isArrayOf_alike hZ.alike Ar301.2.1) (g := (mkF m 2 #[.val (.ref al), .val (.ref wv), .val (.ref dd), .val (.int (0 : Int32))] [(.ref dd), (.int (0 : Int32))])) rfl rfl (hb hby d_jdk_38_method_24_code_2) _ ?_
    rw [len_of S301 M301]
    show Steps p.tables e below (s₁.setTop (mkF m 3 #[.val (.ref al), .val (.ref wv), .val (.ref dd), .val (.int (0 : Int32))] [(.int (0 : Int32)), (.int (0 : Int32))])) _
    refine XS.icmpNo X0.here hx rfl (hb hby d_jdk_38_method_24_code_3) rfl (teq ((by decide) : (0 : Int32) = (0 : Int32))).2 ?_
    show Steps p.tables e below (s₁.setTop (mkF m 6 #[.val (.ref al), .val (.ref wv), .val (.ref dd), .val (.int (0 : Int32))] [])) _
    refine XS.aloadN X0.here hx rfl (hb hby d_jdk_38_method_24_code_6) rfl rfl ?_
    show Steps p.tables e below (s₁.setTop (mkF m 7 #[.val (.ref al), .val (.ref wv), .val (.ref dd), .val (.int (0 : Int32))] [(.ref al)])) _
    refine st302.trans ?_
    show Steps p.tables e below (T302.setTop (mkF m 10 #[.val (.ref al), .val (.ref wv), .val (.ref dd), .val (.int (0 : Int32))] [(.ref es_302)])) _
    refine XS.astoreN X302.here hx rfl (hb hby d_jdk_38_method_24_code_10) rfl rfl (l' := #[.val (.ref al), .val (.ref wv), .val (.ref es_302), .val (.int (0 : Int32))]) rfl ?_
    show Steps p.tables e below (T302.setTop (mkF m 11 #[.val (.ref al), .val (.ref wv), .val (.ref es_302), .val (.int (0 : Int32))] [])) _
    refine XS.aloadN X302.here hx rfl (hb hby d_jdk_38_method_24_code_11) rfl rfl ?_
    show Steps p.tables e below (T302.setTop (mkF m 12 #[.val (.ref al), .val (.ref wv), .val (.ref es_302), .val (.int (0 : Int32))] [(.ref es_302)])) _
    refine XS.iloadN X302.here hx rfl (hb hby d_jdk_38_method_24_code_12) rfl ?_
    show Steps p.tables e below (T302.setTop (mkF m 13 #[.val (.ref al), .val (.ref wv), .val (.ref es_302), .val (.int (0 : Int32))] [(.int (0 : Int32)), (.ref es_302)])) _
    refine XS.aloadN X302.here hx rfl (hb hby d_jdk_38_method_24_code_13) rfl rfl ?_
    show Steps p.tables e below (T302.setTop (mkF m 14 #[.val (.ref al), .val (.ref wv), .val (.ref es_302), .val (.int (0 : Int32))] [(.ref wv), (.int (0 : Int32)), (.ref es_302)])) _
    refine st303 _ ?_
    show Steps p.tables e below (T303.setTop (mkF m 15 #[.val (.ref al), .val (.ref wv), .val (.ref es_302), .val (.int (0 : Int32))] [])) _
    refine XS.aloadN X303.here hx rfl (hb hby d_jdk_38_method_24_code_15) rfl rfl ?_
    show Steps p.tables e below (T303.setTop (mkF m 16 #[.val (.ref al), .val (.ref wv), .val (.ref es_302), .val (.int (0 : Int32))] [(.ref al)])) _
    refine XS.iloadN X303.here hx rfl (hb hby d_jdk_38_method_24_code_16) rfl ?_
    show Steps p.tables e below (T303.setTop (mkF m 17 #[.val (.ref al), .val (.ref wv), .val (.ref es_302), .val (.int (0 : Int32))] [(.int (0 : Int32)), (.ref al)])) _
    refine XS.iconst X303.here hx rfl (hb hby d_jdk_38_method_24_code_17) ?_
    show Steps p.tables e below (T303.setTop (mkF m 18 #[.val (.ref al), .val (.ref wv), .val (.ref es_302), .val (.int (0 : Int32))] [(.int (1 : Int32)), (.int (0 : Int32)), (.ref al)])) _
    refine XS.iadd X303.here hx rfl (hb hby d_jdk_38_method_24_code_18) rfl ?_
    show Steps p.tables e below (T303.setTop (mkF m 19 #[.val (.ref al), .val (.ref wv), .val (.ref es_302), .val (.int (0 : Int32))] [(.int (1 : Int32)), (.ref al)])) _
    refine st309 _ ?_
    show Steps p.tables e below (T309.setTop (mkF m 22 #[.val (.ref al), .val (.ref wv), .val (.ref es_302), .val (.int (0 : Int32))] [])) _
    exact X309.returnOut hx Bd.returns (hb hby d_jdk_38_method_24_code_22) hr
  · show Q_add3_0 Z al wv dd kd mc h0 n0 _ T309.heap _
    rw [e309]
    exact ⟨es_302, ke_302, rfl, N309, ((((Keep.refl h0 ([al] : List Addr)).trans K302 (allS (Or.inl (by simp)) all0)).wr W303 (Or.inr (Nat.le_trans (Nat.le_refl _) f302_0))).wr W309 (Or.inl (by simp))), (Nat.le_trans (Nat.le_refl _) f302_0), c310, F309, c311, c312, f302_5⟩
theorem d_jdk_38_method_25_code_0 : decode jdk_38_method_25_code 0 = .ok (.aload_n 0, 1) := by decide +kernel
theorem d_jdk_38_method_25_code_1 : decode jdk_38_method_25_code 1 = .ok (.dup, 1) := by decide +kernel
theorem d_jdk_38_method_25_code_2 : decode jdk_38_method_25_code 2 = .ok (.getfield 63, 3) := by decide +kernel
theorem d_jdk_38_method_25_code_5 : decode jdk_38_method_25_code 5 = .ok (.iconst 1, 1) := by decide +kernel
theorem d_jdk_38_method_25_code_6 : decode jdk_38_method_25_code 6 = .ok (.iadd, 1) := by decide +kernel
theorem d_jdk_38_method_25_code_7 : decode jdk_38_method_25_code 7 = .ok (.putfield 63, 3) := by decide +kernel
theorem d_jdk_38_method_25_code_10 : decode jdk_38_method_25_code 10 = .ok (.aload_n 0, 1) := by decide +kernel
theorem d_jdk_38_method_25_code_11 : decode jdk_38_method_25_code 11 = .ok (.aload_n 1, 1) := by decide +kernel
theorem d_jdk_38_method_25_code_12 : decode jdk_38_method_25_code 12 = .ok (.aload_n 0, 1) := by decide +kernel
theorem d_jdk_38_method_25_code_13 : decode jdk_38_method_25_code 13 = .ok (.getfield 9, 3) := by decide +kernel
theorem d_jdk_38_method_25_code_16 : decode jdk_38_method_25_code 16 = .ok (.aload_n 0, 1) := by decide +kernel
theorem d_jdk_38_method_25_code_17 : decode jdk_38_method_25_code 17 = .ok (.getfield 48, 3) := by decide +kernel
theorem d_jdk_38_method_25_code_20 : decode jdk_38_method_25_code 20 = .ok (.invokevirtual 131, 3) := by decide +kernel
theorem pd_7 : parseMethodDescriptor "(Ljava/lang/Object;[Ljava/lang/Object;I)V" = some ⟨[(.object "java/lang/Object"), (.array (.object "java/lang/Object")), .int], none⟩ := by decide +kernel
theorem d_jdk_38_method_25_code_23 : decode jdk_38_method_25_code 23 = .ok (.iconst 1, 1) := by decide +kernel
theorem d_jdk_38_method_25_code_24 : decode jdk_38_method_25_code 24 = .ok (.ireturn, 1) := by decide +kernel
theorem ef_6 (m : MethodId) (x0 : Addr) (x1 : Addr) : entryFrame m #[(.ref x0), (.ref x1)] 2 = mkF m 0 #[.val (.ref x0), .val (.ref x1)] [] := by first | (simp [entryFrame, mkF, argsToLocals, Value.category]; done) | rfl
def Q_add_0 (Z : State) (al : Addr) (wv : Addr) (dd : Addr) (kd : ClassId) (h0 : Heap) (n0 : Nat) (v : Option Value) (h : Heap) (L : List Loc) : Prop := ∃ (es : Addr) (ke : ClassId), (v = some (.int (1 : Int32))) ∧ (Fr n0 L) ∧ (Keep h0 h ([al] : List Addr)) ∧ (h0.size ≤ es) ∧ (Fld Z h al "java/util/AbstractList" "modCount" "I" (.int (1 : Int32))) ∧ (Fld Z h al "java/util/ArrayList" "size" "I" (.int (1 : Int32))) ∧ (Fld Z h al "java/util/ArrayList" "elementData" "[Ljava/lang/Object;" (.ref es)) ∧ (Arv Z h es ke (.object "java/lang/Object") (10 : Int32) [(.ref wv), .null, .null, .null, .null, .null, .null, .null, .null, .null] .null) ∧ (Ovr Z ke "java/lang/Object")
set_option maxRecDepth 65536 in
set_option maxHeartbeats 40000000 in
theorem rm_add_0 (l : Launch) (Z : State) (a0 : Array Value) (hw : ∀ d ∈ tables_1, d.before a0 Z = true) (ws : List Jvm.Cond) (al : Addr) (wv : Addr) (dd : Addr) (kd : ClassId) (h0 : Heap) (n0 : Nat) (Z0 : n0 ≤ h0.size) (q0 : Sta Z Z.heap "java/util/ArrayList" "DEFAULTCAPACITY_EMPTY_ELEMENTDATA" "[Ljava/lang/Object;" (.ref dd)) (q1 : Arv Z Z.heap dd kd (.object "java/lang/Object") (0 : Int32) [] .null) (q2 : Old Z n0 h0) (q3 : Exa Z h0 al "java/util/ArrayList") (q4 : Fld Z h0 al "java/util/AbstractList" "modCount" "I" (.int (0 : Int32))) (q5 : Fld Z h0 al "java/util/ArrayList" "size" "I" (.int (0 : Int32))) (q6 : Fld Z h0 al "java/util/ArrayList" "elementData" "[Ljava/lang/Object;" (.ref dd)) (q7 : n0 ≤ al) (q8 : Exa Z h0 wv "java/lang/String") :
    MetFree l (⟨"java/util/ArrayList", "add", "(Ljava/lang/Object;)Z"⟩ : MethodName) (head1 (Jvm.Cond.code (⟨"java/util/ArrayList", "add", "(Ljava/lang/Object;)Z"⟩ : MethodName) jdk_38_method_25_code 2 (some .boolean) :: ws) ({ frames := 4, cells := 1, slots := 10, locals := 56 } : Room)) (fun a₁ U₁ => a₁ = #[(.ref al), (.ref wv)] ∧ Z.Warmed39 U₁.vm ∧ U₁.heap = h0) (fun _ _ _ _ _ => True) (fun _ U₁ o₁ U₂ => ∃ v₁ L₁, o₁ = .returned v₁ ∧ Q_add_0 Z al wv dd kd h0 n0 v₁ U₂.heap L₁ ∧ FrameEnd U₁ o₁ U₂ L₁ ({ frames := 4, cells := 1, slots := 10, locals := 56 } : Room).cells ({ frames := 4, cells := 1, slots := 10, locals := 56 } : Room).slots) := by
  refine MetFree.of_bodySF (plainFor_of_name pn_4) hisR ?_
  intro p e s m args below meth c s₁ Bd hml0 hP hK
  obtain ⟨rfl, hZ, hh⟩ := hP
  have hx := Bd.exec
  have hby := Bd.bytes
  have hml : c.maxLocals = 2 := hml0
  have hown : s.vm.findClass "java/util/ArrayList" = some m.cls := findClass_of_methodNamed Bd.named
  have hnm := (name_of_methodNamed Bd.named Bd.method).1
  have X0 : Stand p l e ({ frames := 4, cells := 1, slots := 10, locals := 56 } : Room) s m #[(.ref al), (.ref wv)] below meth c s₁ [] 0 0 := Stand.of_body Bd
  have e0 : s₁.heap = h0 := by rw [← hh, Bd.state]; rfl
  have N0 := Fr.nil n0
  have pre0 : ∀ t, Steps p.tables e below (s₁.setTop (mkF m 0 #[.val (.ref al), .val (.ref wv)] [])) t → Steps p.tables e below (s₁.setTop (entryFrame m #[(.ref al), (.ref wv)] 2)) t := fun t k => castTop (ef_6 m al wv) k
  obtain ⟨T301, X301, e301, st301⟩ := getF X0 hx hZ hown (host := "") (Or.inl (hw _ (List.mem_of_getElem? (i := 74) rfl))) (Via.of (hw _ (List.mem_of_getElem? (i := 75) rfl))) e0 q4 (g := (mkF m 2 #[.val (.ref al), .val (.ref wv)] [(.ref al), (.ref al)])) rfl rfl (hb hby d_jdk_38_method_25_code_2)
  obtain ⟨T302, h302, X302, e302, W302, st302⟩ := putF X301 hx hZ hown (host := "") (Or.inl (hw _ (List.mem_of_getElem? (i := 74) rfl))) (Via.of (hw _ (List.mem_of_getElem? (i := 75) rfl))) e301 q4 q3 (Or.inl (hw _ (List.mem_of_getElem? (i := 65) rfl))) (hw _ (List.mem_of_getElem? (i := 46) rfl)) (ty := .int) (by decide) rfl rfl (g := (mkF m 7 #[.val (.ref al), .val (.ref wv)] [(.int (1 : Int32)), (.ref al)])) rfl rfl (hb hby d_jdk_38_method_25_code_7)
  have N302 := Fr.snoc X302 N0 q7
  have F302 : Fld Z h302 al "java/util/AbstractList" "modCount" "I" (.int (1 : Int32)) := q4.same W302
  have c303 : Fld Z h302 al "java/util/ArrayList" "elementData" "[Ljava/lang/Object;" (.ref dd) := (q6.other W302 (Or.inr (slot_ne (Or.inl (hw _ (List.mem_of_getElem? (i := 68) rfl))) (Or.inl (hw _ (List.mem_of_getElem? (i := 65) rfl))) (by decide) (t := (.array (.object "java/lang/Object"))) (t' := .int) (by decide) (by decide))))
  obtain ⟨T304, X304, e304, st304⟩ := getF X302 hx hZ hown (host := "") (Or.inl (hw _ (List.mem_of_getElem? (i := 67) rfl))) Via.refl e302 c303 (g := (mkF m 13 #[.val (.ref al), .val (.ref wv)] [(.ref al), (.ref wv), (.ref al)])) rfl rfl (hb hby d_jdk_38_method_25_code_13)
  have c305 : Fld Z h302 al "java/util/ArrayList" "size" "I" (.int (0 : Int32)) := (q5.other W302 (Or.inr (slot_ne (Or.inl (hw _ (List.mem_of_getElem? (i := 77) rfl))) (Or.inl (hw _ (List.mem_of_getElem? (i := 65) rfl))) (by decide) (t := .int) (t' := .int) (by decide) (by decide))))
  obtain ⟨T306, X306, e306, st306⟩ := getF X304 hx hZ hown (host := "") (Or.inl (hw _ (List.mem_of_getElem? (i := 76) rfl))) Via.refl e304 c305 (g := (mkF m 17 #[.val (.ref al), .val (.ref wv)] [(.ref al), (.ref dd), (.ref wv), (.ref al)])) rfl rfl (hb hby d_jdk_38_method_25_code_17)
  have c307 : Old Z n0 h302 := (q2.wr W302 q7)
  have c308 : Exa Z h302 al "java/util/ArrayList" := (q3.wr W302)
  have c309 : Exa Z h302 wv "java/lang/String" := (q8.wr W302)
  obtain ⟨cq310, q310_, q310_'⟩ := c308.cell
  obtain ⟨_, _, ⟨T310, L310, k310, n310⟩, -, X310, ⟨Lc310, hQ310, l310, y310, z310⟩, st310⟩ := X306.privateBack hx (y := (⟨"java/util/ArrayList", "add", "(Ljava/lang/Object;[Ljava/lang/Object;I)V"⟩ : MethodName)) hown (mvT hZ (hw _ (List.mem_of_getElem? (i := 78) rfl))) (mvT hZ (hw _ (List.mem_of_getElem? (i := 79) rfl))) (mvT hZ (hw _ (List.mem_of_getElem? (i := 81) rfl))) (Cond.privateMethod_at (mvP hZ (hw _ (List.mem_of_getElem? (i := 80) rfl)) (args := #[]))) (mvT hZ (hw _ (List.mem_of_getElem? (i := 82) rfl))) (by decide) (backOf (W := 0) (rm_add3_0 l Z a0 hw [] al wv dd kd (1 : Int32) h302 n0 (Nat.le_trans Z0 (Keep.of_wr W302).1) q0 q1 c307 c308 F302 c305 c303 q7 c309) hZ (hw _ (List.mem_of_getElem? (i := 82) rfl)) (hw _ (List.mem_of_getElem? (i := 47) rfl)) (by decide) (by decide)) (g := (mkF m 20 #[.val (.ref al), .val (.ref wv)] [(.int (0 : Int32)), (.ref dd), (.ref wv), (.ref al)])) rfl (by rw [hml]; rfl) (Steps.refl _) (a := al) (by rw [e306]; exact q310_) q310_' (argsL := [(.ref wv), (.ref dd), (.int (0 : Int32))]) (rest := []) (lenOf pd_7 rfl) rfl (by show 2 * 0 + _ ≤ _; exact Nat.le_of_eq rfl) (hb hby d_jdk_38_method_25_code_20) (fun _ _ => ⟨rfl, e306, (by decide : 0 + 1 ≤ _), (by decide : 0 + 10 ≤ _)⟩)
  dsimp only [Pt.U, Pt.locs, Pt.cells, Pt.slots] at X310 l310 y310 z310 st310 hQ310
  subst l310 y310 z310
  obtain ⟨es_310, ke_310, rfl, Nq310, K310, f310_0, f310_1, f310_2, f310_3, f310_4, f310_5⟩ := hQ310
  have N310 := Fr.app N302 Nq310
  obtain ⟨fs, hr, hrun, hended, hW, hsame⟩ := X310.leave (v := some (.int (1 : Int32))) (fun h => by rw [Bd.returns] at h; cases h)
  refine ⟨_, _, pre0 _ ?_, hrun, hended, _, _, rfl, ?_, ⟨_, rfl⟩, hW, hsame.mono (by decide) (by decide)⟩
  · refine XS.aloadN X0.here hx rfl (hb hby d_jdk_38_method_25_code_0) rfl rfl ?_
    show Steps p.tables e below (s₁.setTop (mkF m 1 #[.val (.ref al), .val (.ref wv)] [(.ref al)])) _
    refine XS.dup X0.here hx rfl (hb hby d_jdk_38_method_25_code_1) rfl rfl ?_
    show Steps p.tables e below (s₁.setTop (mkF m 2 #[.val (.ref al), .val (.ref wv)] [(.ref al), (.ref al)])) _
    refine st301 _ ?_
    show Steps p.tables e below (T301.setTop (mkF m 5 #[.val (.ref al), .val (.ref wv)] [(.int (0 : Int32)), (.ref al)])) _
    refine XS.iconst X301.here hx rfl (hb hby d_jdk_38_method_25_code_5) ?_
    show Steps p.tables e below (T301.setTop (mkF m 6 #[.val (.ref al), .val (.ref wv)] [(.int (1 : Int32)), (.int (0 : Int32)), (.ref al)])) _
    refine XS.iadd X301.here hx rfl (hb hby d_jdk_38_method_25_code_6) rfl ?_
    show Steps p.tables e below (T301.setTop (mkF m 7 #[.val (.ref al), .val (.ref wv)] [(.int (1 : Int32)), (.ref al)])) _
    refine st302 _ ?_
    show Steps p.tables e below (T302.setTop (mkF m 10 #[.val (.ref al), .val (.ref wv)] [])) _
    refine XS.aloadN X302.here hx rfl (hb hby d_jdk_38_method_25_code_10) rfl rfl ?_
    show Steps p.tables e below (T302.setTop (mkF m 11 #[.val (.ref al), .val (.ref wv)] [(.ref al)])) _
    refine XS.aloadN X302.here hx rfl (hb hby d_jdk_38_method_25_code_11) rfl rfl ?_
    show Steps p.tables e below (T302.setTop (mkF m 12 #[.val (.ref al), .val (.ref wv)] [(.ref wv), (.ref al)])) _
    refine XS.aloadN X302.here hx rfl (hb hby d_jdk_38_method_25_code_12) rfl rfl ?_
    show Steps p.tables e below (T302.setTop (mkF m 13 #[.val (.ref al), .val (.ref wv)] [(.ref al), (.ref wv), (.ref al)])) _
    refine st304 _ ?_
    show Steps p.tables e below (T304.setTop (mkF m 16 #[.val (.ref al), .val (.ref wv)] [(.ref dd), (.ref wv), (.ref al)])) _
    refine XS.aloadN X304.here hx rfl (hb hby d_jdk_38_method_25_code_16) rfl rfl ?_
    show Steps p.tables e below (T304.setTop (mkF m 17 #[.val (.ref al), .val (.ref wv)] [(.ref al), (.ref dd), (.ref wv), (.ref al)])) _
    refine st306 _ ?_
    show Steps p.tables e below (T306.setTop (mkF m 20 #[.val (.ref al), .val (.ref wv)] [(.int (0 : Int32)), (.ref dd), (.ref wv), (.ref al)])) _
    refine st310.trans ?_
    show Steps p.tables e below (T310.setTop (mkF m 23 #[.val (.ref al), .val (.ref wv)] [])) _
    refine XS.iconst X310.here hx rfl (hb hby d_jdk_38_method_25_code_23) ?_
    show Steps p.tables e below (T310.setTop (mkF m 24 #[.val (.ref al), .val (.ref wv)] [(.int (1 : Int32))])) _
    exact retN X310 hx (t := .boolean) Bd.returns (by simp) (hb hby d_jdk_38_method_25_code_24) hr
  · show Q_add_0 Z al wv dd kd h0 n0 _ T310.heap _
    exact ⟨es_310, ke_310, rfl, N310, (((Keep.refl h0 ([al] : List Addr)).wr W302 (Or.inl (by simp))).trans K310 (allS (Or.inl (by simp)) all0)), (Nat.le_trans (Keep.of_wr W302).1 f310_0), f310_1, f310_2, f310_3, f310_4, f310_5⟩
def Q_add3_k (Z : State) (al : Addr) (wv : Addr) (es : Addr) (ke : ClassId) (mc : Int32) (sz : Int32) (ix : Nat) (vs : List Value) (h0 : Heap) (n0 : Nat) (v : Option Value) (h : Heap) (L : List Loc) : Prop := (v = none) ∧ (Fr n0 L) ∧ (Keep h0 h ([al, es] : List Addr)) ∧ (Fld Z h al "java/util/AbstractList" "modCount" "I" (.int mc)) ∧ (Fld Z h al "java/util/ArrayList" "size" "I" (.int (sz + (1 : Int32)))) ∧ (Fld Z h al "java/util/ArrayList" "elementData" "[Ljava/lang/Object;" (.ref es)) ∧ (Arv Z h es ke (.object "java/lang/Object") (10 : Int32) (vs.set ix (.ref wv)) .null)
set_option maxRecDepth 65536 in
set_option maxHeartbeats 40000000 in
theorem rm_add3_k (l : Launch) (Z : State) (a0 : Array Value) (hw : ∀ d ∈ tables_1, d.before a0 Z = true) (ws : List Jvm.Cond) (al : Addr) (wv : Addr) (es : Addr) (ke : ClassId) (mc : Int32) (sz : Int32) (ix : Nat) (vs : List Value) (h0 : Heap) (n0 : Nat) (Z0 : n0 ≤ h0.size) (q0 : Exa Z h0 al "java/util/ArrayList") (q1 : Fld Z h0 al "java/util/AbstractList" "modCount" "I" (.int mc)) (q2 : Fld Z h0 al "java/util/ArrayList" "size" "I" (.int sz)) (q3 : Fld Z h0 al "java/util/ArrayList" "elementData" "[Ljava/lang/Object;" (.ref es)) (q4 : n0 ≤ al) (q5 : n0 ≤ es) (q6 : al ≠ es) (q7 : Arv Z h0 es ke (.object "java/lang/Object") (10 : Int32) vs .null) (q8 : Ovr Z ke "java/lang/Object") (q9 : Exa Z h0 wv "java/lang/String") (hs0 : ¬ (sz < (0 : Int32))) (hs1 : sz < (10 : Int32)) (hsi : sz.toNatClampNeg = ix) (hil : ix < vs.length) :
    MetFree l (⟨"java/util/ArrayList", "add", "(Ljava/lang/Object;[Ljava/lang/Object;I)V"⟩ : MethodName) (head1 (Jvm.Cond.code (⟨"java/util/ArrayList", "add", "(Ljava/lang/Object;[Ljava/lang/Object;I)V"⟩ : MethodName) jdk_38_method_24_code 4 none :: ws) ({ frames := 0, cells := 0, slots := 0, locals := 0 } : Room)) (fun a₁ U₁ => a₁ = #[(.ref al), (.ref wv), (.ref es), (.int sz)] ∧ Z.Warmed39 U₁.vm ∧ U₁.heap = h0) (fun _ _ _ _ _ => True) (fun _ U₁ o₁ U₂ => ∃ v₁ L₁, o₁ = .returned v₁ ∧ Q_add3_k Z al wv es ke mc sz ix vs h0 n0 v₁ U₂.heap L₁ ∧ FrameEnd U₁ o₁ U₂ L₁ ({ frames := 0, cells := 0, slots := 0, locals := 0 } : Room).cells ({ frames := 0, cells := 0, slots := 0, locals := 0 } : Room).slots) := by
  refine MetFree.of_bodySF (plainFor_of_name pn_4) hisR ?_
  intro p e s m args below meth c s₁ Bd hml0 hP hK
  obtain ⟨rfl, hZ, hh⟩ := hP
  have hx := Bd.exec
  have hby := Bd.bytes
  have hml : c.maxLocals = 4 := hml0
  have hown : s.vm.findClass "java/util/ArrayList" = some m.cls := findClass_of_methodNamed Bd.named
  have hnm := (name_of_methodNamed Bd.named Bd.method).1
  have X0 : Stand p l e ({ frames := 0, cells := 0, slots := 0, locals := 0 } : Room) s m #[(.ref al), (.ref wv), (.ref es), (.int sz)] below meth c s₁ [] 0 0 := Stand.of_body Bd
  have e0 : s₁.heap = h0 := by rw [← hh, Bd.state]; rfl
  have N0 := Fr.nil n0
  have pre0 : ∀ t, Steps p.tables e below (s₁.setTop (mkF m 0 #[.val (.ref al), .val (.ref wv), .val (.ref es), .val (.int sz)] [])) t → Steps p.tables e below (s₁.setTop (entryFrame m #[(.ref al), (.ref wv), (.ref es), (.int sz)] 4)) t := fun t k => castTop (ef_5 m al wv es sz) k
  obtain ⟨cl301, Ar301, -, S301, M301, -, -⟩ := id q7
  obtain ⟨cl302, Ar302, qq302, S302, M302, Hh302, U302⟩ := id q7
  obtain ⟨T302, h302, X302, e302, W302, st302⟩ := stR X0 hx hZ e0 Ar302 (j := sz) (inb_of S302 ⟨hs0, hs1⟩) rfl (Sto.ofV Ar302 qq302 q8 (Ins.of_exa q9 (hw _ (List.mem_of_getElem? (i := 99) rfl)))) (g := (mkF m 14 #[.val (.ref al), .val (.ref wv), .val (.ref es), .val (.int sz)] [(.ref wv), (.int sz), (.ref es)])) rfl rfl (hb hby d_jdk_38_method_24_code_14)
  have N302 := Fr.snoc X302 N0 q5
  have V302 : Arv Z h302 es ke (.object "java/lang/Object") (10 : Int32) (vs.set ix (.ref wv)) .null := Arv.set Ar302 qq302 S302 M302 Hh302 U302 rfl W302 ix hsi hil
  have c303 : Fld Z h302 al "java/util/ArrayList" "size" "I" (.int sz) := (q2.other W302 (Or.inl q6))
  have c304 : Exa Z h302 al "java/util/ArrayList" := (q0.wr W302)
  obtain ⟨T305, h305, X305, e305, W305, st305⟩ := putF X302 hx hZ hown (host := "") (Or.inl (hw _ (List.mem_of_getElem? (i := 76) rfl))) Via.refl e302 c303 c304 (Or.inl (hw _ (List.mem_of_getElem? (i := 77) rfl))) (hw _ (List.mem_of_getElem? (i := 46) rfl)) (ty := .int) (by decide) rfl rfl (g := (mkF m 19 #[.val (.ref al), .val (.ref wv), .val (.ref es), .val (.int sz)] [(.int (sz + (1 : Int32))), (.ref al)])) rfl rfl (hb hby d_jdk_38_method_24_code_19)
  have N305 := Fr.snoc X305 N302 q4
  have F305 : Fld Z h305 al "java/util/ArrayList" "size" "I" (.int (sz + (1 : Int32))) := c303.same W305
  have c306 : Fld Z h305 al "java/util/AbstractList" "modCount" "I" (.int mc) := ((q1.other W302 (Or.inl q6)).other W305 (Or.inr (slot_ne (Or.inl (hw _ (List.mem_of_getElem? (i := 65) rfl))) (Or.inl (hw _ (List.mem_of_getElem? (i := 77) rfl))) (by decide) (t := .int) (t' := .int) (by decide) (by decide))))
  have c307 : Fld Z h305 al "java/util/ArrayList" "elementData" "[Ljava/lang/Object;" (.ref es) := ((q3.other W302 (Or.inl q6)).other W305 (Or.inr (slot_ne (Or.inl (hw _ (List.mem_of_getElem? (i := 68) rfl))) (Or.inl (hw _ (List.mem_of_getElem? (i := 77) rfl))) (by decide) (t := (.array (.object "java/lang/Object"))) (t' := .int) (by decide) (by decide))))
  have c308 : Arv Z h305 es ke (.object "java/lang/Object") (10 : Int32) (vs.set ix (.ref wv)) .null := (V302.other W305 (Ne.symm q6))
  obtain ⟨fs, hr, hrun, hended, hW, hsame⟩ := X305.leave (v := none) (fun _ => rfl)
  refine ⟨_, _, pre0 _ ?_, hrun, hended, _, _, rfl, ?_, ⟨_, rfl⟩, hW, hsame.mono (by decide) (by decide)⟩
  · refine XS.iloadN X0.here hx rfl (hb hby d_jdk_38_method_24_code_0) rfl ?_
    show Steps p.tables e below (s₁.setTop (mkF m 1 #[.val (.ref al), .val (.ref wv), .val (.ref es), .val (.int sz)] [(.int sz)])) _
    refine XS.aloadN X0.here hx rfl (hb hby d_jdk_38_method_24_code_1) rfl rfl ?_
    show Steps p.tables e below (s₁.setTop (mkF m 2 #[.val (.ref al), .val (.ref wv), .val (.ref es), .val (.int sz)] [(.ref es), (.int sz)])) _
    refine X0.arraylength hx (by rw [e0]; exact Ar301.1) (State.isArrayOf_alike hZ.alike Ar301.2.1) (g := (mkF m 2 #[.val (.ref al), .val (.ref wv), .val (.ref es), .val (.int sz)] [(.ref es), (.int sz)])) rfl rfl (hb hby d_jdk_38_method_24_code_2) _ ?_
    rw [len_of S301 M301]
    show Steps p.tables e below (s₁.setTop (mkF m 3 #[.val (.ref al), .val (.ref wv), .val (.ref es), .val (.int sz)] [(.int (10 : Int32)), (.int sz)])) _
    refine XS.icmpYes X0.here hx rfl (pc0 := 3) (pc' := 11) rfl (hb hby d_jdk_38_method_24_code_3) rfl (feq ((fun q => absurd (q ▸ hs1) (by decide)) : ¬ (sz = (10 : Int32)))).2 (by decide) (by decide) ?_
    show Steps p.tables e below (s₁.setTop (mkF m 11 #[.val (.ref al), .val (.ref wv), .val (.ref es), .val (.int sz)] [])) _
    refine XS.aloadN X0.here hx rfl (hb hby d_jdk_38_method_24_code_11) rfl rfl ?_
    show Steps p.tables e below (s₁.setTop (mkF m 12 #[.val (.ref al), .val (.ref wv), .val (.ref es), .val (.int sz)] [(.ref es)])) _
    refine XS.iloadN X0.here hx rfl (hb hby d_jdk_38_method_24_code_12) rfl ?_
    show Steps p.tables e below (s₁.setTop (mkF m 13 #[.val (.ref al), .val (.ref wv), .val (.ref es), .val (.int sz)] [(.int sz), (.ref es)])) _
    refine XS.aloadN X0.here hx rfl (hb hby d_jdk_38_method_24_code_13) rfl rfl ?_
    show Steps p.tables e below (s₁.setTop (mkF m 14 #[.val (.ref al), .val (.ref wv), .val (.ref es), .val (.int sz)] [(.ref wv), (.int sz), (.ref es)])) _
    refine st302 _ ?_
    show Steps p.tables e below (T302.setTop (mkF m 15 #[.val (.ref al), .val (.ref wv), .val (.ref es), .val (.int sz)] [])) _
    refine XS.aloadN X302.here hx rfl (hb hby d_jdk_38_method_24_code_15) rfl rfl ?_
    show Steps p.tables e below (T302.setTop (mkF m 16 #[.val (.ref al), .val (.ref wv), .val (.ref es), .val (.int sz)] [(.ref al)])) _
    refine XS.iloadN X302.here hx rfl (hb hby d_jdk_38_method_24_code_16) rfl ?_
    show Steps p.tables e below (T302.setTop (mkF m 17 #[.val (.ref al), .val (.ref wv), .val (.ref es), .val (.int sz)] [(.int sz), (.ref al)])) _
    refine XS.iconst X302.here hx rfl (hb hby d_jdk_38_method_24_code_17) ?_
    show Steps p.tables e below (T302.setTop (mkF m 18 #[.val (.ref al), .val (.ref wv), .val (.ref es), .val (.int sz)] [(.int (1 : Int32)), (.int sz), (.ref al)])) _
    refine XS.iadd X302.here hx rfl (hb hby d_jdk_38_method_24_code_18) rfl ?_
    show Steps p.tables e below (T302.setTop (mkF m 19 #[.val (.ref al), .val (.ref wv), .val (.ref es), .val (.int sz)] [(.int (sz + (1 : Int32))), (.ref al)])) _
    refine st305 _ ?_
    show Steps p.tables e below (T305.setTop (mkF m 22 #[.val (.ref al), .val (.ref wv), .val (.ref es), .val (.int sz)] [])) _
    exact X305.returnOut hx Bd.returns (hb hby d_jdk_38_method_24_code_22) hr
  · show Q_add3_k Z al wv es ke mc sz ix vs h0 n0 _ T305.heap _
    rw [e305]
    exact ⟨rfl, N305, (((Keep.refl h0 ([al, es] : List Addr)).wr W302 (Or.inl (by simp))).wr W305 (Or.inl (by simp))), c306, F305, c307, c308⟩
def Q_add_k (Z : State) (al : Addr) (wv : Addr) (es : Addr) (ke : ClassId) (mc : Int32) (sz : Int32) (ix : Nat) (vs : List Value) (h0 : Heap) (n0 : Nat) (v : Option Value) (h : Heap) (L : List Loc) : Prop := (v = some (.int (1 : Int32))) ∧ (Fr n0 L) ∧ (Keep h0 h ([al, es] : List Addr)) ∧ (Fld Z h al "java/util/AbstractList" "modCount" "I" (.int (mc + (1 : Int32)))) ∧ (Fld Z h al "java/util/ArrayList" "size" "I" (.int (sz + (1 : Int32)))) ∧ (Fld Z h al "java/util/ArrayList" "elementData" "[Ljava/lang/Object;" (.ref es)) ∧ (Arv Z h es ke (.object "java/lang/Object") (10 : Int32) (vs.set ix (.ref wv)) .null)
set_option maxRecDepth 65536 in
set_option maxHeartbeats 40000000 in
theorem rm_add_k (l : Launch) (Z : State) (a0 : Array Value) (hw : ∀ d ∈ tables_1, d.before a0 Z = true) (ws : List Jvm.Cond) (al : Addr) (wv : Addr) (es : Addr) (ke : ClassId) (mc : Int32) (sz : Int32) (ix : Nat) (vs : List Value) (h0 : Heap) (n0 : Nat) (Z0 : n0 ≤ h0.size) (q0 : Exa Z h0 al "java/util/ArrayList") (q1 : Fld Z h0 al "java/util/AbstractList" "modCount" "I" (.int mc)) (q2 : Fld Z h0 al "java/util/ArrayList" "size" "I" (.int sz)) (q3 : Fld Z h0 al "java/util/ArrayList" "elementData" "[Ljava/lang/Object;" (.ref es)) (q4 : n0 ≤ al) (q5 : n0 ≤ es) (q6 : al ≠ es) (q7 : Arv Z h0 es ke (.object "java/lang/Object") (10 : Int32) vs .null) (q8 : Ovr Z ke "java/lang/Object") (q9 : Exa Z h0 wv "java/lang/String") (hs0 : ¬ (sz < (0 : Int32))) (hs1 : sz < (10 : Int32)) (hsi : sz.toNatClampNeg = ix) (hil : ix < vs.length) :
    MetFree l (⟨"java/util/ArrayList", "add", "(Ljava/lang/Object;)Z"⟩ : MethodName) (head1 (Jvm.Cond.code (⟨"java/util/ArrayList", "add", "(Ljava/lang/Object;)Z"⟩ : MethodName) jdk_38_method_25_code 2 (some .boolean) :: ws) ({ frames := 1, cells := 0, slots := 0, locals := 15 } : Room)) (fun a₁ U₁ => a₁ = #[(.ref al), (.ref wv)] ∧ Z.Warmed39 U₁.vm ∧ U₁.heap = h0) (fun _ _ _ _ _ => True) (fun _ U₁ o₁ U₂ => ∃ v₁ L₁, o₁ = .returned v₁ ∧ Q_add_k Z al wv es ke mc sz ix vs h0 n0 v₁ U₂.heap L₁ ∧ FrameEnd U₁ o₁ U₂ L₁ ({ frames := 1, cells := 0, slots := 0, locals := 15 } : Room).cells ({ frames := 1, cells := 0, slots := 0, locals := 15 } : Room).slots) := by
  refine MetFree.of_bodySF (plainFor_of_name pn_4) hisR ?_
  intro p e s m args below meth c s₁ Bd hml0 hP hK
  obtain ⟨rfl, hZ, hh⟩ := hP
  have hx := Bd.exec
  have hby := Bd.bytes
  have hml : c.maxLocals = 2 := hml0
  have hown : s.vm.findClass "java/util/ArrayList" = some m.cls := findClass_of_methodNamed Bd.named
  have hnm := (name_of_methodNamed Bd.named Bd.method).1
  have X0 : Stand p l e ({ frames := 1, cells := 0, slots := 0, locals := 15 } : Room) s m #[(.ref al), (.ref wv)] below meth c s₁ [] 0 0 := Stand.of_body Bd
  have e0 : s₁.heap = h0 := by rw [← hh, Bd.state]; rfl
  have N0 := Fr.nil n0
  have pre0 : ∀ t, Steps p.tables e below (s₁.setTop (mkF m 0 #[.val (.ref al), .val (.ref wv)] [])) t → Steps p.tables e below (s₁.setTop (entryFrame m #[(.ref al), (.ref wv)] 2)) t := fun t k => castTop (ef_6 m al wv) k
  obtain ⟨T301, X301, e301, st301⟩ := getF X0 hx hZ hown (host := "") (Or.inl (hw _ (List.mem_of_getElem? (i := 74) rfl))) (Via.of (hw _ (List.mem_of_getElem? (i := 75) rfl))) e0 q1 (g := (mkF m 2 #[.val (.ref al), .val (.ref wv)] [(.ref al), (.ref al)])) rfl rfl (hb hby d_jdk_38_method_25_code_2)
  obtain ⟨T302, h302, X302, e302, W302, st302⟩ := putF X301 hx hZ hown (host := "") (Or.inl (hw _ (List.mem_of_getElem? (i := 74) rfl))) (Via.of (hw _ (List.mem_of_getElem? (i := 75) rfl))) e301 q1 q0 (Or.inl (hw _ (List.mem_of_getElem? (i := 65) rfl))) (hw _ (List.mem_of_getElem? (i := 46) rfl)) (ty := .int) (by decide) rfl rfl (g := (mkF m 7 #[.val (.ref al), .val (.ref wv)] [(.int (mc + (1 : Int32))), (.ref al)])) rfl rfl (hb hby d_jdk_38_method_25_code_7)
  have N302 := Fr.snoc X302 N0 q4
  have F302 : Fld Z h302 al "java/util/AbstractList" "modCount" "I" (.int (mc + (1 : Int32))) := q1.same W302
  have c303 : Fld Z h302 al "java/util/ArrayList" "elementData" "[Ljava/lang/Object;" (.ref es) := (q3.other W302 (Or.inr (slot_ne (Or.inl (hw _ (List.mem_of_getElem? (i := 68) rfl))) (Or.inl (hw _ (List.mem_of_getElem? (i := 65) rfl))) (by decide) (t := (.array (.object "java/lang/Object"))) (t' := .int) (by decide) (by decide))))
  obtain ⟨T304, X304, e304, st304⟩ := getF X302 hx hZ hown (host := "") (Or.inl (hw _ (List.mem_of_getElem? (i := 67) rfl))) Via.refl e302 c303 (g := (mkF m 13 #[.val (.ref al), .val (.ref wv)] [(.ref al), (.ref wv), (.ref al)])) rfl rfl (hb hby d_jdk_38_method_25_code_13)
  have c305 : Fld Z h302 al "java/util/ArrayList" "size" "I" (.int sz) := (q2.other W302 (Or.inr (slot_ne (Or.inl (hw _ (List.mem_of_getElem? (i := 77) rfl))) (Or.inl (hw _ (List.mem_of_getElem? (i := 65) rfl))) (by decide) (t := .int) (t' := .int) (by decide) (by decide))))
  obtain ⟨T306, X306, e306, st306⟩ := getF X304 hx hZ hown (host := "") (Or.inl (hw _ (List.mem_of_getElem? (i := 76) rfl))) Via.refl e304 c305 (g := (mkF m 17 #[.val (.ref al), .val (.ref wv)] [(.ref al), (.ref es), (.ref wv), (.ref al)])) rfl rfl (hb hby d_jdk_38_method_25_code_17)
  have c307 : Exa Z h302 al "java/util/ArrayList" := (q0.wr W302)
  have c308 : Arv Z h302 es ke (.object "java/lang/Object") (10 : Int32) vs .null := (q7.other W302 (Ne.symm q6))
  have c309 : Exa Z h302 wv "java/lang/String" := (q9.wr W302)
  obtain ⟨cq310, q310_, q310_'⟩ := c307.cell
  obtain ⟨_, _, ⟨T310, L310, k310, n310⟩, -, X310, ⟨Lc310, hQ310, l310, y310, z310⟩, st310⟩ := X306.privateBack hx (y := (⟨"java/util/ArrayList", "add", "(Ljava/lang/Object;[Ljava/lang/Object;I)V"⟩ : MethodName)) hown (mvT hZ (hw _ (List.mem_of_getElem? (i := 78) rfl))) (mvT hZ (hw _ (List.mem_of_getElem? (i := 79) rfl))) (mvT hZ (hw _ (List.mem_of_getElem? (i := 81) rfl))) (Cond.privateMethod_at (mvP hZ (hw _ (List.mem_of_getElem? (i := 80) rfl)) (args := #[]))) (mvT hZ (hw _ (List.mem_of_getElem? (i := 82) rfl))) (by decide) (backOf (W := 0) (rm_add3_k l Z a0 hw [] al wv es ke (mc + (1 : Int32)) sz ix vs h302 n0 (Nat.le_trans Z0 (Keep.of_wr W302).1) c307 F302 c305 c303 q4 q5 q6 c308 q8 c309 hs0 hs1 hsi hil) hZ (hw _ (List.mem_of_getElem? (i := 82) rfl)) (hw _ (List.mem_of_getElem? (i := 47) rfl)) (by decide) (by decide)) (g := (mkF m 20 #[.val (.ref al), .val (.ref wv)] [(.int sz), (.ref es), (.ref wv), (.ref al)])) rfl (by rw [hml]; rfl) (Steps.refl _) (a := al) (by rw [e306]; exact q310_) q310_' (argsL := [(.ref wv), (.ref es), (.int sz)]) (rest := []) (lenOf pd_7 rfl) rfl (by show 2 * 0 + _ ≤ _; exact Nat.le_of_eq rfl) (hb hby d_jdk_38_method_25_code_20) (fun _ _ => ⟨rfl, e306, (by decide : 0 + 0 ≤ _), (by decide : 0 + 0 ≤ _)⟩)
  dsimp only [Pt.U, Pt.locs, Pt.cells, Pt.slots] at X310 l310 y310 z310 st310 hQ310
  subst l310 y310 z310
  obtain ⟨rfl, Nq310, K310, f310_0, f310_1, f310_2, f310_3⟩ := hQ310
  have N310 := Fr.app N302 Nq310
  obtain ⟨fs, hr, hrun, hended, hW, hsame⟩ := X310.leave (v := some (.int (1 : Int32))) (fun h => by rw [Bd.returns] at h; cases h)
  refine ⟨_, _, pre0 _ ?_, hrun, hended, _, _, rfl, ?_, ⟨_, rfl⟩, hW, hsame.mono (by decide) (by decide)⟩
  · refine XS.aloadN X0.here hx rfl (hb hby d_jdk_38_method_25_code_0) rfl rfl ?_
    show Steps p.tables e below (s₁.setTop (mkF m 1 #[.val (.ref al), .val (.ref wv)] [(.ref al)])) _
    refine XS.dup X0.here hx rfl (hb hby d_jdk_38_method_25_code_1) rfl rfl ?_
    show Steps p.tables e below (s₁.setTop (mkF m 2 #[.val (.ref al), .val (.ref wv)] [(.ref al), (.ref al)])) _
    refine st301 _ ?_
    show Steps p.tables e below (T301.setTop (mkF m 5 #[.val (.ref al), .val (.ref wv)] [(.int mc), (.ref al)])) _
    refine XS.iconst X301.here hx rfl (hb hby d_jdk_38_method_25_code_5) ?_
    show Steps p.tables e below (T301.setTop (mkF m 6 #[.val (.ref al), .val (.ref wv)] [(.int (1 : Int32)), (.int mc), (.ref al)])) _
    refine XS.iadd X301.here hx rfl (hb hby d_jdk_38_method_25_code_6) rfl ?_
    show Steps p.tables e below (T301.setTop (mkF m 7 #[.val (.ref al), .val (.ref wv)] [(.int (mc + (1 : Int32))), (.ref al)])) _
    refine st302 _ ?_
    show Steps p.tables e below (T302.setTop (mkF m 10 #[.val (.ref al), .val (.ref wv)] [])) _
    refine XS.aloadN X302.here hx rfl (hb hby d_jdk_38_method_25_code_10) rfl rfl ?_
    show Steps p.tables e below (T302.setTop (mkF m 11 #[.val (.ref al), .val (.ref wv)] [(.ref al)])) _
    refine XS.aloadN X302.here hx rfl (hb hby d_jdk_38_method_25_code_11) rfl rfl ?_
    show Steps p.tables e below (T302.setTop (mkF m 12 #[.val (.ref al), .val (.ref wv)] [(.ref wv), (.ref al)])) _
    refine XS.aloadN X302.here hx rfl (hb hby d_jdk_38_method_25_code_12) rfl rfl ?_
    show Steps p.tables e below (T302.setTop (mkF m 13 #[.val (.ref al), .val (.ref wv)] [(.ref al), (.ref wv), (.ref al)])) _
    refine st304 _ ?_
    show Steps p.tables e below (T304.setTop (mkF m 16 #[.val (.ref al), .val (.ref wv)] [(.ref es), (.ref wv), (.ref al)])) _
    refine XS.aloadN X304.here hx rfl (hb hby d_jdk_38_method_25_code_16) rfl rfl ?_
    show Steps p.tables e below (T304.setTop (mkF m 17 #[.val (.ref al), .val (.ref wv)] [(.ref al), (.ref es), (.ref wv), (.ref al)])) _
    refine st306 _ ?_
    show Steps p.tables e below (T306.setTop (mkF m 20 #[.val (.ref al), .val (.ref wv)] [(.int sz), (.ref es), (.ref wv), (.ref al)])) _
    refine st310.trans ?_
    show Steps p.tables e below (T310.setTop (mkF m 23 #[.val (.ref al), .val (.ref wv)] [])) _
    refine XS.iconst X310.here hx rfl (hb hby d_jdk_38_method_25_code_23) ?_
    show Steps p.tables e below (T310.setTop (mkF m 24 #[.val (.ref al), .val (.ref wv)] [(.int (1 : Int32))])) _
    exact retN X310 hx (t := .boolean) Bd.returns (by simp) (hb hby d_jdk_38_method_25_code_24) hr
  · show Q_add_k Z al wv es ke mc sz ix vs h0 n0 _ T310.heap _
    exact ⟨rfl, N310, (((Keep.refl h0 ([al, es] : List Addr)).wr W302 (Or.inl (by simp))).trans K310 (allS (Or.inl (by simp)) (allS (Or.inl (by simp)) all0))), f310_0, f310_1, f310_2, f310_3⟩
theorem d_jdk_30_method_1_code_0 : decode jdk_30_method_1_code 0 = .ok (.aload_n 0, 1) := by decide +kernel
theorem d_jdk_30_method_1_code_1 : decode jdk_30_method_1_code 1 = .ok (.invokespecial 1, 3) := by decide +kernel
theorem d_jdk_30_method_1_code_4 : decode jdk_30_method_1_code 4 = .ok (.return_, 1) := by decide +kernel
theorem pn_5 : plainName "java/lang/Record" = true := by first | (simp [plainName, overriddenIn]; done) | decide +kernel
def Q_rec (Z : State) (al : Addr) (h0 : Heap) (n0 : Nat) (v : Option Value) (h : Heap) (L : List Loc) : Prop := (v = none) ∧ (Fr n0 L) ∧ (h = h0)
set_option maxRecDepth 65536 in
set_option maxHeartbeats 40000000 in
theorem rm_rec (l : Launch) (Z : State) (a0 : Array Value) (hw : ∀ d ∈ tables_1, d.before a0 Z = true) (ws : List Jvm.Cond) (al : Addr) (h0 : Heap) (n0 : Nat) (Z0 : n0 ≤ h0.size) :
    MetFree l (⟨"java/lang/Record", "<init>", "()V"⟩ : MethodName) (head1 (Jvm.Cond.code (⟨"java/lang/Record", "<init>", "()V"⟩ : MethodName) jdk_30_method_1_code 1 none :: ws) ({ frames := 1, cells := 0, slots := 0, locals := 12 } : Room)) (fun a₁ U₁ => a₁ = #[(.ref al)] ∧ Z.Warmed39 U₁.vm ∧ U₁.heap = h0) (fun _ _ _ _ _ => True) (fun _ U₁ o₁ U₂ => ∃ v₁ L₁, o₁ = .returned v₁ ∧ Q_rec Z al h0 n0 v₁ U₂.heap L₁ ∧ FrameEnd U₁ o₁ U₂ L₁ ({ frames := 1, cells := 0, slots := 0, locals := 12 } : Room).cells ({ frames := 1, cells := 0, slots := 0, locals := 12 } : Room).slots) := by
  refine MetFree.of_bodySF (plainFor_of_name pn_5) hisR ?_
  intro p e s m args below meth c s₁ Bd hml0 hP hK
  obtain ⟨rfl, hZ, hh⟩ := hP
  have hx := Bd.exec
  have hby := Bd.bytes
  have hml : c.maxLocals = 1 := hml0
  have hown : s.vm.findClass "java/lang/Record" = some m.cls := findClass_of_methodNamed Bd.named
  have hnm := (name_of_methodNamed Bd.named Bd.method).1
  have X0 : Stand p l e ({ frames := 1, cells := 0, slots := 0, locals := 12 } : Room) s m #[(.ref al)] below meth c s₁ [] 0 0 := Stand.of_body Bd
  have e0 : s₁.heap = h0 := by rw [← hh, Bd.state]; rfl
  have N0 := Fr.nil n0
  have pre0 : ∀ t, Steps p.tables e below (s₁.setTop (mkF m 0 #[.val (.ref al)] [])) t → Steps p.tables e below (s₁.setTop (entryFrame m #[(.ref al)] 1)) t := fun t k => castTop (ef_2 m al) k
  obtain ⟨T301, X301, e301, st301⟩ := initO X0 hx hZ hown (hw _ (List.mem_of_getElem? (i := 111) rfl)) (hw _ (List.mem_of_getElem? (i := 20) rfl)) (hw _ (List.mem_of_getElem? (i := 21) rfl)) e0 (g := (mkF m 1 #[.val (.ref al)] [(.ref al)])) rfl (by rw [hml]; rfl) rfl (hb hby d_jdk_30_method_1_code_1) (by decide) (W := 0) (by show 2 * 0 + _ ≤ _; exact Nat.le_of_eq rfl) (by decide)
  obtain ⟨fs, hr, hrun, hended, hW, hsame⟩ := X301.leave (v := none) (fun _ => rfl)
  refine ⟨_, _, pre0 _ ?_, hrun, hended, _, _, rfl, ?_, ⟨_, rfl⟩, hW, hsame.mono (by decide) (by decide)⟩
  · refine XS.aloadN X0.here hx rfl (hb hby d_jdk_30_method_1_code_0) rfl rfl ?_
    show Steps p.tables e below (s₁.setTop (mkF m 1 #[.val (.ref al)] [(.ref al)])) _
    refine st301 _ ?_
    show Steps p.tables e below (T301.setTop (mkF m 4 #[.val (.ref al)] [])) _
    exact X301.returnOut hx Bd.returns (hb hby d_jdk_30_method_1_code_4) hr
  · show Q_rec Z al h0 n0 _ T301.heap _
    rw [e301]
    exact ⟨rfl, N0, rfl⟩
theorem d_prog_19_method_1_code_0 : decode prog_19_method_1_code 0 = .ok (.aload_n 0, 1) := by decide +kernel
theorem d_prog_19_method_1_code_1 : decode prog_19_method_1_code 1 = .ok (.invokespecial 1, 3) := by decide +kernel
theorem d_prog_19_method_1_code_4 : decode prog_19_method_1_code 4 = .ok (.aload_n 0, 1) := by decide +kernel
theorem d_prog_19_method_1_code_5 : decode prog_19_method_1_code 5 = .ok (.aload_n 1, 1) := by decide +kernel
theorem d_prog_19_method_1_code_6 : decode prog_19_method_1_code 6 = .ok (.putfield 7, 3) := by decide +kernel
theorem d_prog_19_method_1_code_9 : decode prog_19_method_1_code 9 = .ok (.aload_n 0, 1) := by decide +kernel
theorem d_prog_19_method_1_code_10 : decode prog_19_method_1_code 10 = .ok (.aload_n 2, 1) := by decide +kernel
theorem d_prog_19_method_1_code_11 : decode prog_19_method_1_code 11 = .ok (.putfield 13, 3) := by decide +kernel
theorem d_prog_19_method_1_code_14 : decode prog_19_method_1_code 14 = .ok (.return_, 1) := by decide +kernel
theorem ef_7 (m : MethodId) (x0 : Addr) (x1 : Addr) : entryFrame m #[(.ref x0), (.ref x1), .null] 3 = mkF m 0 #[.val (.ref x0), .val (.ref x1), .val .null] [] := by first | (simp [entryFrame, mkF, argsToLocals, Value.category]; done) | rfl
theorem pn_6 : plainName "com/example/rowscribe/rowscribe/cli/CommandLine" = true := by first | (simp [plainName, overriddenIn]; done) | decide +kernel
def Q_clinit (Z : State) (xl : Addr) (al : Addr) (h0 : Heap) (n0 : Nat) (v : Option Value) (h : Heap) (L : List Loc) : Prop := (v = none) ∧ (Fr n0 L) ∧ (Keep h0 h ([xl] : List Addr)) ∧ (Fld Z h xl "com/example/rowscribe/rowscribe/cli/CommandLine" "words" "Ljava/util/List;" (.ref al))
set_option maxRecDepth 65536 in
set_option maxHeartbeats 40000000 in
theorem rm_clinit (l : Launch) (Z : State) (a0 : Array Value) (hw : ∀ d ∈ tables_1, d.before a0 Z = true) (ws : List Jvm.Cond) (xl : Addr) (al : Addr) (h0 : Heap) (n0 : Nat) (Z0 : n0 ≤ h0.size) (q0 : Exa Z h0 xl "com/example/rowscribe/rowscribe/cli/CommandLine") (q1 : Fld Z h0 xl "com/example/rowscribe/rowscribe/cli/CommandLine" "words" "Ljava/util/List;" .null) (q2 : Fld Z h0 xl "com/example/rowscribe/rowscribe/cli/CommandLine" "options" "Ljava/util/Map;" .null) (q3 : n0 ≤ xl) :
    MetFree l (⟨"com/example/rowscribe/rowscribe/cli/CommandLine", "<init>", "(Ljava/util/List;Ljava/util/Map;)V"⟩ : MethodName) (head1 (Jvm.Cond.code (⟨"com/example/rowscribe/rowscribe/cli/CommandLine", "<init>", "(Ljava/util/List;Ljava/util/Map;)V"⟩ : MethodName) prog_19_method_1_code 3 none :: ws) ({ frames := 2, cells := 0, slots := 0, locals := 24 } : Room)) (fun a₁ U₁ => a₁ = #[(.ref xl), (.ref al), .null] ∧ Z.Warmed39 U₁.vm ∧ U₁.heap = h0) (fun _ _ _ _ _ => True) (fun _ U₁ o₁ U₂ => ∃ v₁ L₁, o₁ = .returned v₁ ∧ Q_clinit Z xl al h0 n0 v₁ U₂.heap L₁ ∧ FrameEnd U₁ o₁ U₂ L₁ ({ frames := 2, cells := 0, slots := 0, locals := 24 } : Room).cells ({ frames := 2, cells := 0, slots := 0, locals := 24 } : Room).slots) := by
  refine MetFree.of_bodySF (plainFor_of_name pn_6) hisR ?_
  intro p e s m args below meth c s₁ Bd hml0 hP hK
  obtain ⟨rfl, hZ, hh⟩ := hP
  have hx := Bd.exec
  have hby := Bd.bytes
  have hml : c.maxLocals = 3 := hml0
  have hown : s.vm.findClass "com/example/rowscribe/rowscribe/cli/CommandLine" = some m.cls := findClass_of_methodNamed Bd.named
  have hnm := (name_of_methodNamed Bd.named Bd.method).1
  have X0 : Stand p l e ({ frames := 2, cells := 0, slots := 0, locals := 24 } : Room) s m #[(.ref xl), (.ref al), .null] below meth c s₁ [] 0 0 := Stand.of_body Bd
  have e0 : s₁.heap = h0 := by rw [← hh, Bd.state]; rfl
  have N0 := Fr.nil n0
  have pre0 : ∀ t, Steps p.tables e below (s₁.setTop (mkF m 0 #[.val (.ref xl), .val (.ref al), .val .null] [])) t → Steps p.tables e below (s₁.setTop (entryFrame m #[(.ref xl), (.ref al), .null] 3)) t := fun t k => castTop (ef_7 m xl al) k
  obtain ⟨_, _, ⟨T301, L301, k301, n301⟩, -, X301, ⟨Lc301, hQ301, l301, y301, z301⟩, st301⟩ := X0.specialBack hx (y := (⟨"java/lang/Record", "<init>", "()V"⟩ : MethodName)) rfl hown (mvT hZ (hw _ (List.mem_of_getElem? (i := 106) rfl))) (mvT hZ (hw _ (List.mem_of_getElem? (i := 107) rfl))) (mvT hZ (hw _ (List.mem_of_getElem? (i := 110) rfl))) (by decide) (backOf (W := 0) (rm_rec l Z a0 hw [] xl h0 n0 Z0 ) hZ (hw _ (List.mem_of_getElem? (i := 110) rfl)) (hw _ (List.mem_of_getElem? (i := 109) rfl)) (by decide) (by decide)) (g := (mkF m 1 #[.val (.ref xl), .val (.ref al), .val .null] [(.ref xl)])) rfl (by rw [hml]; rfl) (Steps.refl _) (a := xl) (argsL := []) (rest := []) (lenOf pd_3 rfl) rfl (by show 2 * 0 + _ ≤ _; exact Nat.le_of_eq rfl) (hb hby d_prog_19_method_1_code_1) (fun _ _ => ⟨rfl, e0, (by decide : 0 + 0 ≤ _), (by decide : 0 + 0 ≤ _)⟩)
  dsimp only [Pt.U, Pt.locs, Pt.cells, Pt.slots] at X301 l301 y301 z301 st301 hQ301
  subst l301 y301 z301
  obtain ⟨rfl, Nq301, e301⟩ := hQ301
  have N301 := Fr.app N0 Nq301
  obtain ⟨T302, h302, X302, e302, W302, st302⟩ := putF X301 hx hZ hown (host := "") (Or.inl (hw _ (List.mem_of_getElem? (i := 112) rfl))) Via.refl e301 q1 q0 (Or.inr ⟨(hw _ (List.mem_of_getElem? (i := 113) rfl)), rfl, hnm⟩) (hw _ (List.mem_of_getElem? (i := 101) rfl)) (ty := (.object "java/util/List")) (by decide) rfl rfl (g := (mkF m 6 #[.val (.ref xl), .val (.ref al), .val .null] [(.ref al), (.ref xl)])) rfl rfl (hb hby d_prog_19_method_1_code_6)
  have N302 := Fr.snoc X302 N301 q3
  have F302 : Fld Z h302 xl "com/example/rowscribe/rowscribe/cli/CommandLine" "words" "Ljava/util/List;" (.ref al) := q1.same W302
  have c303 : Fld Z h302 xl "com/example/rowscribe/rowscribe/cli/CommandLine" "options" "Ljava/util/Map;" .null := (q2.other W302 (Or.inr (slot_ne (Or.inr (hw _ (List.mem_of_getElem? (i := 115) rfl))) (Or.inr (hw _ (List.mem_of_getElem? (i := 113) rfl))) (by decide) (t := (.object "java/util/Map")) (t' := (.object "java/util/List")) (by decide) (by decide))))
  have c304 : Exa Z h302 xl "com/example/rowscribe/rowscribe/cli/CommandLine" := (q0.wr W302)
  obtain ⟨T305, h305, X305, e305, W305, st305⟩ := putF X302 hx hZ hown (host := "") (Or.inl (hw _ (List.mem_of_getElem? (i := 114) rfl))) Via.refl e302 c303 c304 (Or.inr ⟨(hw _ (List.mem_of_getElem? (i := 115) rfl)), rfl, hnm⟩) (hw _ (List.mem_of_getElem? (i := 101) rfl)) (ty := (.object "java/util/Map")) (by decide) rfl rfl (g := (mkF m 11 #[.val (.ref xl), .val (.ref al), .val .null] [.null, (.ref xl)])) rfl rfl (hb hby d_prog_19_method_1_code_11)
  have N305 := Fr.snoc X305 N302 q3
  have F305 : Fld Z h305 xl "com/example/rowscribe/rowscribe/cli/CommandLine" "options" "Ljava/util/Map;" .null := c303.same W305
  have c306 : Fld Z h305 xl "com/example/rowscribe/rowscribe/cli/CommandLine" "words" "Ljava/util/List;" (.ref al) := (F302.other W305 (Or.inr (slot_ne (Or.inr (hw _ (List.mem_of_getElem? (i := 113) rfl))) (Or.inr (hw _ (List.mem_of_getElem? (i := 115) rfl))) (by decide) (t := (.object "java/util/List")) (t' := (.object "java/util/Map")) (by decide) (by decide))))
  obtain ⟨fs, hr, hrun, hended, hW, hsame⟩ := X305.leave (v := none) (fun _ => rfl)
  refine ⟨_, _, pre0 _ ?_, hrun, hended, _, _, rfl, ?_, ⟨_, rfl⟩, hW, hsame.mono (by decide) (by decide)⟩
  · refine XS.aloadN X0.here hx rfl (hb hby d_prog_19_method_1_code_0) rfl rfl ?_
    show Steps p.tables e below (s₁.setTop (mkF m 1 #[.val (.ref xl), .val (.ref al), .val .null] [(.ref xl)])) _
    refine st301.trans ?_
    show Steps p.tables e below (T301.setTop (mkF m 4 #[.val (.ref xl), .val (.ref al), .val .null] [])) _
    refine XS.aloadN X301.here hx rfl (hb hby d_prog_19_method_1_code_4) rfl rfl ?_
    show Steps p.tables e below (T301.setTop (mkF m 5 #[.val (.ref xl), .val (.ref al), .val .null] [(.ref xl)])) _
    refine XS.aloadN X301.here hx rfl (hb hby d_prog_19_method_1_code_5) rfl rfl ?_
    show Steps p.tables e below (T301.setTop (mkF m 6 #[.val (.ref xl), .val (.ref al), .val .null] [(.ref al), (.ref xl)])) _
    refine st302 _ ?_
    show Steps p.tables e below (T302.setTop (mkF m 9 #[.val (.ref xl), .val (.ref al), .val .null] [])) _
    refine XS.aloadN X302.here hx rfl (hb hby d_prog_19_method_1_code_9) rfl rfl ?_
    show Steps p.tables e below (T302.setTop (mkF m 10 #[.val (.ref xl), .val (.ref al), .val .null] [(.ref xl)])) _
    refine XS.aloadN X302.here hx rfl (hb hby d_prog_19_method_1_code_10) rfl rfl ?_
    show Steps p.tables e below (T302.setTop (mkF m 11 #[.val (.ref xl), .val (.ref al), .val .null] [.null, (.ref xl)])) _
    refine st305 _ ?_
    show Steps p.tables e below (T305.setTop (mkF m 14 #[.val (.ref xl), .val (.ref al), .val .null] [])) _
    exact X305.returnOut hx Bd.returns (hb hby d_prog_19_method_1_code_14) hr
  · show Q_clinit Z xl al h0 n0 _ T305.heap _
    rw [e305]
    exact ⟨rfl, N305, (((Keep.refl h0 ([xl] : List Addr)).wr W302 (Or.inl (by simp))).wr W305 (Or.inl (by simp))), c306⟩
theorem d_jdk_41_method_11_code_0 : decode jdk_41_method_11_code 0 = .ok (.iload_n 0, 1) := by decide +kernel
theorem d_jdk_41_method_11_code_1 : decode jdk_41_method_11_code 1 = .ok (.ifCond .lt 8, 3) := by decide +kernel
theorem d_jdk_41_method_11_code_4 : decode jdk_41_method_11_code 4 = .ok (.iload_n 0, 1) := by decide +kernel
theorem d_jdk_41_method_11_code_5 : decode jdk_41_method_11_code 5 = .ok (.iload_n 1, 1) := by decide +kernel
theorem d_jdk_41_method_11_code_6 : decode jdk_41_method_11_code 6 = .ok (.if_icmp .lt 10, 3) := by decide +kernel
theorem d_jdk_41_method_11_code_16 : decode jdk_41_method_11_code 16 = .ok (.iload_n 0, 1) := by decide +kernel
theorem d_jdk_41_method_11_code_17 : decode jdk_41_method_11_code 17 = .ok (.ireturn, 1) := by decide +kernel
theorem ef_8 (m : MethodId) (x0 : Int32) (x1 : Int32) : entryFrame m #[(.int x0), (.int x1), .null] 3 = mkF m 0 #[.val (.int x0), .val (.int x1), .val .null] [] := by first | (simp [entryFrame, mkF, argsToLocals, Value.category]; done) | rfl
theorem pn_7 : plainName "jdk/internal/util/Preconditions" = true := by first | (simp [plainName, overriddenIn]; done) | decide +kernel
def Q_pci (Z : State) (ii : Int32) (sz : Int32) (h0 : Heap) (n0 : Nat) (v : Option Value) (h : Heap) (L : List Loc) : Prop := (v = some (.int ii)) ∧ (Fr n0 L) ∧ (h = h0)
set_option maxRecDepth 65536 in
set_option maxHeartbeats 40000000 in
theorem rm_pci (l : Launch) (Z : State) (a0 : Array Value) (hw : ∀ d ∈ tables_1, d.before a0 Z = true) (ws : List Jvm.Cond) (ii : Int32) (sz : Int32) (h0 : Heap) (n0 : Nat) (Z0 : n0 ≤ h0.size) (hi0 : ¬ (ii < (0 : Int32))) (his : ii < sz) :
    MetFree l (⟨"jdk/internal/util/Preconditions", "checkIndex", "(IILjava/util/function/BiFunction;)I"⟩ : MethodName) (head1 (Jvm.Cond.code (⟨"jdk/internal/util/Preconditions", "checkIndex", "(IILjava/util/function/BiFunction;)I"⟩ : MethodName) jdk_41_method_11_code 3 (some .int) :: ws) ({ frames := 0, cells := 0, slots := 0, locals := 0 } : Room)) (fun a₁ U₁ => a₁ = #[(.int ii), (.int sz), .null] ∧ Z.Warmed39 U₁.vm ∧ U₁.heap = h0) (fun _ _ _ _ _ => True) (fun _ U₁ o₁ U₂ => ∃ v₁ L₁, o₁ = .returned v₁ ∧ Q_pci Z ii sz h0 n0 v₁ U₂.heap L₁ ∧ FrameEnd U₁ o₁ U₂ L₁ ({ frames := 0, cells := 0, slots := 0, locals := 0 } : Room).cells ({ frames := 0, cells := 0, slots := 0, locals := 0 } : Room).slots) := by
  refine MetFree.of_bodySF (plainFor_of_name pn_7) hisR ?_
  intro p e s m args below meth c s₁ Bd hml0 hP hK
  obtain ⟨rfl, hZ, hh⟩ := hP
  have hx := Bd.exec
  have hby := Bd.bytes
  have hml : c.maxLocals = 3 := hml0
  have hown : s.vm.findClass "jdk/internal/util/Preconditions" = some m.cls := findClass_of_methodNamed Bd.named
  have hnm := (name_of_methodNamed Bd.named Bd.method).1
  have X0 : Stand p l e ({ frames := 0, cells := 0, slots := 0, locals := 0 } : Room) s m #[(.int ii), (.int sz), .null] below meth c s₁ [] 0 0 := Stand.of_body Bd
  have e0 : s₁.heap = h0 := by rw [← hh, Bd.state]; rfl
  have N0 := Fr.nil n0
  have pre0 : ∀ t, Steps p.tables e below (s₁.setTop (mkF m 0 #[.val (.int ii), .val (.int sz), .val .null] [])) t → Steps p.tables e below (s₁.setTop (entryFrame m #[(.int ii), (.int sz), .null] 3)) t := fun t k => castTop (ef_8 m ii sz) k
  obtain ⟨fs, hr, hrun, hended, hW, hsame⟩ := X0.leave (v := some (.int ii)) (fun h => by rw [Bd.returns] at h; cases h)
  refine ⟨_, _, pre0 _ ?_, hrun, hended, _, _, rfl, ?_, ⟨_, rfl⟩, hW, hsame.mono (by decide) (by decide)⟩
  · refine XS.iloadN X0.here hx rfl (hb hby d_jdk_41_method_11_code_0) rfl ?_
    show Steps p.tables e below (s₁.setTop (mkF m 1 #[.val (.int ii), .val (.int sz), .val .null] [(.int ii)])) _
    refine XS.ifNo X0.here hx rfl (hb hby d_jdk_41_method_11_code_1) rfl ((if0 _ _).trans (flt (hi0 : ¬ (ii < (0 : Int32)))).1) ?_
    show Steps p.tables e below (s₁.setTop (mkF m 4 #[.val (.int ii), .val (.int sz), .val .null] [])) _
    refine XS.iloadN X0.here hx rfl (hb hby d_jdk_41_method_11_code_4) rfl ?_
    show Steps p.tables e below (s₁.setTop (mkF m 5 #[.val (.int ii), .val (.int sz), .val .null] [(.int ii)])) _
    refine XS.iloadN X0.here hx rfl (hb hby d_jdk_41_method_11_code_5) rfl ?_
    show Steps p.tables e below (s₁.setTop (mkF m 6 #[.val (.int ii), .val (.int sz), .val .null] [(.int sz), (.int ii)])) _
    refine XS.icmpYes X0.here hx rfl (pc0 := 6) (pc' := 16) rfl (hb hby d_jdk_41_method_11_code_6) rfl (tlt (his : ii < sz)).1 (by decide) (by decide) ?_
    show Steps p.tables e below (s₁.setTop (mkF m 16 #[.val (.int ii), .val (.int sz), .val .null] [])) _
    refine XS.iloadN X0.here hx rfl (hb hby d_jdk_41_method_11_code_16) rfl ?_
    show Steps p.tables e below (s₁.setTop (mkF m 17 #[.val (.int ii), .val (.int sz), .val .null] [(.int ii)])) _
    exact retI X0 hx Bd.returns (hb hby d_jdk_41_method_11_code_17) hr
  · show Q_pci Z ii sz h0 n0 _ s₁.heap _
    rw [e0]
    exact ⟨rfl, N0, rfl⟩
theorem d_jdk_31_method_17_code_0 : decode jdk_31_method_17_code 0 = .ok (.iload_n 0, 1) := by decide +kernel
theorem d_jdk_31_method_17_code_1 : decode jdk_31_method_17_code 1 = .ok (.iload_n 1, 1) := by decide +kernel
theorem d_jdk_31_method_17_code_2 : decode jdk_31_method_17_code 2 = .ok (.aconst_null, 1) := by decide +kernel
theorem d_jdk_31_method_17_code_3 : decode jdk_31_method_17_code 3 = .ok (.invokestatic 105, 3) := by decide +kernel
theorem pd_8 : parseMethodDescriptor "(IILjava/util/function/BiFunction;)I" = some ⟨[.int, .int, (.object "java/util/function/BiFunction")], some .int⟩ := by decide +kernel
theorem d_jdk_31_method_17_code_6 : decode jdk_31_method_17_code 6 = .ok (.ireturn, 1) := by decide +kernel
theorem pn_8 : plainName "java/util/Objects" = true := by first | (simp [plainName, overriddenIn]; done) | decide +kernel
def Q_oci (Z : State) (ii : Int32) (sz : Int32) (h0 : Heap) (n0 : Nat) (v : Option Value) (h : Heap) (L : List Loc) : Prop := (v = some (.int ii)) ∧ (Fr n0 L) ∧ (h = h0)
set_option maxRecDepth 65536 in
set_option maxHeartbeats 40000000 in
theorem rm_oci (l : Launch) (Z : State) (a0 : Array Value) (hw : ∀ d ∈ tables_1, d.before a0 Z = true) (ws : List Jvm.Cond) (ii : Int32) (sz : Int32) (h0 : Heap) (n0 : Nat) (Z0 : n0 ≤ h0.size) (hi0 : ¬ (ii < (0 : Int32))) (his : ii < sz) :
    MetFree l (⟨"java/util/Objects", "checkIndex", "(II)I"⟩ : MethodName) (head1 (Jvm.Cond.code (⟨"java/util/Objects", "checkIndex", "(II)I"⟩ : MethodName) jdk_31_method_17_code 2 (some .int) :: ws) ({ frames := 1, cells := 0, slots := 0, locals := 14 } : Room)) (fun a₁ U₁ => a₁ = #[(.int ii), (.int sz)] ∧ Z.Warmed39 U₁.vm ∧ U₁.heap = h0) (fun _ _ _ _ _ => True) (fun _ U₁ o₁ U₂ => ∃ v₁ L₁, o₁ = .returned v₁ ∧ Q_oci Z ii sz h0 n0 v₁ U₂.heap L₁ ∧ FrameEnd U₁ o₁ U₂ L₁ ({ frames := 1, cells := 0, slots := 0, locals := 14 } : Room).cells ({ frames := 1, cells := 0, slots := 0, locals := 14 } : Room).slots) := by
  refine MetFree.of_bodySF (plainFor_of_name pn_8) hisR ?_
  intro p e s m args below meth c s₁ Bd hml0 hP hK
  obtain ⟨rfl, hZ, hh⟩ := hP
  have hx := Bd.exec
  have hby := Bd.bytes
  have hml : c.maxLocals = 2 := hml0
  have hown : s.vm.findClass "java/util/Objects" = some m.cls := findClass_of_methodNamed Bd.named
  have hnm := (name_of_methodNamed Bd.named Bd.method).1
  have X0 : Stand p l e ({ frames := 1, cells := 0, slots := 0, locals := 14 } : Room) s m #[(.int ii), (.int sz)] below meth c s₁ [] 0 0 := Stand.of_body Bd
  have e0 : s₁.heap = h0 := by rw [← hh, Bd.state]; rfl
  have N0 := Fr.nil n0
  have pre0 : ∀ t, Steps p.tables e below (s₁.setTop (mkF m 0 #[.val (.int ii), .val (.int sz)] [])) t → Steps p.tables e below (s₁.setTop (entryFrame m #[(.int ii), (.int sz)] 2)) t := fun t k => castTop (ef_3 m ii sz) k
  obtain ⟨_, _, ⟨T301, L301, k301, n301⟩, -, X301, ⟨Lc301, hQ301, l301, y301, z301⟩, st301⟩ := Jvm.LawKit.callS X0 hx (y := (⟨"jdk/internal/util/Preconditions", "checkIndex", "(IILjava/util/function/BiFunction;)I"⟩ : MethodName)) hown (mvT hZ (hw _ (List.mem_of_getElem? (i := 134) rfl))) (mvT hZ (hw _ (List.mem_of_getElem? (i := 135) rfl))) (mvT hZ (hw _ (List.mem_of_getElem? (i := 136) rfl))) (mvT hZ (hw _ (List.mem_of_getElem? (i := 137) rfl))) (by decide) (backOf (W := 0) (rm_pci l Z a0 hw [] ii sz h0 n0 Z0 hi0 his) hZ (hw _ (List.mem_of_getElem? (i := 137) rfl)) (hw _ (List.mem_of_getElem? (i := 136) rfl)) (by decide) (by decide)) (g := (mkF m 3 #[.val (.int ii), .val (.int sz)] [.null, (.int sz), (.int ii)])) rfl (by rw [hml]; rfl) (argsL := [(.int ii), (.int sz), .null]) (rest := []) (lenOf pd_8 rfl) rfl (by show 2 * 0 + _ ≤ _; exact Nat.le_of_eq rfl) (hb hby d_jdk_31_method_17_code_3) (fun _ _ => ⟨rfl, e0, (by decide : 0 + 0 ≤ _), (by decide : 0 + 0 ≤ _)⟩)
  dsimp only [Pt.U, Pt.locs, Pt.cells, Pt.slots] at X301 l301 y301 z301 st301 hQ301
  subst l301 y301 z301
  obtain ⟨rfl, Nq301, e301⟩ := hQ301
  have N301 := Fr.app N0 Nq301
  obtain ⟨fs, hr, hrun, hended, hW, hsame⟩ := X301.leave (v := some (.int ii)) (fun h => by rw [Bd.returns] at h; cases h)
  refine ⟨_, _, pre0 _ ?_, hrun, hended, _, _, rfl, ?_, ⟨_, rfl⟩, hW, hsame.mono (by decide) (by decide)⟩
  · refine XS.iloadN X0.here hx rfl (hb hby d_jdk_31_method_17_code_0) rfl ?_
    show Steps p.tables e below (s₁.setTop (mkF m 1 #[.val (.int ii), .val (.int sz)] [(.int ii)])) _
    refine XS.iloadN X0.here hx rfl (hb hby d_jdk_31_method_17_code_1) rfl ?_
    show Steps p.tables e below (s₁.setTop (mkF m 2 #[.val (.int ii), .val (.int sz)] [(.int sz), (.int ii)])) _
    refine XS.aconstNull X0.here hx rfl (hb hby d_jdk_31_method_17_code_2) ?_
    show Steps p.tables e below (s₁.setTop (mkF m 3 #[.val (.int ii), .val (.int sz)] [.null, (.int sz), (.int ii)])) _
    refine st301 _ ?_
    show Steps p.tables e below (T301.setTop (mkF m 6 #[.val (.int ii), .val (.int sz)] [(.int ii)])) _
    exact retI X301 hx Bd.returns (hb hby d_jdk_31_method_17_code_6) hr
  · show Q_oci Z ii sz h0 n0 _ T301.heap _
    rw [e301]
    exact ⟨rfl, N301, rfl⟩
theorem d_jdk_38_method_18_code_0 : decode jdk_38_method_18_code 0 = .ok (.aload_n 0, 1) := by decide +kernel
theorem d_jdk_38_method_18_code_1 : decode jdk_38_method_18_code 1 = .ok (.getfield 9, 3) := by decide +kernel
theorem d_jdk_38_method_18_code_4 : decode jdk_38_method_18_code 4 = .ok (.iload_n 1, 1) := by decide +kernel
theorem d_jdk_38_method_18_code_5 : decode jdk_38_method_18_code 5 = .ok (.aaload, 1) := by decide +kernel
theorem d_jdk_38_method_18_code_6 : decode jdk_38_method_18_code 6 = .ok (.areturn, 1) := by decide +kernel
theorem ef_9 (m : MethodId) (x0 : Addr) (x1 : Int32) : entryFrame m #[(.ref x0), (.int x1)] 2 = mkF m 0 #[.val (.ref x0), .val (.int x1)] [] := by first | (simp [entryFrame, mkF, argsToLocals, Value.category]; done) | rfl
def Q_eld (Z : State) (al : Addr) (ii : Int32) (es : Addr) (ke : ClassId) (vs : List Value) (wv : Addr) (h0 : Heap) (n0 : Nat) (v : Option Value) (h : Heap) (L : List Loc) : Prop := (v = some (.ref wv)) ∧ (Fr n0 L) ∧ (h = h0)
set_option maxRecDepth 65536 in
set_option maxHeartbeats 40000000 in
theorem rm_eld (l : Launch) (Z : State) (a0 : Array Value) (hw : ∀ d ∈ tables_1, d.before a0 Z = true) (ws : List Jvm.Cond) (al : Addr) (ii : Int32) (es : Addr) (ke : ClassId) (vs : List Value) (wv : Addr) (h0 : Heap) (n0 : Nat) (Z0 : n0 ≤ h0.size) (q0 : Fld Z h0 al "java/util/ArrayList" "elementData" "[Ljava/lang/Object;" (.ref es)) (q1 : Arv Z h0 es ke (.object "java/lang/Object") (10 : Int32) vs .null) (hi0 : ¬ (ii < (0 : Int32))) (hi10 : ii < (10 : Int32)) (hat : vs.getD ii.toNatClampNeg .null = .ref wv) :
    MetFree l (⟨"java/util/ArrayList", "elementData", "(I)Ljava/lang/Object;"⟩ : MethodName) (head1 (Jvm.Cond.code (⟨"java/util/ArrayList", "elementData", "(I)Ljava/lang/Object;"⟩ : MethodName) jdk_38_method_18_code 2 (some (.object "java/lang/Object")) :: ws) ({ frames := 0, cells := 0, slots := 0, locals := 0 } : Room)) (fun a₁ U₁ => a₁ = #[(.ref al), (.int ii)] ∧ Z.Warmed39 U₁.vm ∧ U₁.heap = h0) (fun _ _ _ _ _ => True) (fun _ U₁ o₁ U₂ => ∃ v₁ L₁, o₁ = .returned v₁ ∧ Q_eld Z al ii es ke vs wv h0 n0 v₁ U₂.heap L₁ ∧ FrameEnd U₁ o₁ U₂ L₁ ({ frames := 0, cells := 0, slots := 0, locals := 0 } : Room).cells ({ frames := 0, cells := 0, slots := 0, locals := 0 } : Room).slots) := by
  refine MetFree.of_bodySF (plainFor_of_name pn_4) hisR ?_
  intro p e s m args below meth c s₁ Bd hml0 hP hK
  obtain ⟨rfl, hZ, hh⟩ := hP
  have hx := Bd.exec
  have hby := Bd.bytes
  have hml : c.maxLocals = 2 := hml0
  have hown : s.vm.findClass "java/util/ArrayList" = some m.cls := findClass_of_methodNamed Bd.named
  have hnm := (name_of_methodNamed Bd.named Bd.method).1
  have X0 : Stand p l e ({ frames := 0, cells := 0, slots := 0, locals := 0 } : Room) s m #[(.ref al), (.int ii)] below meth c s₁ [] 0 0 := Stand.of_body Bd
  have e0 : s₁.heap = h0 := by rw [← hh, Bd.state]; rfl
  have N0 := Fr.nil n0
  have pre0 : ∀ t, Steps p.tables e below (s₁.setTop (mkF m 0 #[.val (.ref al), .val (.int ii)] [])) t → Steps p.tables e below (s₁.setTop (entryFrame m #[(.ref al), (.int ii)] 2)) t := fun t k => castTop (ef_9 m al ii) k
  obtain ⟨T301, X301, e301, st301⟩ := getF X0 hx hZ hown (host := "") (Or.inl (hw _ (List.mem_of_getElem? (i := 67) rfl))) Via.refl e0 q0 (g := (mkF m 1 #[.val (.ref al), .val (.int ii)] [(.ref al)])) rfl rfl (hb hby d_jdk_38_method_18_code_1)
  obtain ⟨cl302, Ar302, qq302, S302, M302, Hh302, U302⟩ := id q1
  have ib302 : ¬ (ii < 0 ∨ cl302.slots.size ≤ (ii).toNatClampNeg) := inb_of S302 ⟨hi0, hi10⟩
  obtain ⟨fs, hr, hrun, hended, hW, hsame⟩ := X301.leave (v := some (.ref wv)) (fun h => by rw [Bd.returns] at h; cases h)
  refine ⟨_, _, pre0 _ ?_, hrun, hended, _, _, rfl, ?_, ⟨_, rfl⟩, hW, hsame.mono (by decide) (by decide)⟩
  · refine XS.aloadN X0.here hx rfl (hb hby d_jdk_38_method_18_code_0) rfl rfl ?_
    show Steps p.tables e below (s₁.setTop (mkF m 1 #[.val (.ref al), .val (.int ii)] [(.ref al)])) _
    refine st301 _ ?_
    show Steps p.tables e below (T301.setTop (mkF m 4 #[.val (.ref al), .val (.int ii)] [(.ref es)])) _
    refine XS.iloadN X301.here hx rfl (hb hby d_jdk_38_method_18_code_4) rfl ?_
    show Steps p.tables e below (T301.setTop (mkF m 5 #[.val (.ref al), .val (.int ii)] [(.int ii), (.ref es)])) _
    refine X301.aaload hx (j := ii) (v := (.ref wv)) (by rw [e301]; exact Ar302.1) (State.isArrayOf_alike hZ.alike Ar302.2.1) rfl Ar302.2.2 ib302 (Hh302.at ib302 hat) (g := (mkF m 5 #[.val (.ref al), .val (.int ii)] [(.int ii), (.ref es)])) rfl rfl (hb hby d_jdk_38_method_18_code_5) _ ?_
    show Steps p.tables e below (T301.setTop (mkF m 6 #[.val (.ref al), .val (.int ii)] [(.ref wv)])) _
    jvm_step X301.here [X301.here.top, hx, (hb hby d_jdk_38_method_18_code_6), X301.method', Bd.returns, Value.isRef, FieldType.isReference]
    first | (intro acts; rw [hr _ acts rfl rfl rfl]) | rw [hr _ _ rfl rfl rfl]
    exact Steps.refl _
  · show Q_eld Z al ii es ke vs wv h0 n0 _ T301.heap _
    rw [e301]
    exact ⟨rfl, N0, rfl⟩
theorem d_jdk_38_method_20_code_0 : decode jdk_38_method_20_code 0 = .ok (.iload_n 1, 1) := by decide +kernel
theorem d_jdk_38_method_20_code_1 : decode jdk_38_method_20_code 1 = .ok (.aload_n 0, 1) := by decide +kernel
theorem d_jdk_38_method_20_code_2 : decode jdk_38_method_20_code 2 = .ok (.getfield 48, 3) := by decide +kernel
theorem d_jdk_38_method_20_code_5 : decode jdk_38_method_20_code 5 = .ok (.invokestatic 118, 3) := by decide +kernel
theorem d_jdk_38_method_20_code_8 : decode jdk_38_method_20_code 8 = .ok (.pop, 1) := by decide +kernel
theorem d_jdk_38_method_20_code_9 : decode jdk_38_method_20_code 9 = .ok (.aload_n 0, 1) := by decide +kernel
theorem d_jdk_38_method_20_code_10 : decode jdk_38_method_20_code 10 = .ok (.iload_n 1, 1) := by decide +kernel
theorem d_jdk_38_method_20_code_11 : decode jdk_38_method_20_code 11 = .ok (.invokevirtual 123, 3) := by decide +kernel
theorem pd_9 : parseMethodDescriptor "(I)Ljava/lang/Object;" = some ⟨[.int], some (.object "java/lang/Object")⟩ := by decide +kernel
theorem d_jdk_38_method_20_code_14 : decode jdk_38_method_20_code 14 = .ok (.areturn, 1) := by decide +kernel
def Q_get (Z : State) (al : Addr) (ii : Int32) (es : Addr) (ke : ClassId) (sz : Int32) (vs : List Value) (wv : Addr) (h0 : Heap) (n0 : Nat) (v : Option Value) (h : Heap) (L : List Loc) : Prop := (v = some (.ref wv)) ∧ (Fr n0 L) ∧ (h = h0)
set_option maxRecDepth 65536 in
set_option maxHeartbeats 40000000 in
theorem rm_get (l : Launch) (Z : State) (a0 : Array Value) (hw : ∀ d ∈ tables_1, d.before a0 Z = true) (ws : List Jvm.Cond) (al : Addr) (ii : Int32) (es : Addr) (ke : ClassId) (sz : Int32) (vs : List Value) (wv : Addr) (h0 : Heap) (n0 : Nat) (Z0 : n0 ≤ h0.size) (q0 : Exa Z h0 al "java/util/ArrayList") (q1 : Fld Z h0 al "java/util/ArrayList" "elementData" "[Ljava/lang/Object;" (.ref es)) (q2 : Fld Z h0 al "java/util/ArrayList" "size" "I" (.int sz)) (q3 : Arv Z h0 es ke (.object "java/lang/Object") (10 : Int32) vs .null) (hi0 : ¬ (ii < (0 : Int32))) (his : ii < sz) (hi10 : ii < (10 : Int32)) (hat : vs.getD ii.toNatClampNeg .null = .ref wv) :
    MetFree l (⟨"java/util/ArrayList", "get", "(I)Ljava/lang/Object;"⟩ : MethodName) (head1 (Jvm.Cond.code (⟨"java/util/ArrayList", "get", "(I)Ljava/lang/Object;"⟩ : MethodName) jdk_38_method_20_code 2 (some (.object "java/lang/Object")) :: ws) ({ frames := 2, cells := 0, slots := 0, locals := 27 } : Room)) (fun a₁ U₁ => a₁ = #[(.ref al), (.int ii)] ∧ Z.Warmed39 U₁.vm ∧ U₁.heap = h0) (fun _ _ _ _ _ => True) (fun _ U₁ o₁ U₂ => ∃ v₁ L₁, o₁ = .returned v₁ ∧ Q_get Z al ii es ke sz vs wv h0 n0 v₁ U₂.heap L₁ ∧ FrameEnd U₁ o₁ U₂ L₁ ({ frames := 2, cells := 0, slots := 0, locals := 27 } : Room).cells ({ frames := 2, cells := 0, slots := 0, locals := 27 } : Room).slots) := by
  refine MetFree.of_bodySF (plainFor_of_name pn_4) hisR ?_
  intro p e s m args below meth c s₁ Bd hml0 hP hK
  obtain ⟨rfl, hZ, hh⟩ := hP
  have hx := Bd.exec
  have hby := Bd.bytes
  have hml : c.maxLocals = 2 := hml0
  have hown : s.vm.findClass "java/util/ArrayList" = some m.cls := findClass_of_methodNamed Bd.named
  have hnm := (name_of_methodNamed Bd.named Bd.method).1
  have X0 : Stand p l e ({ frames := 2, cells := 0, slots := 0, locals := 27 } : Room) s m #[(.ref al), (.int ii)] below meth c s₁ [] 0 0 := Stand.of_body Bd
  have e0 : s₁.heap = h0 := by rw [← hh, Bd.state]; rfl
  have N0 := Fr.nil n0
  have pre0 : ∀ t, Steps p.tables e below (s₁.setTop (mkF m 0 #[.val (.ref al), .val (.int ii)] [])) t → Steps p.tables e below (s₁.setTop (entryFrame m #[(.ref al), (.int ii)] 2)) t := fun t k => castTop (ef_9 m al ii) k
  obtain ⟨T301, X301, e301, st301⟩ := getF X0 hx hZ hown (host := "") (Or.inl (hw _ (List.mem_of_getElem? (i := 76) rfl))) Via.refl e0 q2 (g := (mkF m 2 #[.val (.ref al), .val (.int ii)] [(.ref al), (.int ii)])) rfl rfl (hb hby d_jdk_38_method_20_code_2)
  obtain ⟨_, _, ⟨T302, L302, k302, n302⟩, -, X302, ⟨Lc302, hQ302, l302, y302, z302⟩, st302⟩ := Jvm.LawKit.callS X301 hx (y := (⟨"java/util/Objects", "checkIndex", "(II)I"⟩ : MethodName)) hown (mvT hZ (hw _ (List.mem_of_getElem? (i := 130) rfl))) (mvT hZ (hw _ (List.mem_of_getElem? (i := 131) rfl))) (mvT hZ (hw _ (List.mem_of_getElem? (i := 132) rfl))) (mvT hZ (hw _ (List.mem_of_getElem? (i := 133) rfl))) (by decide) (backOf (W := 0) (rm_oci l Z a0 hw [] ii sz h0 n0 Z0 hi0 his) hZ (hw _ (List.mem_of_getElem? (i := 133) rfl)) (hw _ (List.mem_of_getElem? (i := 132) rfl)) (by decide) (by decide)) (g := (mkF m 5 #[.val (.ref al), .val (.int ii)] [(.int sz), (.int ii)])) rfl (by rw [hml]; rfl) (argsL := [(.int ii), (.int sz)]) (rest := []) (lenOf pd_4 rfl) rfl (by show 2 * 0 + _ ≤ _; exact Nat.le_of_eq rfl) (hb hby d_jdk_38_method_20_code_5) (fun _ _ => ⟨rfl, e301, (by decide : 0 + 0 ≤ _), (by decide : 0 + 0 ≤ _)⟩)
  dsimp only [Pt.U, Pt.locs, Pt.cells, Pt.slots] at X302 l302 y302 z302 st302 hQ302
  subst l302 y302 z302
  obtain ⟨rfl, Nq302, e302⟩ := hQ302
  have N302 := Fr.app N0 Nq302
  obtain ⟨cq303, kq303, q303a, q303b, q303c⟩ := isOf hZ e302 q0
  obtain ⟨_, _, ⟨T303, L303, k303, n303⟩, -, X303, ⟨Lc303, hQ303, l303, y303, z303⟩, st303⟩ := X302.virtualBack hx (y := (⟨"java/util/ArrayList", "elementData", "(I)Ljava/lang/Object;"⟩ : MethodName)) (z := (⟨"java/util/ArrayList", "elementData", "(I)Ljava/lang/Object;"⟩ : MethodName)) hown (mvT hZ (hw _ (List.mem_of_getElem? (i := 138) rfl))) (mvT hZ (hw _ (List.mem_of_getElem? (i := 139) rfl))) (notFace_of_selects (args := #[]) (mvT hZ (hw _ (List.mem_of_getElem? (i := 141) rfl)))) (mvT hZ (hw _ (List.mem_of_getElem? (i := 141) rfl))) (mvT hZ (hw _ (List.mem_of_getElem? (i := 140) rfl))) (by decide) (backOf (W := 0) (rm_eld l Z a0 hw [] al ii es ke vs wv h0 n0 Z0 q1 q3 hi0 hi10 hat) hZ (hw _ (List.mem_of_getElem? (i := 142) rfl)) (hw _ (List.mem_of_getElem? (i := 47) rfl)) (by decide) (by decide)) q303a q303c (g := (mkF m 11 #[.val (.ref al), .val (.int ii)] [(.int ii), (.ref al)])) rfl (by rw [hml]; rfl) (Steps.refl _) (argsL := [(.int ii)]) (rest := []) (lenOf pd_9 rfl) rfl (by show 2 * 0 + _ ≤ _; exact Nat.le_of_eq rfl) (hb hby d_jdk_38_method_20_code_11) (fun _ _ => ⟨rfl, e302, (by decide : 0 + 0 ≤ _), (by decide : 0 + 0 ≤ _)⟩)
  dsimp only [Pt.U, Pt.locs, Pt.cells, Pt.slots] at X303 l303 y303 z303 st303 hQ303
  subst l303 y303 z303
  obtain ⟨rfl, Nq303, e303⟩ := hQ303
  have N303 := Fr.app N302 Nq303
  obtain ⟨fs, hr, hrun, hended, hW, hsame⟩ := X303.leave (v := some (.ref wv)) (fun h => by rw [Bd.returns] at h; cases h)
  refine ⟨_, _, pre0 _ ?_, hrun, hended, _, _, rfl, ?_, ⟨_, rfl⟩, hW, hsame.mono (by decide) (by decide)⟩
  · refine XS.iloadN X0.here hx rfl (hb hby d_jdk_38_method_20_code_0) rfl ?_
    show Steps p.tables e below (s₁.setTop (mkF m 1 #[.val (.ref al), .val (.int ii)] [(.int ii)])) _
    refine XS.aloadN X0.here hx rfl (hb hby d_jdk_38_method_20_code_1) rfl rfl ?_
    show Steps p.tables e below (s₁.setTop (mkF m 2 #[.val (.ref al), .val (.int ii)] [(.ref al), (.int ii)])) _
    refine st301 _ ?_
    show Steps p.tables e below (T301.setTop (mkF m 5 #[.val (.ref al), .val (.int ii)] [(.int sz), (.int ii)])) _
    refine st302 _ ?_
    show Steps p.tables e below (T302.setTop (mkF m 8 #[.val (.ref al), .val (.int ii)] [(.int ii)])) _
    refine XS.pop X302.here hx rfl (hb hby d_jdk_38_method_20_code_8) rfl rfl ?_
    show Steps p.tables e below (T302.setTop (mkF m 9 #[.val (.ref al), .val (.int ii)] [])) _
    refine XS.aloadN X302.here hx rfl (hb hby d_jdk_38_method_20_code_9) rfl rfl ?_
    show Steps p.tables e below (T302.setTop (mkF m 10 #[.val (.ref al), .val (.int ii)] [(.ref al)])) _
    refine XS.iloadN X302.here hx rfl (hb hby d_jdk_38_method_20_code_10) rfl ?_
    show Steps p.tables e below (T302.setTop (mkF m 11 #[.val (.ref al), .val (.int ii)] [(.int ii), (.ref al)])) _
    refine st303.trans ?_
    show Steps p.tables e below (T303.setTop (mkF m 14 #[.val (.ref al), .val (.int ii)] [(.ref wv)])) _
    jvm_step X303.here [X303.here.top, hx, (hb hby d_jdk_38_method_20_code_14), X303.method', Bd.returns, Value.isRef, FieldType.isReference]
    first | (intro acts; rw [hr _ acts rfl rfl rfl]) | rw [hr _ _ rfl rfl rfl]
    exact Steps.refl _
  · show Q_get Z al ii es ke sz vs wv h0 n0 _ T303.heap _
    rw [e303]
    exact ⟨rfl, N303, rfl⟩
theorem d_prog_19_method_4_code_0 : decode prog_19_method_4_code 0 = .ok (.aload_n 0, 1) := by decide +kernel
theorem d_prog_19_method_4_code_1 : decode prog_19_method_4_code 1 = .ok (.getfield 7, 3) := by decide +kernel
theorem d_prog_19_method_4_code_4 : decode prog_19_method_4_code 4 = .ok (.iload_n 1, 1) := by decide +kernel
theorem d_prog_19_method_4_code_5 : decode prog_19_method_4_code 5 = .ok (.invokeinterface 110 2, 5) := by decide +kernel
theorem d_prog_19_method_4_code_10 : decode prog_19_method_4_code 10 = .ok (.checkcast 43, 3) := by decide +kernel
theorem d_prog_19_method_4_code_13 : decode prog_19_method_4_code 13 = .ok (.areturn, 1) := by decide +kernel
def Q_word (Z : State) (xl : Addr) (al : Addr) (ii : Int32) (es : Addr) (ke : ClassId) (sz : Int32) (vs : List Value) (wv : Addr) (h0 : Heap) (n0 : Nat) (v : Option Value) (h : Heap) (L : List Loc) : Prop := (v = some (.ref wv)) ∧ (Fr n0 L) ∧ (h = h0)
set_option maxRecDepth 65536 in
set_option maxHeartbeats 40000000 in
theorem rm_word (l : Launch) (Z : State) (a0 : Array Value) (hw : ∀ d ∈ tables_1, d.before a0 Z = true) (ws : List Jvm.Cond) (xl : Addr) (al : Addr) (ii : Int32) (es : Addr) (ke : ClassId) (sz : Int32) (vs : List Value) (wv : Addr) (h0 : Heap) (n0 : Nat) (Z0 : n0 ≤ h0.size) (q0 : Fld Z h0 xl "com/example/rowscribe/rowscribe/cli/CommandLine" "words" "Ljava/util/List;" (.ref al)) (q1 : Exa Z h0 al "java/util/ArrayList") (q2 : Fld Z h0 al "java/util/ArrayList" "elementData" "[Ljava/lang/Object;" (.ref es)) (q3 : Fld Z h0 al "java/util/ArrayList" "size" "I" (.int sz)) (q4 : Arv Z h0 es ke (.object "java/lang/Object") (10 : Int32) vs .null) (hi0 : ¬ (ii < (0 : Int32))) (his : ii < sz) (hi10 : ii < (10 : Int32)) (hat : vs.getD ii.toNatClampNeg .null = .ref wv) (q9 : Exa Z h0 wv "java/lang/String") :
    MetFree l (⟨"com/example/rowscribe/rowscribe/cli/CommandLine", "word", "(I)Ljava/lang/String;"⟩ : MethodName) (head1 (Jvm.Cond.code (⟨"com/example/rowscribe/rowscribe/cli/CommandLine", "word", "(I)Ljava/lang/String;"⟩ : MethodName) prog_19_method_4_code 2 (some (.object "java/lang/String")) :: ws) ({ frames := 3, cells := 0, slots := 0, locals := 40 } : Room)) (fun a₁ U₁ => a₁ = #[(.ref xl), (.int ii)] ∧ Z.Warmed39 U₁.vm ∧ U₁.heap = h0) (fun _ _ _ _ _ => True) (fun _ U₁ o₁ U₂ => ∃ v₁ L₁, o₁ = .returned v₁ ∧ Q_word Z xl al ii es ke sz vs wv h0 n0 v₁ U₂.heap L₁ ∧ FrameEnd U₁ o₁ U₂ L₁ ({ frames := 3, cells := 0, slots := 0, locals := 40 } : Room).cells ({ frames := 3, cells := 0, slots := 0, locals := 40 } : Room).slots) := by
  refine MetFree.of_bodySF (plainFor_of_name pn_6) hisR ?_
  intro p e s m args below meth c s₁ Bd hml0 hP hK
  obtain ⟨rfl, hZ, hh⟩ := hP
  have hx := Bd.exec
  have hby := Bd.bytes
  have hml : c.maxLocals = 2 := hml0
  have hown : s.vm.findClass "com/example/rowscribe/rowscribe/cli/CommandLine" = some m.cls := findClass_of_methodNamed Bd.named
  have hnm := (name_of_methodNamed Bd.named Bd.method).1
  have X0 : Stand p l e ({ frames := 3, cells := 0, slots := 0, locals := 40 } : Room) s m #[(.ref xl), (.int ii)] below meth c s₁ [] 0 0 := Stand.of_body Bd
  have e0 : s₁.heap = h0 := by rw [← hh, Bd.state]; rfl
  have N0 := Fr.nil n0
  have pre0 : ∀ t, Steps p.tables e below (s₁.setTop (mkF m 0 #[.val (.ref xl), .val (.int ii)] [])) t → Steps p.tables e below (s₁.setTop (entryFrame m #[(.ref xl), (.int ii)] 2)) t := fun t k => castTop (ef_9 m xl ii) k
  obtain ⟨T301, X301, e301, st301⟩ := getF X0 hx hZ hown (host := "") (Or.inl (hw _ (List.mem_of_getElem? (i := 112) rfl))) Via.refl e0 q0 (g := (mkF m 1 #[.val (.ref xl), .val (.int ii)] [(.ref xl)])) rfl rfl (hb hby d_prog_19_method_4_code_1)
  obtain ⟨cq302, kq302, q302a, q302b, q302c⟩ := isOf hZ e301 q1
  obtain ⟨_, _, ⟨T302, L302, k302, n302⟩, -, X302, ⟨Lc302, hQ302, l302, y302, z302⟩, st302⟩ := X301.interfaceBack hx (xi := (⟨"java/util/List", "get", "(I)Ljava/lang/Object;"⟩ : MethodName)) (y := (⟨"java/util/ArrayList", "get", "(I)Ljava/lang/Object;"⟩ : MethodName)) hown (mvT hZ (hw _ (List.mem_of_getElem? (i := 121) rfl))) (mvT hZ (hw _ (List.mem_of_getElem? (i := 122) rfl))) (mvT hZ (hw _ (List.mem_of_getElem? (i := 123) rfl))) (mvT hZ (hw _ (List.mem_of_getElem? (i := 124) rfl))) (mvT hZ (hw _ (List.mem_of_getElem? (i := 125) rfl))) (mvT hZ (hw _ (List.mem_of_getElem? (i := 126) rfl))) (mvT hZ (hw _ (List.mem_of_getElem? (i := 127) rfl))) (mvT hZ (hw _ (List.mem_of_getElem? (i := 128) rfl))) (by decide) (backOf (W := 0) (rm_get l Z a0 hw [] al ii es ke sz vs wv h0 n0 Z0 q1 q2 q3 q4 hi0 his hi10 hat) hZ (hw _ (List.mem_of_getElem? (i := 129) rfl)) (hw _ (List.mem_of_getElem? (i := 47) rfl)) (by decide) (by decide)) q302a q302b q302c (g := (mkF m 5 #[.val (.ref xl), .val (.int ii)] [(.int ii), (.ref al)])) rfl (by rw [hml]; rfl) (Steps.refl _) (argsL := [(.int ii)]) (rest := []) (lenOf pd_9 rfl) rfl (by show 2 * 0 + _ ≤ _; exact Nat.le_of_eq rfl) (hb hby d_prog_19_method_4_code_5) (fun _ _ => ⟨rfl, e301, (by decide : 0 + 0 ≤ _), (by decide : 0 + 0 ≤ _)⟩)
  dsimp only [Pt.U, Pt.locs, Pt.cells, Pt.slots] at X302 l302 y302 z302 st302 hQ302
  subst l302 y302 z302
  obtain ⟨rfl, Nq302, e302⟩ := hQ302
  have N302 := Fr.app N0 Nq302
  obtain ⟨T303, X303, e303, st303⟩ := castY X302 hx hZ hown (hw _ (List.mem_of_getElem? (i := 143) rfl)) e302 (Ins.self q9) (g := (mkF m 10 #[.val (.ref xl), .val (.int ii)] [(.ref wv)])) rfl rfl (hb hby d_prog_19_method_4_code_10)
  obtain ⟨fs, hr, hrun, hended, hW, hsame⟩ := X303.leave (v := some (.ref wv)) (fun h => by rw [Bd.returns] at h; cases h)
  refine ⟨_, _, pre0 _ ?_, hrun, hended, _, _, rfl, ?_, ⟨_, rfl⟩, hW, hsame.mono (by decide) (by decide)⟩
  · refine XS.aloadN X0.here hx rfl (hb hby d_prog_19_method_4_code_0) rfl rfl ?_
    show Steps p.tables e below (s₁.setTop (mkF m 1 #[.val (.ref xl), .val (.int ii)] [(.ref xl)])) _
    refine st301 _ ?_
    show Steps p.tables e below (T301.setTop (mkF m 4 #[.val (.ref xl), .val (.int ii)] [(.ref al)])) _
    refine XS.iloadN X301.here hx rfl (hb hby d_prog_19_method_4_code_4) rfl ?_
    show Steps p.tables e below (T301.setTop (mkF m 5 #[.val (.ref xl), .val (.int ii)] [(.int ii), (.ref al)])) _
    refine st302.trans ?_
    show Steps p.tables e below (T302.setTop (mkF m 10 #[.val (.ref xl), .val (.int ii)] [(.ref wv)])) _
    refine st303 _ ?_
    show Steps p.tables e below (T303.setTop (mkF m 13 #[.val (.ref xl), .val (.int ii)] [(.ref wv)])) _
    jvm_step X303.here [X303.here.top, hx, (hb hby d_prog_19_method_4_code_13), X303.method', Bd.returns, Value.isRef, FieldType.isReference]
    first | (intro acts; rw [hr _ acts rfl rfl rfl]) | rw [hr _ _ rfl rfl rfl]
    exact Steps.refl _
  · show Q_word Z xl al ii es ke sz vs wv h0 n0 _ T303.heap _
    rw [e303]
    exact ⟨rfl, N302, rfl⟩
theorem d_jdk_42_method_66_code_0 : decode jdk_42_method_66_code 0 = .ok (.aload_n 0, 1) := by decide +kernel
theorem d_jdk_42_method_66_code_1 : decode jdk_42_method_66_code 1 = .ok (.aload_n 1, 1) := by decide +kernel
theorem d_jdk_42_method_66_code_2 : decode jdk_42_method_66_code 2 = .ok (.if_acmp .ne 5, 3) := by decide +kernel
theorem d_jdk_42_method_66_code_5 : decode jdk_42_method_66_code 5 = .ok (.iconst 1, 1) := by decide +kernel
theorem d_jdk_42_method_66_code_6 : decode jdk_42_method_66_code 6 = .ok (.ireturn, 1) := by decide +kernel
theorem ef_10 (m : MethodId) (x0 : Addr) (x1 : Addr) : entryFrame m #[(.ref x0), (.ref x1)] 3 = mkF m 0 #[.val (.ref x0), .val (.ref x1), .unset] [] := by first | (simp [entryFrame, mkF, argsToLocals, Value.category]; done) | rfl
def Q_eqS (Z : State) (xs : Addr) (h0 : Heap) (n0 : Nat) (v : Option Value) (h : Heap) (L : List Loc) : Prop := (v = some (.int (1 : Int32))) ∧ (Fr n0 L) ∧ (h = h0)
set_option maxRecDepth 65536 in
set_option maxHeartbeats 40000000 in
theorem rm_eqS (l : Launch) (Z : State) (a0 : Array Value) (hw : ∀ d ∈ tables_1, d.before a0 Z = true) (ws : List Jvm.Cond) (xs : Addr) (h0 : Heap) (n0 : Nat) (Z0 : n0 ≤ h0.size) :
    MetFree l (⟨"java/lang/String", "equals", "(Ljava/lang/Object;)Z"⟩ : MethodName) (head1 (Jvm.Cond.code (⟨"java/lang/String", "equals", "(Ljava/lang/Object;)Z"⟩ : MethodName) jdk_42_method_66_code 3 (some .boolean) :: ws) ({ frames := 0, cells := 0, slots := 0, locals := 0 } : Room)) (fun a₁ U₁ => a₁ = #[(.ref xs), (.ref xs)] ∧ Z.Warmed39 U₁.vm ∧ U₁.heap = h0) (fun _ _ _ _ _ => True) (fun _ U₁ o₁ U₂ => ∃ v₁ L₁, o₁ = .returned v₁ ∧ Q_eqS Z xs h0 n0 v₁ U₂.heap L₁ ∧ FrameEnd U₁ o₁ U₂ L₁ ({ frames := 0, cells := 0, slots := 0, locals := 0 } : Room).cells ({ frames := 0, cells := 0, slots := 0, locals := 0 } : Room).slots) := by
  refine MetFree.of_bodySF (plainFor_of_name pn_1) hisR ?_
  intro p e s m args below meth c s₁ Bd hml0 hP hK
  obtain ⟨rfl, hZ, hh⟩ := hP
  have hx := Bd.exec
  have hby := Bd.bytes
  have hml : c.maxLocals = 3 := hml0
  have hown : s.vm.findClass "java/lang/String" = some m.cls := findClass_of_methodNamed Bd.named
  have hnm := (name_of_methodNamed Bd.named Bd.method).1
  have X0 : Stand p l e ({ frames := 0, cells := 0, slots := 0, locals := 0 } : Room) s m #[(.ref xs), (.ref xs)] below meth c s₁ [] 0 0 := Stand.of_body Bd
  have e0 : s₁.heap = h0 := by rw [← hh, Bd.state]; rfl
  have N0 := Fr.nil n0
  have pre0 : ∀ t, Steps p.tables e below (s₁.setTop (mkF m 0 #[.val (.ref xs), .val (.ref xs), .unset] [])) t → Steps p.tables e below (s₁.setTop (entryFrame m #[(.ref xs), (.ref xs)] 3)) t := fun t k => castTop (ef_10 m xs xs) k
  obtain ⟨fs, hr, hrun, hended, hW, hsame⟩ := X0.leave (v := some (.int (1 : Int32))) (fun h => by rw [Bd.returns] at h; cases h)
  refine ⟨_, _, pre0 _ ?_, hrun, hended, _, _, rfl, ?_, ⟨_, rfl⟩, hW, hsame.mono (by decide) (by decide)⟩
  · refine XS.aloadN X0.here hx rfl (hb hby d_jdk_42_method_66_code_0) rfl rfl ?_
    show Steps p.tables e below (s₁.setTop (mkF m 1 #[.val (.ref xs), .val (.ref xs), .unset] [(.ref xs)])) _
    refine XS.aloadN X0.here hx rfl (hb hby d_jdk_42_method_66_code_1) rfl rfl ?_
    show Steps p.tables e below (s₁.setTop (mkF m 2 #[.val (.ref xs), .val (.ref xs), .unset] [(.ref xs), (.ref xs)])) _
    refine Jvm.RoadKit.acmp (g := (mkF m 2 #[.val (.ref xs), .val (.ref xs), .unset] [(.ref xs), (.ref xs)])) X0 hx rfl rfl rfl (pc0 := 2) (pc' := 5) (same := true) rfl (hb hby d_jdk_42_method_66_code_2) rfl (decide_eq_true rfl) (by decide) (by decide) ?_
    show Steps p.tables e below (s₁.setTop (mkF m 5 #[.val (.ref xs), .val (.ref xs), .unset] [])) _
    refine XS.iconst X0.here hx rfl (hb hby d_jdk_42_method_66_code_5) ?_
    show Steps p.tables e below (s₁.setTop (mkF m 6 #[.val (.ref xs), .val (.ref xs), .unset] [(.int (1 : Int32))])) _
    exact retN X0 hx (t := .boolean) Bd.returns (by simp) (hb hby d_jdk_42_method_66_code_6) hr
  · show Q_eqS Z xs h0 n0 _ s₁.heap _
    rw [e0]
    exact ⟨rfl, N0, rfl⟩
theorem pd_10 : parseMethodDescriptor "(C)Ljava/lang/String;" = some ⟨[.char], some (.object "java/lang/String")⟩ := by decide +kernel
theorem pd_11 : parseMethodDescriptor "([C)V" = some ⟨[(.array .char)], none⟩ := by decide +kernel
theorem pd_12 : parseMethodDescriptor "(Ljava/lang/Object;)Z" = some ⟨[(.object "java/lang/Object")], some .boolean⟩ := by decide +kernel
theorem pd_13 : parseMethodDescriptor "(Ljava/util/List;Ljava/util/Map;)V" = some ⟨[(.object "java/util/List"), (.object "java/util/Map")], none⟩ := by decide +kernel
theorem pd_14 : parseMethodDescriptor "(I)Ljava/lang/String;" = some ⟨[.int], some (.object "java/lang/String")⟩ := by decide +kernel
theorem ef_11 (m : MethodId) (x0 : Int32) (x1 : Int32) (x2 : Int32) (x3 : Int32) (x4 : Int32) : entryFrame m #[(.int x0), (.int x1), (.int x2), (.int x3), (.int x4)] maxLocals = mkF m 0 #[.val (.int x0), .val (.int x1), .val (.int x2), .val (.int x3), .val (.int x4), .unset, .unset, .unset, .unset, .unset, .unset, .unset, .unset, .unset] [] := by first | (simp [entryFrame, mkF, argsToLocals, Value.category, maxLocals]; done) | rfl
theorem pn_9 : plainName "com/example/rowscribe/rowscribe/cli/CommandLineWordPinLaw" = true := by first | (simp [plainName, overriddenIn]; done) | decide +kernel
def Q_law (Z : State) (i0 : Int32) (i1 : Int32) (i2 : Int32) (i3 : Int32) (i4 : Int32) (G : Int32) (dd : Addr) (kd : ClassId) (h0 : Heap) (n0 : Nat) (v : Option Value) (h : Heap) (L : List Loc) : Prop := (v = some (.int (1 : Int32))) ∧ (Fr n0 L)
set_option maxRecDepth 65536 in
set_option maxHeartbeats 40000000 in
theorem rm_law (l : Launch) (Z : State) (a0 : Array Value) (hw : ∀ d ∈ tables_1, d.before a0 Z = true) (ws : List Jvm.Cond) (i0 : Int32) (i1 : Int32) (i2 : Int32) (i3 : Int32) (i4 : Int32) (G : Int32) (dd : Addr) (kd : ClassId) (h0 : Heap) (n0 : Nat) (Z0 : n0 ≤ h0.size) (q0 : Sta Z Z.heap "java/lang/String" "COMPACT_STRINGS" "Z" (.int G)) (hCS : ¬ (G = (0 : Int32))) (q2 : Sta Z Z.heap "java/util/ArrayList" "DEFAULTCAPACITY_EMPTY_ELEMENTDATA" "[Ljava/lang/Object;" (.ref dd)) (q3 : Arv Z Z.heap dd kd (.object "java/lang/Object") (0 : Int32) [] .null) (q4 : Old Z n0 h0) :
    MetFree l x (head1 (Jvm.Cond.code x code maxLocals ret :: ws) room_1) (fun a₁ U₁ => a₁ = #[(.int i0), (.int i1), (.int i2), (.int i3), (.int i4)] ∧ Z.Warmed39 U₁.vm ∧ U₁.heap = h0) (fun _ _ _ _ _ => True) (fun _ U₁ o₁ U₂ => ∃ v₁ L₁, o₁ = .returned v₁ ∧ Q_law Z i0 i1 i2 i3 i4 G dd kd h0 n0 v₁ U₂.heap L₁ ∧ FrameEnd U₁ o₁ U₂ L₁ room_1.cells room_1.slots) := by
  refine MetFree.of_bodySF (plainFor_of_name pn_9) hisR ?_
  intro p e s m args below meth c s₁ Bd hml0 hP hK
  obtain ⟨rfl, hZ, hh⟩ := hP
  have hx := Bd.exec
  have hby := Bd.bytes
  have hml : c.maxLocals = 14 := hml0
  have hown : s.vm.findClass "com/example/rowscribe/rowscribe/cli/CommandLineWordPinLaw" = some m.cls := findClass_of_methodNamed Bd.named
  have hnm := (name_of_methodNamed Bd.named Bd.method).1
  have X0 : Stand p l e room_1 s m #[(.int i0), (.int i1), (.int i2), (.int i3), (.int i4)] below meth c s₁ [] 0 0 := Stand.of_body Bd
  have e0 : s₁.heap = h0 := by rw [← hh, Bd.state]; rfl
  have N0 := Fr.nil n0
  have pre0 : ∀ t, Steps p.tables e below (s₁.setTop (mkF m 0 #[.val (.int i0), .val (.int i1), .val (.int i2), .val (.int i3), .val (.int i4), .unset, .unset, .unset, .unset, .unset, .unset, .unset, .unset, .unset] [])) t → Steps p.tables e below (s₁.setTop (entryFrame m #[(.int i0), (.int i1), (.int i2), (.int i3), (.int i4)] maxLocals)) t := fun t k => castTop (ef_11 m i0 i1 i2 i3 i4) k
  obtain ⟨_, _, ⟨T301, L301, k301, n301⟩, -, X301, ⟨Lc301, hQ301, l301, y301, z301⟩, st301⟩ := Jvm.LawKit.callS X0 hx (y := (⟨"java/lang/String", "valueOf", "(C)Ljava/lang/String;"⟩ : MethodName)) hown (mvT hZ (hw _ (List.mem_of_getElem? (i := 0) rfl))) (mvT hZ (hw _ (List.mem_of_getElem? (i := 1) rfl))) (mvT hZ (hw _ (List.mem_of_getElem? (i := 2) rfl))) (mvT hZ (hw _ (List.mem_of_getElem? (i := 3) rfl))) (by decide) (backOf (W := 0) (rm_valC l Z a0 hw [] ((i0 &&& (255 : Int32)).toUInt32.toUInt16.toUInt32.toInt32) G h0 n0 Z0 q0 hCS q4 (own_c255 _)) hZ (hw _ (List.mem_of_getElem? (i := 3) rfl)) (hw _ (List.mem_of_getElem? (i := 2) rfl)) (by decide) (by decide)) (g := (mkF m 6 #[.val (.int i0), .val (.int i1), .val (.int i2), .val (.int i3), .val (.int i4), .unset, .unset, .unset, .unset, .unset, .unset, .unset, .unset, .unset] [(.int ((i0 &&& (255 : Int32)).toUInt32.toUInt16.toUInt32.toInt32))])) rfl (by rw [hml]; rfl) (argsL := [(.int ((i0 &&& (255 : Int32)).toUInt32.toUInt16.toUInt32.toInt32))]) (rest := []) (lenOf pd_10 rfl) rfl (by show 2 * 0 + _ ≤ _; exact Nat.le_of_eq rfl) (hb hby at_6) (fun _ _ => ⟨rfl, e0, (by decide : 0 + 2 ≤ _), (by decide : 0 + 5 ≤ _)⟩)
  dsimp only [Pt.U, Pt.locs, Pt.cells, Pt.slots] at X301 l301 y301 z301 st301 hQ301
  subst l301 y301 z301
  obtain ⟨xr_301, tt_301, kt_301, rfl, Nq301, K301, f301_0, f301_1, f301_2, f301_3, f301_4, f301_5⟩ := hQ301
  have N301 := Fr.app N0 Nq301
  obtain ⟨T302, h302, X302, e302, E302, A302, D302, -, st302⟩ := newO X301 hx hZ hown (hw _ (List.mem_of_getElem? (i := 26) rfl)) (hw _ (List.mem_of_getElem? (i := 10) rfl)) (hw _ (List.mem_of_getElem? (i := 2) rfl)) rfl (g := (mkF m 11 #[.val (.int i0), .val (.int i1), .val (.int i2), .val (.int i3), .val (.int i4), .val (.ref xr_301), .unset, .unset, .unset, .unset, .unset, .unset, .unset, .unset] [])) rfl (hb hby at_11) (by decide) (by decide)
  obtain ⟨b302, g302⟩ : ∃ z, z = T301.heap.size := ⟨_, rfl⟩
  rw [← g302] at A302 D302 st302
  have D302_value : Fld Z h302 b302 "java/lang/String" "value" "[B" .null := D302 (Or.inr (hw _ (List.mem_of_getElem? (i := 23) rfl))) (ty := (.array .byte)) (by decide)
  have D302_coder : Fld Z h302 b302 "java/lang/String" "coder" "B" (.int (0 : Int32)) := D302 (Or.inr (hw _ (List.mem_of_getElem? (i := 25) rfl))) (ty := .byte) (by decide)
  obtain ⟨T303, h303, ky303, X303, e303, E303, A303, st303⟩ := newP X302 hx hZ (hw _ (List.mem_of_getElem? (i := 27) rfl)) e302 (g := (mkF m 16 #[.val (.int i0), .val (.int i1), .val (.int i2), .val (.int i3), .val (.int i4), .val (.ref xr_301), .unset, .unset, .unset, .unset, .unset, .unset, .unset, .unset] [(.int (2 : Int32)), (.ref b302), (.ref b302)])) rfl (hb hby at_16) rfl ((by decide) : ¬ ((2 : Int32) < (0 : Int32))) (cap := 2) ((by decide) : (2 : Int32).toNatClampNeg ≤ 2) (by decide) (by decide) (by decide)
  obtain ⟨b303, g303⟩ : ∃ z, z = h302.size := ⟨_, rfl⟩
  rw [← g303] at A303 st303
  have V303 : Arv Z h303 b303 ky303 .char (2 : Int32) [] (.int (0 : Int32)) := Arv.new A303 (by decide)
  have U303 : Arv Z h303 b303 ky303 .char (2 : Int32) [(.int (0 : Int32)), (.int (0 : Int32))] (.int (0 : Int32)) := V303.pad (pad_rep [] (.int (0 : Int32)) 2)
  have ge305 : n0 ≤ b303 := Nat.le_trans Z0 (Nat.le_trans (Nat.le_trans K301.1 E302.1) (Nat.le_of_eq g303.symm))
  obtain ⟨cl304, Ar304, qq304, S304, M304, Hh304, U304⟩ := id U303
  obtain ⟨T304, h304, X304, e304, W304, st304⟩ := stC X303 hx hZ e303 Ar304 (j := (0 : Int32)) (inb_of S304 ⟨(by decide : ¬ ((0 : Int32) < (0 : Int32))), (by decide : (0 : Int32) < (2 : Int32))⟩) (g := (mkF m 26 #[.val (.int i0), .val (.int i1), .val (.int i2), .val (.int i3), .val (.int i4), .val (.ref xr_301), .unset, .unset, .unset, .unset, .unset, .unset, .unset, .unset] [(.int ((i1 &&& (255 : Int32)).toUInt32.toUInt16.toUInt32.toInt32)), (.int (0 : Int32)), (.ref b303), (.ref b303), (.ref b302), (.ref b302)])) rfl rfl (hb hby at_26)
  have N304 := Fr.snoc X304 N301 ge305
  have V304 : Arv Z h304 b303 ky303 .char (2 : Int32) [(.int (nar .char ((i1 &&& (255 : Int32)).toUInt32.toUInt16.toUInt32.toInt32))), (.int (0 : Int32))] (.int (0 : Int32)) := Arv.set Ar304 qq304 S304 M304 Hh304 U304 (fits_nar_char _) W304 0 rfl (Nat.le_of_ble_eq_true rfl)
  obtain ⟨cl306, Ar306, qq306, S306, M306, Hh306, U306⟩ := id V304
  obtain ⟨T306, h306, X306, e306, W306, st306⟩ := stC X304 hx hZ e304 Ar306 (j := (1 : Int32)) (inb_of S306 ⟨(by decide : ¬ ((1 : Int32) < (0 : Int32))), (by decide : (1 : Int32) < (2 : Int32))⟩) (g := (mkF m 38 #[.val (.int i0), .val (.int i1), .val (.int i2), .val (.int i3), .val (.int i4), .val (.ref xr_301), .unset, .unset, .unset, .unset, .unset, .unset, .unset, .unset] [(.int ((((i1.toUInt32 >>> ((8 : Int32) &&& 31).toUInt32).toInt32) &&& (255 : Int32)).toUInt32.toUInt16.toUInt32.toInt32)), (.int (1 : Int32)), (.ref b303), (.ref b303), (.ref b302), (.ref b302)])) rfl rfl (hb hby at_38)
  have N306 := Fr.snoc X306 N304 ge305
  have V306 : Arv Z h306 b303 ky303 .char (2 : Int32) [(.int (nar .char ((i1 &&& (255 : Int32)).toUInt32.toUInt16.toUInt32.toInt32))), (.int (nar .char ((((i1.toUInt32 >>> ((8 : Int32) &&& 31).toUInt32).toInt32) &&& (255 : Int32)).toUInt32.toUInt16.toUInt32.toInt32)))] (.int (0 : Int32)) := Arv.set Ar306 qq306 S306 M306 Hh306 U306 (fits_nar_char _) W306 1 rfl (Nat.le_of_ble_eq_true rfl)
  have c308 : Old Z n0 h306 := (((((q4.keep K301 all0).ext E302).ext E303).wr W304 ge305).wr W306 ge305)
  have hp309 : ∀ c ∈ ([(nar .char ((i1 &&& (255 : Int32)).toUInt32.toUInt16.toUInt32.toInt32)), (nar .char ((((i1.toUInt32 >>> ((8 : Int32) &&& 31).toUInt32).toInt32) &&& (255 : Int32)).toUInt32.toUInt16.toUInt32.toInt32))] : List Int32), ¬ c < 0 ∧ ¬ (255 : Int32) < c := by
    intro c hc
    simp only [List.mem_cons, List.not_mem_nil, or_false] at hc
    rcases hc with rfl | rfl
    · exact own_lat _
    · exact own_lat _
  have c310 : Exa Z h306 b302 "java/lang/String" := (((A302.ext E303).wr W304).wr W306)
  have ne311 : b302 ≠ b303 := Nat.ne_of_lt (Nat.lt_of_lt_of_le D302_value.lt (Nat.le_of_eq g303.symm))
  have c312 : Fld Z h306 b302 "java/lang/String" "value" "[B" .null := (((D302_value.ext E303).other W304 (Or.inl ne311)).other W306 (Or.inl ne311))
  have c313 : Fld Z h306 b302 "java/lang/String" "coder" "B" (.int (0 : Int32)) := (((D302_coder.ext E303).other W304 (Or.inl ne311)).other W306 (Or.inl ne311))
  have ge314 : n0 ≤ b302 := Nat.le_trans Z0 (Nat.le_trans K301.1 (Nat.le_of_eq g302.symm))
  obtain ⟨_, _, ⟨T307, L307, k307, n307⟩, -, X307, ⟨Lc307, hQ307, l307, y307, z307⟩, st307⟩ := X306.specialBack hx (y := (⟨"java/lang/String", "<init>", "([C)V"⟩ : MethodName)) rfl hown (mvT hZ (hw _ (List.mem_of_getElem? (i := 28) rfl))) (mvT hZ (hw _ (List.mem_of_getElem? (i := 29) rfl))) (mvT hZ (hw _ (List.mem_of_getElem? (i := 30) rfl))) (by decide) (StrChars.Road.backV (W := 1) hZ (own_hw_backV hw) (kI := 4) (hw _ (List.mem_of_getElem? (i := 10) rfl)) (cs := ([(nar .char ((i1 &&& (255 : Int32)).toUInt32.toUInt16.toUInt32.toInt32)), (nar .char ((((i1.toUInt32 >>> ((8 : Int32) &&& 31).toUInt32).toInt32) &&& (255 : Int32)).toUInt32.toUInt16.toUInt32.toInt32))] : List Int32)) (bs := (([(nar .char ((i1 &&& (255 : Int32)).toUInt32.toUInt16.toUInt32.toInt32)), (nar .char ((((i1.toUInt32 >>> ((8 : Int32) &&& 31).toUInt32).toInt32) &&& (255 : Int32)).toUInt32.toUInt16.toUInt32.toInt32))] : List Int32)).map (fun c => c.toInt8.toInt32)) (n := 2) ge314 (Nat.le_trans Z0 (Nat.le_trans (Nat.le_trans (Nat.le_trans (Nat.le_trans K301.1 E302.1) E303.1) (Keep.of_wr W304).1) (Keep.of_wr W306).1)) c310 c312 c313 V306 (q0.ext c308.2) hCS rfl rfl (by decide) (by decide) hp309 rfl (by decide) (by decide)) (g := (mkF m 39 #[.val (.int i0), .val (.int i1), .val (.int i2), .val (.int i3), .val (.int i4), .val (.ref xr_301), .unset, .unset, .unset, .unset, .unset, .unset, .unset, .unset] [(.ref b303), (.ref b302), (.ref b302)])) rfl (by rw [hml]; rfl) (Steps.refl _) (a := b302) (argsL := [(.ref b303)]) (rest := [(.ref b302)]) (lenOf pd_11 rfl) rfl (by show 2 * 0 + _ ≤ _; exact Nat.le_of_eq rfl) (hb hby at_39) (fun _ _ => ⟨rfl, e306, (by decide : 4 + 1 ≤ _), (by decide : 11 + 2 ≤ _)⟩)
  dsimp only [Pt.U, Pt.locs, Pt.cells, Pt.slots] at X307 l307 y307 z307 st307 hQ307
  subst l307 y307 z307
  obtain ⟨rfl, Nq307, K307, fE307, fC307, t307, kb307, gt307, sz307, nt307, fV307, fA307⟩ := hQ307
  have N307 := Fr.app N306 Nq307
  have hcd307 : StrChars.Road.CodA ([(nar .char ((i1 &&& (255 : Int32)).toUInt32.toUInt16.toUInt32.toInt32)), (nar .char ((((i1.toUInt32 >>> ((8 : Int32) &&& 31).toUInt32).toInt32) &&& (255 : Int32)).toUInt32.toUInt16.toUInt32.toInt32))] : List Int32) 0 (2 : Int32) (((([(nar .char ((i1 &&& (255 : Int32)).toUInt32.toUInt16.toUInt32.toInt32)), (nar .char ((((i1.toUInt32 >>> ((8 : Int32) &&& 31).toUInt32).toInt32) &&& (255 : Int32)).toUInt32.toUInt16.toUInt32.toInt32))] : List Int32)).map (fun c => c.toInt8.toInt32)).map Value.int) := StrChars.Road.codOf (n := 2) rfl (fun c hc => (hp309 c hc).2)
  obtain ⟨T315, h315, X315, e315, E315, A315, D315, -, st315⟩ := newO X307 hx hZ hown (hw _ (List.mem_of_getElem? (i := 26) rfl)) (hw _ (List.mem_of_getElem? (i := 10) rfl)) (hw _ (List.mem_of_getElem? (i := 2) rfl)) rfl (g := (mkF m 44 #[.val (.int i0), .val (.int i1), .val (.int i2), .val (.int i3), .val (.int i4), .val (.ref xr_301), .val (.ref b302), .unset, .unset, .unset, .unset, .unset, .unset, .unset] [])) rfl (hb hby at_44) (by decide) (by decide)
  obtain ⟨b315, g315⟩ : ∃ z, z = T307.heap.size := ⟨_, rfl⟩
  rw [← g315] at A315 D315 st315
  have D315_value : Fld Z h315 b315 "java/lang/String" "value" "[B" .null := D315 (Or.inr (hw _ (List.mem_of_getElem? (i := 23) rfl))) (ty := (.array .byte)) (by decide)
  have D315_coder : Fld Z h315 b315 "java/lang/String" "coder" "B" (.int (0 : Int32)) := D315 (Or.inr (hw _ (List.mem_of_getElem? (i := 25) rfl))) (ty := .byte) (by decide)
  obtain ⟨T316, h316, ky316, X316, e316, E316, A316, st316⟩ := newP X315 hx hZ (hw _ (List.mem_of_getElem? (i := 27) rfl)) e315 (g := (mkF m 49 #[.val (.int i0), .val (.int i1), .val (.int i2), .val (.int i3), .val (.int i4), .val (.ref xr_301), .val (.ref b302), .unset, .unset, .unset, .unset, .unset, .unset, .unset] [(.int (3 : Int32)), (.ref b315), (.ref b315)])) rfl (hb hby at_49) rfl ((by decide) : ¬ ((3 : Int32) < (0 : Int32))) (cap := 3) ((by decide) : (3 : Int32).toNatClampNeg ≤ 3) (by decide) (by decide) (by decide)
  obtain ⟨b316, g316⟩ : ∃ z, z = h315.size := ⟨_, rfl⟩
  rw [← g316] at A316 st316
  have V316 : Arv Z h316 b316 ky316 .char (3 : Int32) [] (.int (0 : Int32)) := Arv.new A316 (by decide)
  have U316 : Arv Z h316 b316 ky316 .char (3 : Int32) [(.int (0 : Int32)), (.int (0 : Int32)), (.int (0 : Int32))] (.int (0 : Int32)) := V316.pad (pad_rep [] (.int (0 : Int32)) 3)
  have ge318 : n0 ≤ b316 := Nat.le_trans Z0 (Nat.le_trans (Nat.le_trans (Nat.le_trans (Nat.le_trans (Nat.le_trans (Nat.le_trans (Nat.le_trans K301.1 E302.1) E303.1) (Keep.of_wr W304).1) (Keep.of_wr W306).1) K307.1) E315.1) (Nat.le_of_eq g316.symm))
  obtain ⟨cl317, Ar317, qq317, S317, M317, Hh317, U317⟩ := id U316
  obtain ⟨T317, h317, X317, e317, W317, st317⟩ := stC X316 hx hZ e316 Ar317 (j := (0 : Int32)) (inb_of S317 ⟨(by decide : ¬ ((0 : Int32) < (0 : Int32))), (by decide : (0 : Int32) < (3 : Int32))⟩) (g := (mkF m 59 #[.val (.int i0), .val (.int i1), .val (.int i2), .val (.int i3), .val (.int i4), .val (.ref xr_301), .val (.ref b302), .unset, .unset, .unset, .unset, .unset, .unset, .unset] [(.int ((i2 &&& (255 : Int32)).toUInt32.toUInt16.toUInt32.toInt32)), (.int (0 : Int32)), (.ref b316), (.ref b316), (.ref b315), (.ref b315)])) rfl rfl (hb hby at_59)
  have N317 := Fr.snoc X317 N307 ge318
  have V317 : Arv Z h317 b316 ky316 .char (3 : Int32) [(.int (nar .char ((i2 &&& (255 : Int32)).toUInt32.toUInt16.toUInt32.toInt32))), (.int (0 : Int32)), (.int (0 : Int32))] (.int (0 : Int32)) := Arv.set Ar317 qq317 S317 M317 Hh317 U317 (fits_nar_char _) W317 0 rfl (Nat.le_of_ble_eq_true rfl)
  obtain ⟨cl319, Ar319, qq319, S319, M319, Hh319, U319⟩ := id V317
  obtain ⟨T319, h319, X319, e319, W319, st319⟩ := stC X317 hx hZ e317 Ar319 (j := (1 : Int32)) (inb_of S319 ⟨(by decide : ¬ ((1 : Int32) < (0 : Int32))), (by decide : (1 : Int32) < (3 : Int32))⟩) (g := (mkF m 71 #[.val (.int i0), .val (.int i1), .val (.int i2), .val (.int i3), .val (.int i4), .val (.ref xr_301), .val (.ref b302), .unset, .unset, .unset, .unset, .unset, .unset, .unset] [(.int ((((i2.toUInt32 >>> ((8 : Int32) &&& 31).toUInt32).toInt32) &&& (255 : Int32)).toUInt32.toUInt16.toUInt32.toInt32)), (.int (1 : Int32)), (.ref b316), (.ref b316), (.ref b315), (.ref b315)])) rfl rfl (hb hby at_71)
  have N319 := Fr.snoc X319 N317 ge318
  have V319 : Arv Z h319 b316 ky316 .char (3 : Int32) [(.int (nar .char ((i2 &&& (255 : Int32)).toUInt32.toUInt16.toUInt32.toInt32))), (.int (nar .char ((((i2.toUInt32 >>> ((8 : Int32) &&& 31).toUInt32).toInt32) &&& (255 : Int32)).toUInt32.toUInt16.toUInt32.toInt32))), (.int (0 : Int32))] (.int (0 : Int32)) := Arv.set Ar319 qq319 S319 M319 Hh319 U319 (fits_nar_char _) W319 1 rfl (Nat.le_of_ble_eq_true rfl)
  obtain ⟨cl320, Ar320, qq320, S320, M320, Hh320, U320⟩ := id V319
  obtain ⟨T320, h320, X320, e320, W320, st320⟩ := stC X319 hx hZ e319 Ar320 (j := (2 : Int32)) (inb_of S320 ⟨(by decide : ¬ ((2 : Int32) < (0 : Int32))), (by decide : (2 : Int32) < (3 : Int32))⟩) (g := (mkF m 83 #[.val (.int i0), .val (.int i1), .val (.int i2), .val (.int i3), .val (.int i4), .val (.ref xr_301), .val (.ref b302), .unset, .unset, .unset, .unset, .unset, .unset, .unset] [(.int ((((i2.toUInt32 >>> ((16 : Int32) &&& 31).toUInt32).toInt32) &&& (255 : Int32)).toUInt32.toUInt16.toUInt32.toInt32)), (.int (2 : Int32)), (.ref b316), (.ref b316), (.ref b315), (.ref b315)])) rfl rfl (hb hby at_83)
  have N320 := Fr.snoc X320 N319 ge318
  have V320 : Arv Z h320 b316 ky316 .char (3 : Int32) [(.int (nar .char ((i2 &&& (255 : Int32)).toUInt32.toUInt16.toUInt32.toInt32))), (.int (nar .char ((((i2.toUInt32 >>> ((8 : Int32) &&& 31).toUInt32).toInt32) &&& (255 : Int32)).toUInt32.toUInt16.toUInt32.toInt32))), (.int (nar .char ((((i2.toUInt32 >>> ((16 : Int32) &&& 31).toUInt32).toInt32) &&& (255 : Int32)).toUInt32.toUInt16.toUInt32.toInt32)))] (.int (0 : Int32)) := Arv.set Ar320 qq320 S320 M320 Hh320 U320 (fits_nar_char _) W320 2 rfl (Nat.le_of_ble_eq_true rfl)
  have c322 : Old Z n0 h320 := ((((((c308.keep K307 (allS ge314 all0)).ext E315).ext E316).wr W317 ge318).wr W319 ge318).wr W320 ge318)
  have hp323 : ∀ c ∈ ([(nar .char ((i2 &&& (255 : Int32)).toUInt32.toUInt16.toUInt32.toInt32)), (nar .char ((((i2.toUInt32 >>> ((8 : Int32) &&& 31).toUInt32).toInt32) &&& (255 : Int32)).toUInt32.toUInt16.toUInt32.toInt32)), (nar .char ((((i2.toUInt32 >>> ((16 : Int32) &&& 31).toUInt32).toInt32) &&& (255 : Int32)).toUInt32.toUInt16.toUInt32.toInt32))] : List Int32), ¬ c < 0 ∧ ¬ (255 : Int32) < c := by
    intro c hc
    simp only [List.mem_cons, List.not_mem_nil, or_false] at hc
    rcases hc with rfl | rfl | rfl
    · exact own_lat _
    · exact own_lat _
    · exact own_lat _
  have c324 : Exa Z h320 b315 "java/lang/String" := ((((A315.ext E316).wr W317).wr W319).wr W320)
  have ne325 : b315 ≠ b316 := Nat.ne_of_lt (Nat.lt_of_lt_of_le D315_value.lt (Nat.le_of_eq g316.symm))
  have c326 : Fld Z h320 b315 "java/lang/String" "value" "[B" .null := ((((D315_value.ext E316).other W317 (Or.inl ne325)).other W319 (Or.inl ne325)).other W320 (Or.inl ne325))
  have c327 : Fld Z h320 b315 "java/lang/String" "coder" "B" (.int (0 : Int32)) := ((((D315_coder.ext E316).other W317 (Or.inl ne325)).other W319 (Or.inl ne325)).other W320 (Or.inl ne325))
  have ge328 : n0 ≤ b315 := Nat.le_trans Z0 (Nat.le_trans (Nat.le_trans (Nat.le_trans (Nat.le_trans (Nat.le_trans (Nat.le_trans K301.1 E302.1) E303.1) (Keep.of_wr W304).1) (Keep.of_wr W306).1) K307.1) (Nat.le_of_eq g315.symm))
  obtain ⟨_, _, ⟨T321, L321, k321, n321⟩, -, X321, ⟨Lc321, hQ321, l321, y321, z321⟩, st321⟩ := X320.specialBack hx (y := (⟨"java/lang/String", "<init>", "([C)V"⟩ : MethodName)) rfl hown (mvT hZ (hw _ (List.mem_of_getElem? (i := 28) rfl))) (mvT hZ (hw _ (List.mem_of_getElem? (i := 29) rfl))) (mvT hZ (hw _ (List.mem_of_getElem? (i := 30) rfl))) (by decide) (StrChars.Road.backV (W := 1) hZ (own_hw_backV hw) (kI := 4) (hw _ (List.mem_of_getElem? (i := 10) rfl)) (cs := ([(nar .char ((i2 &&& (255 : Int32)).toUInt32.toUInt16.toUInt32.toInt32)), (nar .char ((((i2.toUInt32 >>> ((8 : Int32) &&& 31).toUInt32).toInt32) &&& (255 : Int32)).toUInt32.toUInt16.toUInt32.toInt32)), (nar .char ((((i2.toUInt32 >>> ((16 : Int32) &&& 31).toUInt32).toInt32) &&& (255 : Int32)).toUInt32.toUInt16.toUInt32.toInt32))] : List Int32)) (bs := (([(nar .char ((i2 &&& (255 : Int32)).toUInt32.toUInt16.toUInt32.toInt32)), (nar .char ((((i2.toUInt32 >>> ((8 : Int32) &&& 31).toUInt32).toInt32) &&& (255 : Int32)).toUInt32.toUInt16.toUInt32.toInt32)), (nar .char ((((i2.toUInt32 >>> ((16 : Int32) &&& 31).toUInt32).toInt32) &&& (255 : Int32)).toUInt32.toUInt16.toUInt32.toInt32))] : List Int32)).map (fun c => c.toInt8.toInt32)) (n := 3) ge328 (Nat.le_trans Z0 (Nat.le_trans (Nat.le_trans (Nat.le_trans (Nat.le_trans (Nat.le_trans (Nat.le_trans (Nat.le_trans (Nat.le_trans (Nat.le_trans (Nat.le_trans K301.1 E302.1) E303.1) (Keep.of_wr W304).1) (Keep.of_wr W306).1) K307.1) E315.1) E316.1) (Keep.of_wr W317).1) (Keep.of_wr W319).1) (Keep.of_wr W320).1)) c324 c326 c327 V320 (q0.ext c322.2) hCS rfl rfl (by decide) (by decide) hp323 rfl (by decide) (by decide)) (g := (mkF m 84 #[.val (.int i0), .val (.int i1), .val (.int i2), .val (.int i3), .val (.int i4), .val (.ref xr_301), .val (.ref b302), .unset, .unset, .unset, .unset, .unset, .unset, .unset] [(.ref b316), (.ref b315), (.ref b315)])) rfl (by rw [hml]; rfl) (Steps.refl _) (a := b315) (argsL := [(.ref b316)]) (rest := [(.ref b315)]) (lenOf pd_11 rfl) rfl (by show 2 * 0 + _ ≤ _; exact Nat.le_of_eq rfl) (hb hby at_84) (fun _ _ => ⟨rfl, e320, (by decide : 7 + 1 ≤ _), (by decide : 20 + 3 ≤ _)⟩)
  dsimp only [Pt.U, Pt.locs, Pt.cells, Pt.slots] at X321 l321 y321 z321 st321 hQ321
  subst l321 y321 z321
  obtain ⟨rfl, Nq321, K321, fE321, fC321, t321, kb321, gt321, sz321, nt321, fV321, fA321⟩ := hQ321
  have N321 := Fr.app N320 Nq321
  have hcd321 : StrChars.Road.CodA ([(nar .char ((i2 &&& (255 : Int32)).toUInt32.toUInt16.toUInt32.toInt32)), (nar .char ((((i2.toUInt32 >>> ((8 : Int32) &&& 31).toUInt32).toInt32) &&& (255 : Int32)).toUInt32.toUInt16.toUInt32.toInt32)), (nar .char ((((i2.toUInt32 >>> ((16 : Int32) &&& 31).toUInt32).toInt32) &&& (255 : Int32)).toUInt32.toUInt16.toUInt32.toInt32))] : List Int32) 0 (3 : Int32) (((([(nar .char ((i2 &&& (255 : Int32)).toUInt32.toUInt16.toUInt32.toInt32)), (nar .char ((((i2.toUInt32 >>> ((8 : Int32) &&& 31).toUInt32).toInt32) &&& (255 : Int32)).toUInt32.toUInt16.toUInt32.toInt32)), (nar .char ((((i2.toUInt32 >>> ((16 : Int32) &&& 31).toUInt32).toInt32) &&& (255 : Int32)).toUInt32.toUInt16.toUInt32.toInt32))] : List Int32)).map (fun c => c.toInt8.toInt32)).map Value.int) := StrChars.Road.codOf (n := 3) rfl (fun c hc => (hp323 c hc).2)
  have pre329 : ∀ t, Steps p.tables e below (T321.setTop (mkF m 99 #[.val (.int i0), .val (.int i1), .val (.int i2), .val (.int i3), .val (.int i4), .val (.ref xr_301), .val (.ref b302), .val (.ref b315), .val (.int ((1 : Int32) + ((i3 &&& (2147483647 : Int32)) % (3 : Int32)))), .unset, .unset, .unset, .unset, .unset] [])) t → Steps p.tables e below (s₁.setTop (entryFrame m #[(.int i0), (.int i1), (.int i2), (.int i3), (.int i4)] maxLocals)) t := fun t kk => pre0 t (by
    refine XS.iloadN X0.here hx rfl (hb hby at_0) rfl ?_
    show Steps p.tables e below (s₁.setTop (mkF m 1 #[.val (.int i0), .val (.int i1), .val (.int i2), .val (.int i3), .val (.int i4), .unset, .unset, .unset, .unset, .unset, .unset, .unset, .unset, .unset] [(.int i0)])) _
    refine XS.sipush X0.here hx rfl (hb hby at_1) ?_
    show Steps p.tables e below (s₁.setTop (mkF m 4 #[.val (.int i0), .val (.int i1), .val (.int i2), .val (.int i3), .val (.int i4), .unset, .unset, .unset, .unset, .unset, .unset, .unset, .unset, .unset] [(.int (255 : Int32)), (.int i0)])) _
    refine XS.iand X0.here hx rfl (hb hby at_4) rfl ?_
    show Steps p.tables e below (s₁.setTop (mkF m 5 #[.val (.int i0), .val (.int i1), .val (.int i2), .val (.int i3), .val (.int i4), .unset, .unset, .unset, .unset, .unset, .unset, .unset, .unset, .unset] [(.int (i0 &&& (255 : Int32)))])) _
    refine XS.i2c X0.here hx rfl (hb hby at_5) rfl ?_
    show Steps p.tables e below (s₁.setTop (mkF m 6 #[.val (.int i0), .val (.int i1), .val (.int i2), .val (.int i3), .val (.int i4), .unset, .unset, .unset, .unset, .unset, .unset, .unset, .unset, .unset] [(.int ((i0 &&& (255 : Int32)).toUInt32.toUInt16.toUInt32.toInt32))])) _
    refine st301 _ ?_
    show Steps p.tables e below (T301.setTop (mkF m 9 #[.val (.int i0), .val (.int i1), .val (.int i2), .val (.int i3), .val (.int i4), .unset, .unset, .unset, .unset, .unset, .unset, .unset, .unset, .unset] [(.ref xr_301)])) _
    refine XS.astore X301.here hx rfl (hb hby at_9) rfl rfl (l' := #[.val (.int i0), .val (.int i1), .val (.int i2), .val (.int i3), .val (.int i4), .val (.ref xr_301), .unset, .unset, .unset, .unset, .unset, .unset, .unset, .unset]) rfl ?_
    show Steps p.tables e below (T301.setTop (mkF m 11 #[.val (.int i0), .val (.int i1), .val (.int i2), .val (.int i3), .val (.int i4), .val (.ref xr_301), .unset, .unset, .unset, .unset, .unset, .unset, .unset, .unset] [])) _
    refine st302 _ ?_
    show Steps p.tables e below (T302.setTop (mkF m 14 #[.val (.int i0), .val (.int i1), .val (.int i2), .val (.int i3), .val (.int i4), .val (.ref xr_301), .unset, .unset, .unset, .unset, .unset, .unset, .unset, .unset] [(.ref b302)])) _
    refine XS.dup X302.here hx rfl (hb hby at_14) rfl rfl ?_
    show Steps p.tables e below (T302.setTop (mkF m 15 #[.val (.int i0), .val (.int i1), .val (.int i2), .val (.int i3), .val (.int i4), .val (.ref xr_301), .unset, .unset, .unset, .unset, .unset, .unset, .unset, .unset] [(.ref b302), (.ref b302)])) _
    refine XS.iconst X302.here hx rfl (hb hby at_15) ?_
    show Steps p.tables e below (T302.setTop (mkF m 16 #[.val (.int i0), .val (.int i1), .val (.int i2), .val (.int i3), .val (.int i4), .val (.ref xr_301), .unset, .unset, .unset, .unset, .unset, .unset, .unset, .unset] [(.int (2 : Int32)), (.ref b302), (.ref b302)])) _
    refine st303 _ ?_
    show Steps p.tables e below (T303.setTop (mkF m 18 #[.val (.int i0), .val (.int i1), .val (.int i2), .val (.int i3), .val (.int i4), .val (.ref xr_301), .unset, .unset, .unset, .unset, .unset, .unset, .unset, .unset] [(.ref b303), (.ref b302), (.ref b302)])) _
    refine XS.dup X303.here hx rfl (hb hby at_18) rfl rfl ?_
    show Steps p.tables e below (T303.setTop (mkF m 19 #[.val (.int i0), .val (.int i1), .val (.int i2), .val (.int i3), .val (.int i4), .val (.ref xr_301), .unset, .unset, .unset, .unset, .unset, .unset, .unset, .unset] [(.ref b303), (.ref b303), (.ref b302), (.ref b302)])) _
    refine XS.iconst X303.here hx rfl (hb hby at_19) ?_
    show Steps p.tables e below (T303.setTop (mkF m 20 #[.val (.int i0), .val (.int i1), .val (.int i2), .val (.int i3), .val (.int i4), .val (.ref xr_301), .unset, .unset, .unset, .unset, .unset, .unset, .unset, .unset] [(.int (0 : Int32)), (.ref b303), (.ref b303), (.ref b302), (.ref b302)])) _
    refine XS.iloadN X303.here hx rfl (hb hby at_20) rfl ?_
    show Steps p.tables e below (T303.setTop (mkF m 21 #[.val (.int i0), .val (.int i1), .val (.int i2), .val (.int i3), .val (.int i4), .val (.ref xr_301), .unset, .unset, .unset, .unset, .unset, .unset, .unset, .unset] [(.int i1), (.int (0 : Int32)), (.ref b303), (.ref b303), (.ref b302), (.ref b302)])) _
    refine XS.sipush X303.here hx rfl (hb hby at_21) ?_
    show Steps p.tables e below (T303.setTop (mkF m 24 #[.val (.int i0), .val (.int i1), .val (.int i2), .val (.int i3), .val (.int i4), .val (.ref xr_301), .unset, .unset, .unset, .unset, .unset, .unset, .unset, .unset] [(.int (255 : Int32)), (.int i1), (.int (0 : Int32)), (.ref b303), (.ref b303), (.ref b302), (.ref b302)])) _
    refine XS.iand X303.here hx rfl (hb hby at_24) rfl ?_
    show Steps p.tables e below (T303.setTop (mkF m 25 #[.val (.int i0), .val (.int i1), .val (.int i2), .val (.int i3), .val (.int i4), .val (.ref xr_301), .unset, .unset, .unset, .unset, .unset, .unset, .unset, .unset] [(.int (i1 &&& (255 : Int32))), (.int (0 : Int32)), (.ref b303), (.ref b303), (.ref b302), (.ref b302)])) _
    refine XS.i2c X303.here hx rfl (hb hby at_25) rfl ?_
    show Steps p.tables e below (T303.setTop (mkF m 26 #[.val (.int i0), .val (.int i1), .val (.int i2), .val (.int i3), .val (.int i4), .val (.ref xr_301), .unset, .unset, .unset, .unset, .unset, .unset, .unset, .unset] [(.int ((i1 &&& (255 : Int32)).toUInt32.toUInt16.toUInt32.toInt32)), (.int (0 : Int32)), (.ref b303), (.ref b303), (.ref b302), (.ref b302)])) _
    refine st304 _ ?_
    show Steps p.tables e below (T304.setTop (mkF m 27 #[.val (.int i0), .val (.int i1), .val (.int i2), .val (.int i3), .val (.int i4), .val (.ref xr_301), .unset, .unset, .unset, .unset, .unset, .unset, .unset, .unset] [(.ref b303), (.ref b302), (.ref b302)])) _
    refine XS.dup X304.here hx rfl (hb hby at_27) rfl rfl ?_
    show Steps p.tables e below (T304.setTop (mkF m 28 #[.val (.int i0), .val (.int i1), .val (.int i2), .val (.int i3), .val (.int i4), .val (.ref xr_301), .unset, .unset, .unset, .unset, .unset, .unset, .unset, .unset] [(.ref b303), (.ref b303), (.ref b302), (.ref b302)])) _
    refine XS.iconst X304.here hx rfl (hb hby at_28) ?_
    show Steps p.tables e below (T304.setTop (mkF m 29 #[.val (.int i0), .val (.int i1), .val (.int i2), .val (.int i3), .val (.int i4), .val (.ref xr_301), .unset, .unset, .unset, .unset, .unset, .unset, .unset, .unset] [(.int (1 : Int32)), (.ref b303), (.ref b303), (.ref b302), (.ref b302)])) _
    refine XS.iloadN X304.here hx rfl (hb hby at_29) rfl ?_
    show Steps p.tables e below (T304.setTop (mkF m 30 #[.val (.int i0), .val (.int i1), .val (.int i2), .val (.int i3), .val (.int i4), .val (.ref xr_301), .unset, .unset, .unset, .unset, .unset, .unset, .unset, .unset] [(.int i1), (.int (1 : Int32)), (.ref b303), (.ref b303), (.ref b302), (.ref b302)])) _
    refine XS.bipush X304.here hx rfl (hb hby at_30) ?_
    show Steps p.tables e below (T304.setTop (mkF m 32 #[.val (.int i0), .val (.int i1), .val (.int i2), .val (.int i3), .val (.int i4), .val (.ref xr_301), .unset, .unset, .unset, .unset, .unset, .unset, .unset, .unset] [(.int (8 : Int32)), (.int i1), (.int (1 : Int32)), (.ref b303), (.ref b303), (.ref b302), (.ref b302)])) _
    refine XS.iushr X304.here hx rfl (hb hby at_32) rfl ?_
    show Steps p.tables e below (T304.setTop (mkF m 33 #[.val (.int i0), .val (.int i1), .val (.int i2), .val (.int i3), .val (.int i4), .val (.ref xr_301), .unset, .unset, .unset, .unset, .unset, .unset, .unset, .unset] [(.int ((i1.toUInt32 >>> ((8 : Int32) &&& 31).toUInt32).toInt32)), (.int (1 : Int32)), (.ref b303), (.ref b303), (.ref b302), (.ref b302)])) _
    refine XS.sipush X304.here hx rfl (hb hby at_33) ?_
    show Steps p.tables e below (T304.setTop (mkF m 36 #[.val (.int i0), .val (.int i1), .val (.int i2), .val (.int i3), .val (.int i4), .val (.ref xr_301), .unset, .unset, .unset, .unset, .unset, .unset, .unset, .unset] [(.int (255 : Int32)), (.int ((i1.toUInt32 >>> ((8 : Int32) &&& 31).toUInt32).toInt32)), (.int (1 : Int32)), (.ref b303), (.ref b303), (.ref b302), (.ref b302)])) _
    refine XS.iand X304.here hx rfl (hb hby at_36) rfl ?_
    show Steps p.tables e below (T304.setTop (mkF m 37 #[.val (.int i0), .val (.int i1), .val (.int i2), .val (.int i3), .val (.int i4), .val (.ref xr_301), .unset, .unset, .unset, .unset, .unset, .unset, .unset, .unset] [(.int (((i1.toUInt32 >>> ((8 : Int32) &&& 31).toUInt32).toInt32) &&& (255 : Int32))), (.int (1 : Int32)), (.ref b303), (.ref b303), (.ref b302), (.ref b302)])) _
    refine XS.i2c X304.here hx rfl (hb hby at_37) rfl ?_
    show Steps p.tables e below (T304.setTop (mkF m 38 #[.val (.int i0), .val (.int i1), .val (.int i2), .val (.int i3), .val (.int i4), .val (.ref xr_301), .unset, .unset, .unset, .unset, .unset, .unset, .unset, .unset] [(.int ((((i1.toUInt32 >>> ((8 : Int32) &&& 31).toUInt32).toInt32) &&& (255 : Int32)).toUInt32.toUInt16.toUInt32.toInt32)), (.int (1 : Int32)), (.ref b303), (.ref b303), (.ref b302), (.ref b302)])) _
    refine st306 _ ?_
    show Steps p.tables e below (T306.setTop (mkF m 39 #[.val (.int i0), .val (.int i1), .val (.int i2), .val (.int i3), .val (.int i4), .val (.ref xr_301), .unset, .unset, .unset, .unset, .unset, .unset, .unset, .unset] [(.ref b303), (.ref b302), (.ref b302)])) _
    refine st307.trans ?_
    show Steps p.tables e below (T307.setTop (mkF m 42 #[.val (.int i0), .val (.int i1), .val (.int i2), .val (.int i3), .val (.int i4), .val (.ref xr_301), .unset, .unset, .unset, .unset, .unset, .unset, .unset, .unset] [(.ref b302)])) _
    refine XS.astore X307.here hx rfl (hb hby at_42) rfl rfl (l' := #[.val (.int i0), .val (.int i1), .val (.int i2), .val (.int i3), .val (.int i4), .val (.ref xr_301), .val (.ref b302), .unset, .unset, .unset, .unset, .unset, .unset, .unset]) rfl ?_
    show Steps p.tables e below (T307.setTop (mkF m 44 #[.val (.int i0), .val (.int i1), .val (.int i2), .val (.int i3), .val (.int i4), .val (.ref xr_301), .val (.ref b302), .unset, .unset, .unset, .unset, .unset, .unset, .unset] [])) _
    refine st315 _ ?_
    show Steps p.tables e below (T315.setTop (mkF m 47 #[.val (.int i0), .val (.int i1), .val (.int i2), .val (.int i3), .val (.int i4), .val (.ref xr_301), .val (.ref b302), .unset, .unset, .unset, .unset, .unset, .unset, .unset] [(.ref b315)])) _
    refine XS.dup X315.here hx rfl (hb hby at_47) rfl rfl ?_
    show Steps p.tables e below (T315.setTop (mkF m 48 #[.val (.int i0), .val (.int i1), .val (.int i2), .val (.int i3), .val (.int i4), .val (.ref xr_301), .val (.ref b302), .unset, .unset, .unset, .unset, .unset, .unset, .unset] [(.ref b315), (.ref b315)])) _
    refine XS.iconst X315.here hx rfl (hb hby at_48) ?_
    show Steps p.tables e below (T315.setTop (mkF m 49 #[.val (.int i0), .val (.int i1), .val (.int i2), .val (.int i3), .val (.int i4), .val (.ref xr_301), .val (.ref b302), .unset, .unset, .unset, .unset, .unset, .unset, .unset] [(.int (3 : Int32)), (.ref b315), (.ref b315)])) _
    refine st316 _ ?_
    show Steps p.tables e below (T316.setTop (mkF m 51 #[.val (.int i0), .val (.int i1), .val (.int i2), .val (.int i3), .val (.int i4), .val (.ref xr_301), .val (.ref b302), .unset, .unset, .unset, .unset, .unset, .unset, .unset] [(.ref b316), (.ref b315), (.ref b315)])) _
    refine XS.dup X316.here hx rfl (hb hby at_51) rfl rfl ?_
    show Steps p.tables e below (T316.setTop (mkF m 52 #[.val (.int i0), .val (.int i1), .val (.int i2), .val (.int i3), .val (.int i4), .val (.ref xr_301), .val (.ref b302), .unset, .unset, .unset, .unset, .unset, .unset, .unset] [(.ref b316), (.ref b316), (.ref b315), (.ref b315)])) _
    refine XS.iconst X316.here hx rfl (hb hby at_52) ?_
    show Steps p.tables e below (T316.setTop (mkF m 53 #[.val (.int i0), .val (.int i1), .val (.int i2), .val (.int i3), .val (.int i4), .val (.ref xr_301), .val (.ref b302), .unset, .unset, .unset, .unset, .unset, .unset, .unset] [(.int (0 : Int32)), (.ref b316), (.ref b316), (.ref b315), (.ref b315)])) _
    refine XS.iloadN X316.here hx rfl (hb hby at_53) rfl ?_
    show Steps p.tables e below (T316.setTop (mkF m 54 #[.val (.int i0), .val (.int i1), .val (.int i2), .val (.int i3), .val (.int i4), .val (.ref xr_301), .val (.ref b302), .unset, .unset, .unset, .unset, .unset, .unset, .unset] [(.int i2), (.int (0 : Int32)), (.ref b316), (.ref b316), (.ref b315), (.ref b315)])) _
    refine XS.sipush X316.here hx rfl (hb hby at_54) ?_
    show Steps p.tables e below (T316.setTop (mkF m 57 #[.val (.int i0), .val (.int i1), .val (.int i2), .val (.int i3), .val (.int i4), .val (.ref xr_301), .val (.ref b302), .unset, .unset, .unset, .unset, .unset, .unset, .unset] [(.int (255 : Int32)), (.int i2), (.int (0 : Int32)), (.ref b316), (.ref b316), (.ref b315), (.ref b315)])) _
    refine XS.iand X316.here hx rfl (hb hby at_57) rfl ?_
    show Steps p.tables e below (T316.setTop (mkF m 58 #[.val (.int i0), .val (.int i1), .val (.int i2), .val (.int i3), .val (.int i4), .val (.ref xr_301), .val (.ref b302), .unset, .unset, .unset, .unset, .unset, .unset, .unset] [(.int (i2 &&& (255 : Int32))), (.int (0 : Int32)), (.ref b316), (.ref b316), (.ref b315), (.ref b315)])) _
    refine XS.i2c X316.here hx rfl (hb hby at_58) rfl ?_
    show Steps p.tables e below (T316.setTop (mkF m 59 #[.val (.int i0), .val (.int i1), .val (.int i2), .val (.int i3), .val (.int i4), .val (.ref xr_301), .val (.ref b302), .unset, .unset, .unset, .unset, .unset, .unset, .unset] [(.int ((i2 &&& (255 : Int32)).toUInt32.toUInt16.toUInt32.toInt32)), (.int (0 : Int32)), (.ref b316), (.ref b316), (.ref b315), (.ref b315)])) _
    refine st317 _ ?_
    show Steps p.tables e below (T317.setTop (mkF m 60 #[.val (.int i0), .val (.int i1), .val (.int i2), .val (.int i3), .val (.int i4), .val (.ref xr_301), .val (.ref b302), .unset, .unset, .unset, .unset, .unset, .unset, .unset] [(.ref b316), (.ref b315), (.ref b315)])) _
    refine XS.dup X317.here hx rfl (hb hby at_60) rfl rfl ?_
    show Steps p.tables e below (T317.setTop (mkF m 61 #[.val (.int i0), .val (.int i1), .val (.int i2), .val (.int i3), .val (.int i4), .val (.ref xr_301), .val (.ref b302), .unset, .unset, .unset, .unset, .unset, .unset, .unset] [(.ref b316), (.ref b316), (.ref b315), (.ref b315)])) _
    refine XS.iconst X317.here hx rfl (hb hby at_61) ?_
    show Steps p.tables e below (T317.setTop (mkF m 62 #[.val (.int i0), .val (.int i1), .val (.int i2), .val (.int i3), .val (.int i4), .val (.ref xr_301), .val (.ref b302), .unset, .unset, .unset, .unset, .unset, .unset, .unset] [(.int (1 : Int32)), (.ref b316), (.ref b316), (.ref b315), (.ref b315)])) _
    refine XS.iloadN X317.here hx rfl (hb hby at_62) rfl ?_
    show Steps p.tables e below (T317.setTop (mkF m 63 #[.val (.int i0), .val (.int i1), .val (.int i2), .val (.int i3), .val (.int i4), .val (.ref xr_301), .val (.ref b302), .unset, .unset, .unset, .unset, .unset, .unset, .unset] [(.int i2), (.int (1 : Int32)), (.ref b316), (.ref b316), (.ref b315), (.ref b315)])) _
    refine XS.bipush X317.here hx rfl (hb hby at_63) ?_
    show Steps p.tables e below (T317.setTop (mkF m 65 #[.val (.int i0), .val (.int i1), .val (.int i2), .val (.int i3), .val (.int i4), .val (.ref xr_301), .val (.ref b302), .unset, .unset, .unset, .unset, .unset, .unset, .unset] [(.int (8 : Int32)), (.int i2), (.int (1 : Int32)), (.ref b316), (.ref b316), (.ref b315), (.ref b315)])) _
    refine XS.iushr X317.here hx rfl (hb hby at_65) rfl ?_
    show Steps p.tables e below (T317.setTop (mkF m 66 #[.val (.int i0), .val (.int i1), .val (.int i2), .val (.int i3), .val (.int i4), .val (.ref xr_301), .val (.ref b302), .unset, .unset, .unset, .unset, .unset, .unset, .unset] [(.int ((i2.toUInt32 >>> ((8 : Int32) &&& 31).toUInt32).toInt32)), (.int (1 : Int32)), (.ref b316), (.ref b316), (.ref b315), (.ref b315)])) _
    refine XS.sipush X317.here hx rfl (hb hby at_66) ?_
    show Steps p.tables e below (T317.setTop (mkF m 69 #[.val (.int i0), .val (.int i1), .val (.int i2), .val (.int i3), .val (.int i4), .val (.ref xr_301), .val (.ref b302), .unset, .unset, .unset, .unset, .unset, .unset, .unset] [(.int (255 : Int32)), (.int ((i2.toUInt32 >>> ((8 : Int32) &&& 31).toUInt32).toInt32)), (.int (1 : Int32)), (.ref b316), (.ref b316), (.ref b315), (.ref b315)])) _
    refine XS.iand X317.here hx rfl (hb hby at_69) rfl ?_
    show Steps p.tables e below (T317.setTop (mkF m 70 #[.val (.int i0), .val (.int i1), .val (.int i2), .val (.int i3), .val (.int i4), .val (.ref xr_301), .val (.ref b302), .unset, .unset, .unset, .unset, .unset, .unset, .unset] [(.int (((i2.toUInt32 >>> ((8 : Int32) &&& 31).toUInt32).toInt32) &&& (255 : Int32))), (.int (1 : Int32)), (.ref b316), (.ref b316), (.ref b315), (.ref b315)])) _
    refine XS.i2c X317.here hx rfl (hb hby at_70) rfl ?_
    show Steps p.tables e below (T317.setTop (mkF m 71 #[.val (.int i0), .val (.int i1), .val (.int i2), .val (.int i3), .val (.int i4), .val (.ref xr_301), .val (.ref b302), .unset, .unset, .unset, .unset, .unset, .unset, .unset] [(.int ((((i2.toUInt32 >>> ((8 : Int32) &&& 31).toUInt32).toInt32) &&& (255 : Int32)).toUInt32.toUInt16.toUInt32.toInt32)), (.int (1 : Int32)), (.ref b316), (.ref b316), (.ref b315), (.ref b315)])) _
    refine st319 _ ?_
    show Steps p.tables e below (T319.setTop (mkF m 72 #[.val (.int i0), .val (.int i1), .val (.int i2), .val (.int i3), .val (.int i4), .val (.ref xr_301), .val (.ref b302), .unset, .unset, .unset, .unset, .unset, .unset, .unset] [(.ref b316), (.ref b315), (.ref b315)])) _
    refine XS.dup X319.here hx rfl (hb hby at_72) rfl rfl ?_
    show Steps p.tables e below (T319.setTop (mkF m 73 #[.val (.int i0), .val (.int i1), .val (.int i2), .val (.int i3), .val (.int i4), .val (.ref xr_301), .val (.ref b302), .unset, .unset, .unset, .unset, .unset, .unset, .unset] [(.ref b316), (.ref b316), (.ref b315), (.ref b315)])) _
    refine XS.iconst X319.here hx rfl (hb hby at_73) ?_
    show Steps p.tables e below (T319.setTop (mkF m 74 #[.val (.int i0), .val (.int i1), .val (.int i2), .val (.int i3), .val (.int i4), .val (.ref xr_301), .val (.ref b302), .unset, .unset, .unset, .unset, .unset, .unset, .unset] [(.int (2 : Int32)), (.ref b316), (.ref b316), (.ref b315), (.ref b315)])) _
    refine XS.iloadN X319.here hx rfl (hb hby at_74) rfl ?_
    show Steps p.tables e below (T319.setTop (mkF m 75 #[.val (.int i0), .val (.int i1), .val (.int i2), .val (.int i3), .val (.int i4), .val (.ref xr_301), .val (.ref b302), .unset, .unset, .unset, .unset, .unset, .unset, .unset] [(.int i2), (.int (2 : Int32)), (.ref b316), (.ref b316), (.ref b315), (.ref b315)])) _
    refine XS.bipush X319.here hx rfl (hb hby at_75) ?_
    show Steps p.tables e below (T319.setTop (mkF m 77 #[.val (.int i0), .val (.int i1), .val (.int i2), .val (.int i3), .val (.int i4), .val (.ref xr_301), .val (.ref b302), .unset, .unset, .unset, .unset, .unset, .unset, .unset] [(.int (16 : Int32)), (.int i2), (.int (2 : Int32)), (.ref b316), (.ref b316), (.ref b315), (.ref b315)])) _
    refine XS.iushr X319.here hx rfl (hb hby at_77) rfl ?_
    show Steps p.tables e below (T319.setTop (mkF m 78 #[.val (.int i0), .val (.int i1), .val (.int i2), .val (.int i3), .val (.int i4), .val (.ref xr_301), .val (.ref b302), .unset, .unset, .unset, .unset, .unset, .unset, .unset] [(.int ((i2.toUInt32 >>> ((16 : Int32) &&& 31).toUInt32).toInt32)), (.int (2 : Int32)), (.ref b316), (.ref b316), (.ref b315), (.ref b315)])) _
    refine XS.sipush X319.here hx rfl (hb hby at_78) ?_
    show Steps p.tables e below (T319.setTop (mkF m 81 #[.val (.int i0), .val (.int i1), .val (.int i2), .val (.int i3), .val (.int i4), .val (.ref xr_301), .val (.ref b302), .unset, .unset, .unset, .unset, .unset, .unset, .unset] [(.int (255 : Int32)), (.int ((i2.toUInt32 >>> ((16 : Int32) &&& 31).toUInt32).toInt32)), (.int (2 : Int32)), (.ref b316), (.ref b316), (.ref b315), (.ref b315)])) _
    refine XS.iand X319.here hx rfl (hb hby at_81) rfl ?_
    show Steps p.tables e below (T319.setTop (mkF m 82 #[.val (.int i0), .val (.int i1), .val (.int i2), .val (.int i3), .val (.int i4), .val (.ref xr_301), .val (.ref b302), .unset, .unset, .unset, .unset, .unset, .unset, .unset] [(.int (((i2.toUInt32 >>> ((16 : Int32) &&& 31).toUInt32).toInt32) &&& (255 : Int32))), (.int (2 : Int32)), (.ref b316), (.ref b316), (.ref b315), (.ref b315)])) _
    refine XS.i2c X319.here hx rfl (hb hby at_82) rfl ?_
    show Steps p.tables e below (T319.setTop (mkF m 83 #[.val (.int i0), .val (.int i1), .val (.int i2), .val (.int i3), .val (.int i4), .val (.ref xr_301), .val (.ref b302), .unset, .unset, .unset, .unset, .unset, .unset, .unset] [(.int ((((i2.toUInt32 >>> ((16 : Int32) &&& 31).toUInt32).toInt32) &&& (255 : Int32)).toUInt32.toUInt16.toUInt32.toInt32)), (.int (2 : Int32)), (.ref b316), (.ref b316), (.ref b315), (.ref b315)])) _
    refine st320 _ ?_
    show Steps p.tables e below (T320.setTop (mkF m 84 #[.val (.int i0), .val (.int i1), .val (.int i2), .val (.int i3), .val (.int i4), .val (.ref xr_301), .val (.ref b302), .unset, .unset, .unset, .unset, .unset, .unset, .unset] [(.ref b316), (.ref b315), (.ref b315)])) _
    refine st321.trans ?_
    show Steps p.tables e below (T321.setTop (mkF m 87 #[.val (.int i0), .val (.int i1), .val (.int i2), .val (.int i3), .val (.int i4), .val (.ref xr_301), .val (.ref b302), .unset, .unset, .unset, .unset, .unset, .unset, .unset] [(.ref b315)])) _
    refine XS.astore X321.here hx rfl (hb hby at_87) rfl rfl (l' := #[.val (.int i0), .val (.int i1), .val (.int i2), .val (.int i3), .val (.int i4), .val (.ref xr_301), .val (.ref b302), .val (.ref b315), .unset, .unset, .unset, .unset, .unset, .unset]) rfl ?_
    show Steps p.tables e below (T321.setTop (mkF m 89 #[.val (.int i0), .val (.int i1), .val (.int i2), .val (.int i3), .val (.int i4), .val (.ref xr_301), .val (.ref b302), .val (.ref b315), .unset, .unset, .unset, .unset, .unset, .unset] [])) _
    refine XS.iconst X321.here hx rfl (hb hby at_89) ?_
    show Steps p.tables e below (T321.setTop (mkF m 90 #[.val (.int i0), .val (.int i1), .val (.int i2), .val (.int i3), .val (.int i4), .val (.ref xr_301), .val (.ref b302), .val (.ref b315), .unset, .unset, .unset, .unset, .unset, .unset] [(.int (1 : Int32))])) _
    refine XS.iloadN X321.here hx rfl (hb hby at_90) rfl ?_
    show Steps p.tables e below (T321.setTop (mkF m 91 #[.val (.int i0), .val (.int i1), .val (.int i2), .val (.int i3), .val (.int i4), .val (.ref xr_301), .val (.ref b302), .val (.ref b315), .unset, .unset, .unset, .unset, .unset, .unset] [(.int i3), (.int (1 : Int32))])) _
    refine X321.ldcInt hx hown (mvT hZ (hw _ (List.mem_of_getElem? (i := 44) rfl))) (g := (mkF m 91 #[.val (.int i0), .val (.int i1), .val (.int i2), .val (.int i3), .val (.int i4), .val (.ref xr_301), .val (.ref b302), .val (.ref b315), .unset, .unset, .unset, .unset, .unset, .unset] [(.int i3), (.int (1 : Int32))])) rfl (hb hby at_91) _ ?_
    show Steps p.tables e below (T321.setTop (mkF m 93 #[.val (.int i0), .val (.int i1), .val (.int i2), .val (.int i3), .val (.int i4), .val (.ref xr_301), .val (.ref b302), .val (.ref b315), .unset, .unset, .unset, .unset, .unset, .unset] [(.int (2147483647 : Int32)), (.int i3), (.int (1 : Int32))])) _
    refine XS.iand X321.here hx rfl (hb hby at_93) rfl ?_
    show Steps p.tables e below (T321.setTop (mkF m 94 #[.val (.int i0), .val (.int i1), .val (.int i2), .val (.int i3), .val (.int i4), .val (.ref xr_301), .val (.ref b302), .val (.ref b315), .unset, .unset, .unset, .unset, .unset, .unset] [(.int (i3 &&& (2147483647 : Int32))), (.int (1 : Int32))])) _
    refine XS.iconst X321.here hx rfl (hb hby at_94) ?_
    show Steps p.tables e below (T321.setTop (mkF m 95 #[.val (.int i0), .val (.int i1), .val (.int i2), .val (.int i3), .val (.int i4), .val (.ref xr_301), .val (.ref b302), .val (.ref b315), .unset, .unset, .unset, .unset, .unset, .unset] [(.int (3 : Int32)), (.int (i3 &&& (2147483647 : Int32))), (.int (1 : Int32))])) _
    refine iremM X321 hx rfl (hb hby at_95) rfl (by decide) ?_
    show Steps p.tables e below (T321.setTop (mkF m 96 #[.val (.int i0), .val (.int i1), .val (.int i2), .val (.int i3), .val (.int i4), .val (.ref xr_301), .val (.ref b302), .val (.ref b315), .unset, .unset, .unset, .unset, .unset, .unset] [(.int ((i3 &&& (2147483647 : Int32)) % (3 : Int32))), (.int (1 : Int32))])) _
    refine XS.iadd X321.here hx rfl (hb hby at_96) rfl ?_
    show Steps p.tables e below (T321.setTop (mkF m 97 #[.val (.int i0), .val (.int i1), .val (.int i2), .val (.int i3), .val (.int i4), .val (.ref xr_301), .val (.ref b302), .val (.ref b315), .unset, .unset, .unset, .unset, .unset, .unset] [(.int ((1 : Int32) + ((i3 &&& (2147483647 : Int32)) % (3 : Int32))))])) _
    refine XS.istore X321.here hx rfl (hb hby at_97) rfl (l' := #[.val (.int i0), .val (.int i1), .val (.int i2), .val (.int i3), .val (.int i4), .val (.ref xr_301), .val (.ref b302), .val (.ref b315), .val (.int ((1 : Int32) + ((i3 &&& (2147483647 : Int32)) % (3 : Int32)))), .unset, .unset, .unset, .unset, .unset]) rfl ?_
    show Steps p.tables e below (T321.setTop (mkF m 99 #[.val (.int i0), .val (.int i1), .val (.int i2), .val (.int i3), .val (.int i4), .val (.ref xr_301), .val (.ref b302), .val (.ref b315), .val (.int ((1 : Int32) + ((i3 &&& (2147483647 : Int32)) % (3 : Int32)))), .unset, .unset, .unset, .unset, .unset] [])) _
    exact kk)
  obtain ⟨nn, h_nn⟩ : ∃ z, z = ((1 : Int32) + ((i3 &&& (2147483647 : Int32)) % (3 : Int32))) := ⟨_, rfl⟩
  rw [← h_nn] at pre329
  have hn : nn = (1 : Int32) ∨ nn = (2 : Int32) ∨ nn = (3 : Int32) := by rw [h_nn]; exact own_n3 i3
  obtain ⟨T330, h330, X330, e330, E330, A330, D330, -, st330⟩ := newO X321 hx hZ hown (hw _ (List.mem_of_getElem? (i := 45) rfl)) (hw _ (List.mem_of_getElem? (i := 46) rfl)) (hw _ (List.mem_of_getElem? (i := 47) rfl)) rfl (g := (mkF m 99 #[.val (.int i0), .val (.int i1), .val (.int i2), .val (.int i3), .val (.int i4), .val (.ref xr_301), .val (.ref b302), .val (.ref b315), .val (.int nn), .unset, .unset, .unset, .unset, .unset] [])) rfl (hb hby at_99) (by decide) (by decide)
  obtain ⟨b330, g330⟩ : ∃ z, z = T321.heap.size := ⟨_, rfl⟩
  rw [← g330] at A330 D330 st330
  have D330_modCount : Fld Z h330 b330 "java/util/AbstractList" "modCount" "I" (.int (0 : Int32)) := D330 (Or.inl (hw _ (List.mem_of_getElem? (i := 65) rfl))) (ty := .int) (by decide)
  have D330_elementData : Fld Z h330 b330 "java/util/ArrayList" "elementData" "[Ljava/lang/Object;" .null := D330 (Or.inl (hw _ (List.mem_of_getElem? (i := 68) rfl))) (ty := (.array (.object "java/lang/Object"))) (by decide)
  have D330_size : Fld Z h330 b330 "java/util/ArrayList" "size" "I" (.int (0 : Int32)) := D330 (Or.inl (hw _ (List.mem_of_getElem? (i := 77) rfl))) (ty := .int) (by decide)
  have c331 : Old Z n0 h330 := ((c322.keep K321 (allS ge328 all0)).ext E330)
  have ge332 : n0 ≤ b330 := Nat.le_trans Z0 (Nat.le_trans (Nat.le_trans (Nat.le_trans (Nat.le_trans (Nat.le_trans (Nat.le_trans (Nat.le_trans (Nat.le_trans (Nat.le_trans (Nat.le_trans (Nat.le_trans (Nat.le_trans K301.1 E302.1) E303.1) (Keep.of_wr W304).1) (Keep.of_wr W306).1) K307.1) E315.1) E316.1) (Keep.of_wr W317).1) (Keep.of_wr W319).1) (Keep.of_wr W320).1) K321.1) (Nat.le_of_eq g330.symm))
  obtain ⟨_, _, ⟨T333, L333, k333, n333⟩, -, X333, ⟨Lc333, hQ333, l333, y333, z333⟩, st333⟩ := X330.specialBack hx (y := (⟨"java/util/ArrayList", "<init>", "()V"⟩ : MethodName)) rfl hown (mvT hZ (hw _ (List.mem_of_getElem? (i := 48) rfl))) (mvT hZ (hw _ (List.mem_of_getElem? (i := 49) rfl))) (mvT hZ (hw _ (List.mem_of_getElem? (i := 50) rfl))) (by decide) (backOf (W := 1) (rm_ali l Z a0 hw [] b330 dd h330 n0 (Nat.le_trans Z0 (Nat.le_trans (Nat.le_trans (Nat.le_trans (Nat.le_trans (Nat.le_trans (Nat.le_trans (Nat.le_trans (Nat.le_trans (Nat.le_trans (Nat.le_trans (Nat.le_trans (Nat.le_trans K301.1 E302.1) E303.1) (Keep.of_wr W304).1) (Keep.of_wr W306).1) K307.1) E315.1) E316.1) (Keep.of_wr W317).1) (Keep.of_wr W319).1) (Keep.of_wr W320).1) K321.1) E330.1)) q2 c331 A330 D330_modCount D330_size D330_elementData ge332) hZ (hw _ (List.mem_of_getElem? (i := 50) rfl)) (hw _ (List.mem_of_getElem? (i := 47) rfl)) (by decide) (by decide)) (g := (mkF m 103 #[.val (.int i0), .val (.int i1), .val (.int i2), .val (.int i3), .val (.int i4), .val (.ref xr_301), .val (.ref b302), .val (.ref b315), .val (.int nn), .unset, .unset, .unset, .unset, .unset] [(.ref b330), (.ref b330)])) rfl (by rw [hml]; rfl) (Steps.refl _) (a := b330) (argsL := []) (rest := [(.ref b330)]) (lenOf pd_3 rfl) rfl (by show 2 * 0 + _ ≤ _; exact Nat.le_of_eq rfl) (hb hby at_103) (fun _ _ => ⟨rfl, e330, (by decide : 9 + 0 ≤ _), (by decide : 26 + 0 ≤ _)⟩)
  dsimp only [Pt.U, Pt.locs, Pt.cells, Pt.slots] at X333 l333 y333 z333 st333 hQ333
  subst l333 y333 z333
  obtain ⟨rfl, Nq333, K333, f333_0, f333_1, f333_2⟩ := hQ333
  have N333 := Fr.app N321 Nq333
  have c334 : Exa Z T333.heap b330 "java/util/ArrayList" := (A330.keep K333)
  have c335 : Old Z n0 T333.heap := (c331.keep K333 (allS ge332 all0))
  have c336 : Exa Z T333.heap xr_301 "java/lang/String" := (((((((((((((f301_2.ext E302).ext E303).wr W304).wr W306).keep K307).ext E315).ext E316).wr W317).wr W319).wr W320).keep K321).ext E330).keep K333)
  obtain ⟨cq337, kq337, q337a, q337b, q337c⟩ := isOf hZ rfl c334
  obtain ⟨_, _, ⟨T337, L337, k337, n337⟩, -, X337, ⟨Lc337, hQ337, l337, y337, z337⟩, st337⟩ := X333.virtualBack hx (y := (⟨"java/util/ArrayList", "add", "(Ljava/lang/Object;)Z"⟩ : MethodName)) (z := (⟨"java/util/ArrayList", "add", "(Ljava/lang/Object;)Z"⟩ : MethodName)) hown (mvT hZ (hw _ (List.mem_of_getElem? (i := 69) rfl))) (mvT hZ (hw _ (List.mem_of_getElem? (i := 70) rfl))) (notFace_of_selects (args := #[]) (mvT hZ (hw _ (List.mem_of_getElem? (i := 72) rfl)))) (mvT hZ (hw _ (List.mem_of_getElem? (i := 72) rfl))) (mvT hZ (hw _ (List.mem_of_getElem? (i := 71) rfl))) (by decide) (backOf (W := 0) (rm_add_0 l Z a0 hw [] b330 xr_301 dd kd T333.heap n0 (Nat.le_trans Z0 (Nat.le_trans (Nat.le_trans (Nat.le_trans (Nat.le_trans (Nat.le_trans (Nat.le_trans (Nat.le_trans (Nat.le_trans (Nat.le_trans (Nat.le_trans (Nat.le_trans (Nat.le_trans (Nat.le_trans K301.1 E302.1) E303.1) (Keep.of_wr W304).1) (Keep.of_wr W306).1) K307.1) E315.1) E316.1) (Keep.of_wr W317).1) (Keep.of_wr W319).1) (Keep.of_wr W320).1) K321.1) E330.1) K333.1)) q2 q3 c335 c334 f333_0 f333_1 f333_2 ge332 c336) hZ (hw _ (List.mem_of_getElem? (i := 73) rfl)) (hw _ (List.mem_of_getElem? (i := 47) rfl)) (by decide) (by decide)) q337a q337c (g := (mkF m 112 #[.val (.int i0), .val (.int i1), .val (.int i2), .val (.int i3), .val (.int i4), .val (.ref xr_301), .val (.ref b302), .val (.ref b315), .val (.int nn), .val (.ref b330), .unset, .unset, .unset, .unset] [(.ref xr_301), (.ref b330)])) rfl (by rw [hml]; rfl) (Steps.refl _) (argsL := [(.ref xr_301)]) (rest := []) (lenOf pd_12 rfl) rfl (by show 2 * 0 + _ ≤ _; exact Nat.le_of_eq rfl) (hb hby at_112) (fun _ _ => ⟨rfl, rfl, (by decide : 9 + 1 ≤ _), (by decide : 26 + 10 ≤ _)⟩)
  dsimp only [Pt.U, Pt.locs, Pt.cells, Pt.slots] at X337 l337 y337 z337 st337 hQ337
  subst l337 y337 z337
  obtain ⟨es_337, ke_337, rfl, Nq337, K337, f337_0, f337_1, f337_2, f337_3, f337_4, f337_5⟩ := hQ337
  have N337 := Fr.app N333 Nq337
  have pre338 : ∀ t, Steps p.tables e below (T337.setTop (mkF m 116 #[.val (.int i0), .val (.int i1), .val (.int i2), .val (.int i3), .val (.int i4), .val (.ref xr_301), .val (.ref b302), .val (.ref b315), .val (.int nn), .val (.ref b330), .unset, .unset, .unset, .unset] [])) t → Steps p.tables e below (s₁.setTop (entryFrame m #[(.int i0), (.int i1), (.int i2), (.int i3), (.int i4)] maxLocals)) t := fun t kk => pre329 t (by
    refine st330 _ ?_
    show Steps p.tables e below (T330.setTop (mkF m 102 #[.val (.int i0), .val (.int i1), .val (.int i2), .val (.int i3), .val (.int i4), .val (.ref xr_301), .val (.ref b302), .val (.ref b315), .val (.int nn), .unset, .unset, .unset, .unset, .unset] [(.ref b330)])) _
    refine XS.dup X330.here hx rfl (hb hby at_102) rfl rfl ?_
    show Steps p.tables e below (T330.setTop (mkF m 103 #[.val (.int i0), .val (.int i1), .val (.int i2), .val (.int i3), .val (.int i4), .val (.ref xr_301), .val (.ref b302), .val (.ref b315), .val (.int nn), .unset, .unset, .unset, .unset, .unset] [(.ref b330), (.ref b330)])) _
    refine st333.trans ?_
    show Steps p.tables e below (T333.setTop (mkF m 106 #[.val (.int i0), .val (.int i1), .val (.int i2), .val (.int i3), .val (.int i4), .val (.ref xr_301), .val (.ref b302), .val (.ref b315), .val (.int nn), .unset, .unset, .unset, .unset, .unset] [(.ref b330)])) _
    refine XS.astore X333.here hx rfl (hb hby at_106) rfl rfl (l' := #[.val (.int i0), .val (.int i1), .val (.int i2), .val (.int i3), .val (.int i4), .val (.ref xr_301), .val (.ref b302), .val (.ref b315), .val (.int nn), .val (.ref b330), .unset, .unset, .unset, .unset]) rfl ?_
    show Steps p.tables e below (T333.setTop (mkF m 108 #[.val (.int i0), .val (.int i1), .val (.int i2), .val (.int i3), .val (.int i4), .val (.ref xr_301), .val (.ref b302), .val (.ref b315), .val (.int nn), .val (.ref b330), .unset, .unset, .unset, .unset] [])) _
    refine XS.aload X333.here hx rfl (hb hby at_108) rfl rfl ?_
    show Steps p.tables e below (T333.setTop (mkF m 110 #[.val (.int i0), .val (.int i1), .val (.int i2), .val (.int i3), .val (.int i4), .val (.ref xr_301), .val (.ref b302), .val (.ref b315), .val (.int nn), .val (.ref b330), .unset, .unset, .unset, .unset] [(.ref b330)])) _
    refine XS.aload X333.here hx rfl (hb hby at_110) rfl rfl ?_
    show Steps p.tables e below (T333.setTop (mkF m 112 #[.val (.int i0), .val (.int i1), .val (.int i2), .val (.int i3), .val (.int i4), .val (.ref xr_301), .val (.ref b302), .val (.ref b315), .val (.int nn), .val (.ref b330), .unset, .unset, .unset, .unset] [(.ref xr_301), (.ref b330)])) _
    refine st337.trans ?_
    show Steps p.tables e below (T337.setTop (mkF m 115 #[.val (.int i0), .val (.int i1), .val (.int i2), .val (.int i3), .val (.int i4), .val (.ref xr_301), .val (.ref b302), .val (.ref b315), .val (.int nn), .val (.ref b330), .unset, .unset, .unset, .unset] [(.int (1 : Int32))])) _
    refine XS.pop X337.here hx rfl (hb hby at_115) rfl rfl ?_
    show Steps p.tables e below (T337.setTop (mkF m 116 #[.val (.int i0), .val (.int i1), .val (.int i2), .val (.int i3), .val (.int i4), .val (.ref xr_301), .val (.ref b302), .val (.ref b315), .val (.int nn), .val (.ref b330), .unset, .unset, .unset, .unset] [])) _
    exact kk)
  rcases hn with hn | hn | hn
  · subst hn
    obtain ⟨T339, h339, X339, e339, E339, A339, D339, -, st339⟩ := newO X337 hx hZ hown (hw _ (List.mem_of_getElem? (i := 100) rfl)) (hw _ (List.mem_of_getElem? (i := 101) rfl)) (hw _ (List.mem_of_getElem? (i := 102) rfl)) rfl (g := (mkF m 144 #[.val (.int i0), .val (.int i1), .val (.int i2), .val (.int i3), .val (.int i4), .val (.ref xr_301), .val (.ref b302), .val (.ref b315), .val (.int (1 : Int32)), .val (.ref b330), .unset, .unset, .unset, .unset] [])) rfl (hb hby at_144) (by decide) (by decide)
    obtain ⟨b339, g339⟩ : ∃ z, z = T337.heap.size := ⟨_, rfl⟩
    rw [← g339] at A339 D339 st339
    have D339_words : Fld Z h339 b339 "com/example/rowscribe/rowscribe/cli/CommandLine" "words" "Ljava/util/List;" .null := D339 (Or.inr (hw _ (List.mem_of_getElem? (i := 113) rfl))) (ty := (.object "java/util/List")) (by decide)
    have D339_options : Fld Z h339 b339 "com/example/rowscribe/rowscribe/cli/CommandLine" "options" "Ljava/util/Map;" .null := D339 (Or.inr (hw _ (List.mem_of_getElem? (i := 115) rfl))) (ty := (.object "java/util/Map")) (by decide)
    have ge340 : n0 ≤ b339 := Nat.le_trans Z0 (Nat.le_trans (Nat.le_trans (Nat.le_trans (Nat.le_trans (Nat.le_trans (Nat.le_trans (Nat.le_trans (Nat.le_trans (Nat.le_trans (Nat.le_trans (Nat.le_trans (Nat.le_trans (Nat.le_trans (Nat.le_trans (Nat.le_trans K301.1 E302.1) E303.1) (Keep.of_wr W304).1) (Keep.of_wr W306).1) K307.1) E315.1) E316.1) (Keep.of_wr W317).1) (Keep.of_wr W319).1) (Keep.of_wr W320).1) K321.1) E330.1) K333.1) K337.1) (Nat.le_of_eq g339.symm))
    obtain ⟨_, _, ⟨T341, L341, k341, n341⟩, -, X341, ⟨Lc341, hQ341, l341, y341, z341⟩, st341⟩ := X339.specialBack hx (y := (⟨"com/example/rowscribe/rowscribe/cli/CommandLine", "<init>", "(Ljava/util/List;Ljava/util/Map;)V"⟩ : MethodName)) rfl hown (mvT hZ (hw _ (List.mem_of_getElem? (i := 103) rfl))) (mvT hZ (hw _ (List.mem_of_getElem? (i := 104) rfl))) (mvT hZ (hw _ (List.mem_of_getElem? (i := 105) rfl))) (by decide) (backOf (W := 1) (rm_clinit l Z a0 hw [] b339 b330 h339 n0 (Nat.le_trans Z0 (Nat.le_trans (Nat.le_trans (Nat.le_trans (Nat.le_trans (Nat.le_trans (Nat.le_trans (Nat.le_trans (Nat.le_trans (Nat.le_trans (Nat.le_trans (Nat.le_trans (Nat.le_trans (Nat.le_trans (Nat.le_trans (Nat.le_trans K301.1 E302.1) E303.1) (Keep.of_wr W304).1) (Keep.of_wr W306).1) K307.1) E315.1) E316.1) (Keep.of_wr W317).1) (Keep.of_wr W319).1) (Keep.of_wr W320).1) K321.1) E330.1) K333.1) K337.1) E339.1)) A339 D339_words D339_options ge340) hZ (hw _ (List.mem_of_getElem? (i := 105) rfl)) (hw _ (List.mem_of_getElem? (i := 102) rfl)) (by decide) (by decide)) (g := (mkF m 151 #[.val (.int i0), .val (.int i1), .val (.int i2), .val (.int i3), .val (.int i4), .val (.ref xr_301), .val (.ref b302), .val (.ref b315), .val (.int (1 : Int32)), .val (.ref b330), .unset, .unset, .unset, .unset] [.null, (.ref b330), (.ref b339), (.ref b339)])) rfl (by rw [hml]; rfl) (Steps.refl _) (a := b339) (argsL := [(.ref b330), .null]) (rest := [(.ref b339)]) (lenOf pd_13 rfl) rfl (by show 2 * 0 + _ ≤ _; exact Nat.le_of_eq rfl) (hb hby at_151) (fun _ _ => ⟨rfl, e339, (by decide : 11 + 0 ≤ _), (by decide : 38 + 0 ≤ _)⟩)
    dsimp only [Pt.U, Pt.locs, Pt.cells, Pt.slots] at X341 l341 y341 z341 st341 hQ341
    subst l341 y341 z341
    obtain ⟨rfl, Nq341, K341, f341_0⟩ := hQ341
    have N341 := Fr.app N337 Nq341
    have pre342 : ∀ t, Steps p.tables e below (T341.setTop (mkF m 166 #[.val (.int i0), .val (.int i1), .val (.int i2), .val (.int i3), .val (.int i4), .val (.ref xr_301), .val (.ref b302), .val (.ref b315), .val (.int (1 : Int32)), .val (.ref b330), .val (.ref b339), .val (.int ((i4 &&& (2147483647 : Int32)) % (1 : Int32))), .unset, .unset] [])) t → Steps p.tables e below (s₁.setTop (entryFrame m #[(.int i0), (.int i1), (.int i2), (.int i3), (.int i4)] maxLocals)) t := fun t kk => pre338 t (by
      refine XS.iload X337.here hx rfl (hb hby at_116) rfl ?_
      show Steps p.tables e below (T337.setTop (mkF m 118 #[.val (.int i0), .val (.int i1), .val (.int i2), .val (.int i3), .val (.int i4), .val (.ref xr_301), .val (.ref b302), .val (.ref b315), .val (.int (1 : Int32)), .val (.ref b330), .unset, .unset, .unset, .unset] [(.int (1 : Int32))])) _
      refine XS.iconst X337.here hx rfl (hb hby at_118) ?_
      show Steps p.tables e below (T337.setTop (mkF m 119 #[.val (.int i0), .val (.int i1), .val (.int i2), .val (.int i3), .val (.int i4), .val (.ref xr_301), .val (.ref b302), .val (.ref b315), .val (.int (1 : Int32)), .val (.ref b330), .unset, .unset, .unset, .unset] [(.int (1 : Int32)), (.int (1 : Int32))])) _
      refine XS.icmpYes X337.here hx rfl (pc0 := 119) (pc' := 130) rfl (hb hby at_119) rfl (flt ((by decide) : ¬ ((1 : Int32) < (1 : Int32)))).2.2.2 (by decide) (by decide) ?_
      show Steps p.tables e below (T337.setTop (mkF m 130 #[.val (.int i0), .val (.int i1), .val (.int i2), .val (.int i3), .val (.int i4), .val (.ref xr_301), .val (.ref b302), .val (.ref b315), .val (.int (1 : Int32)), .val (.ref b330), .unset, .unset, .unset, .unset] [])) _
      refine XS.iload X337.here hx rfl (hb hby at_130) rfl ?_
      show Steps p.tables e below (T337.setTop (mkF m 132 #[.val (.int i0), .val (.int i1), .val (.int i2), .val (.int i3), .val (.int i4), .val (.ref xr_301), .val (.ref b302), .val (.ref b315), .val (.int (1 : Int32)), .val (.ref b330), .unset, .unset, .unset, .unset] [(.int (1 : Int32))])) _
      refine XS.iconst X337.here hx rfl (hb hby at_132) ?_
      show Steps p.tables e below (T337.setTop (mkF m 133 #[.val (.int i0), .val (.int i1), .val (.int i2), .val (.int i3), .val (.int i4), .val (.ref xr_301), .val (.ref b302), .val (.ref b315), .val (.int (1 : Int32)), .val (.ref b330), .unset, .unset, .unset, .unset] [(.int (2 : Int32)), (.int (1 : Int32))])) _
      refine XS.icmpYes X337.here hx rfl (pc0 := 133) (pc' := 144) rfl (hb hby at_133) rfl (flt ((by decide) : ¬ ((2 : Int32) < (1 : Int32)))).2.2.2 (by decide) (by decide) ?_
      show Steps p.tables e below (T337.setTop (mkF m 144 #[.val (.int i0), .val (.int i1), .val (.int i2), .val (.int i3), .val (.int i4), .val (.ref xr_301), .val (.ref b302), .val (.ref b315), .val (.int (1 : Int32)), .val (.ref b330), .unset, .unset, .unset, .unset] [])) _
      refine st339 _ ?_
      show Steps p.tables e below (T339.setTop (mkF m 147 #[.val (.int i0), .val (.int i1), .val (.int i2), .val (.int i3), .val (.int i4), .val (.ref xr_301), .val (.ref b302), .val (.ref b315), .val (.int (1 : Int32)), .val (.ref b330), .unset, .unset, .unset, .unset] [(.ref b339)])) _
      refine XS.dup X339.here hx rfl (hb hby at_147) rfl rfl ?_
      show Steps p.tables e below (T339.setTop (mkF m 148 #[.val (.int i0), .val (.int i1), .val (.int i2), .val (.int i3), .val (.int i4), .val (.ref xr_301), .val (.ref b302), .val (.ref b315), .val (.int (1 : Int32)), .val (.ref b330), .unset, .unset, .unset, .unset] [(.ref b339), (.ref b339)])) _
      refine XS.aload X339.here hx rfl (hb hby at_148) rfl rfl ?_
      show Steps p.tables e below (T339.setTop (mkF m 150 #[.val (.int i0), .val (.int i1), .val (.int i2), .val (.int i3), .val (.int i4), .val (.ref xr_301), .val (.ref b302), .val (.ref b315), .val (.int (1 : Int32)), .val (.ref b330), .unset, .unset, .unset, .unset] [(.ref b330), (.ref b339), (.ref b339)])) _
      refine XS.aconstNull X339.here hx rfl (hb hby at_150) ?_
      show Steps p.tables e below (T339.setTop (mkF m 151 #[.val (.int i0), .val (.int i1), .val (.int i2), .val (.int i3), .val (.int i4), .val (.ref xr_301), .val (.ref b302), .val (.ref b315), .val (.int (1 : Int32)), .val (.ref b330), .unset, .unset, .unset, .unset] [.null, (.ref b330), (.ref b339), (.ref b339)])) _
      refine st341.trans ?_
      show Steps p.tables e below (T341.setTop (mkF m 154 #[.val (.int i0), .val (.int i1), .val (.int i2), .val (.int i3), .val (.int i4), .val (.ref xr_301), .val (.ref b302), .val (.ref b315), .val (.int (1 : Int32)), .val (.ref b330), .unset, .unset, .unset, .unset] [(.ref b339)])) _
      refine XS.astore X341.here hx rfl (hb hby at_154) rfl rfl (l' := #[.val (.int i0), .val (.int i1), .val (.int i2), .val (.int i3), .val (.int i4), .val (.ref xr_301), .val (.ref b302), .val (.ref b315), .val (.int (1 : Int32)), .val (.ref b330), .val (.ref b339), .unset, .unset, .unset]) rfl ?_
      show Steps p.tables e below (T341.setTop (mkF m 156 #[.val (.int i0), .val (.int i1), .val (.int i2), .val (.int i3), .val (.int i4), .val (.ref xr_301), .val (.ref b302), .val (.ref b315), .val (.int (1 : Int32)), .val (.ref b330), .val (.ref b339), .unset, .unset, .unset] [])) _
      refine XS.iload X341.here hx rfl (hb hby at_156) rfl ?_
      show Steps p.tables e below (T341.setTop (mkF m 158 #[.val (.int i0), .val (.int i1), .val (.int i2), .val (.int i3), .val (.int i4), .val (.ref xr_301), .val (.ref b302), .val (.ref b315), .val (.int (1 : Int32)), .val (.ref b330), .val (.ref b339), .unset, .unset, .unset] [(.int i4)])) _
      refine X341.ldcInt hx hown (mvT hZ (hw _ (List.mem_of_getElem? (i := 44) rfl))) (g := (mkF m 158 #[.val (.int i0), .val (.int i1), .val (.int i2), .val (.int i3), .val (.int i4), .val (.ref xr_301), .val (.ref b302), .val (.ref b315), .val (.int (1 : Int32)), .val (.ref b330), .val (.ref b339), .unset, .unset, .unset] [(.int i4)])) rfl (hb hby at_158) _ ?_
      show Steps p.tables e below (T341.setTop (mkF m 160 #[.val (.int i0), .val (.int i1), .val (.int i2), .val (.int i3), .val (.int i4), .val (.ref xr_301), .val (.ref b302), .val (.ref b315), .val (.int (1 : Int32)), .val (.ref b330), .val (.ref b339), .unset, .unset, .unset] [(.int (2147483647 : Int32)), (.int i4)])) _
      refine XS.iand X341.here hx rfl (hb hby at_160) rfl ?_
      show Steps p.tables e below (T341.setTop (mkF m 161 #[.val (.int i0), .val (.int i1), .val (.int i2), .val (.int i3), .val (.int i4), .val (.ref xr_301), .val (.ref b302), .val (.ref b315), .val (.int (1 : Int32)), .val (.ref b330), .val (.ref b339), .unset, .unset, .unset] [(.int (i4 &&& (2147483647 : Int32)))])) _
      refine XS.iload X341.here hx rfl (hb hby at_161) rfl ?_
      show Steps p.tables e below (T341.setTop (mkF m 163 #[.val (.int i0), .val (.int i1), .val (.int i2), .val (.int i3), .val (.int i4), .val (.ref xr_301), .val (.ref b302), .val (.ref b315), .val (.int (1 : Int32)), .val (.ref b330), .val (.ref b339), .unset, .unset, .unset] [(.int (1 : Int32)), (.int (i4 &&& (2147483647 : Int32)))])) _
      refine iremM X341 hx rfl (hb hby at_163) rfl (by decide) ?_
      show Steps p.tables e below (T341.setTop (mkF m 164 #[.val (.int i0), .val (.int i1), .val (.int i2), .val (.int i3), .val (.int i4), .val (.ref xr_301), .val (.ref b302), .val (.ref b315), .val (.int (1 : Int32)), .val (.ref b330), .val (.ref b339), .unset, .unset, .unset] [(.int ((i4 &&& (2147483647 : Int32)) % (1 : Int32)))])) _
      refine XS.istore X341.here hx rfl (hb hby at_164) rfl (l' := #[.val (.int i0), .val (.int i1), .val (.int i2), .val (.int i3), .val (.int i4), .val (.ref xr_301), .val (.ref b302), .val (.ref b315), .val (.int (1 : Int32)), .val (.ref b330), .val (.ref b339), .val (.int ((i4 &&& (2147483647 : Int32)) % (1 : Int32))), .unset, .unset]) rfl ?_
      show Steps p.tables e below (T341.setTop (mkF m 166 #[.val (.int i0), .val (.int i1), .val (.int i2), .val (.int i3), .val (.int i4), .val (.ref xr_301), .val (.ref b302), .val (.ref b315), .val (.int (1 : Int32)), .val (.ref b330), .val (.ref b339), .val (.int ((i4 &&& (2147483647 : Int32)) % (1 : Int32))), .unset, .unset] [])) _
      exact kk)
    obtain ⟨jj, h_jj⟩ : ∃ z, z = ((i4 &&& (2147483647 : Int32)) % (1 : Int32)) := ⟨_, rfl⟩
    rw [← h_jj] at pre342
    have hj : jj = (0 : Int32) := by rw [h_jj]; exact own_m1 i4
    subst hj
    have c343 : Exa Z T341.heap b339 "com/example/rowscribe/rowscribe/cli/CommandLine" := (A339.keep K341)
    have c344 : Exa Z T341.heap b330 "java/util/ArrayList" := (((c334.keep K337).ext E339).keep K341)
    have ne345 : b330 ≠ b339 := Nat.ne_of_lt (Nat.lt_of_lt_of_le f337_1.lt (Nat.le_of_eq g339.symm))
    have c346 : Fld Z T341.heap b330 "java/util/ArrayList" "elementData" "[Ljava/lang/Object;" (.ref es_337) := ((f337_3.ext E339).keep K341 (ninS ne345 nin0))
    have c347 : Fld Z T341.heap b330 "java/util/ArrayList" "size" "I" (.int (1 : Int32)) := ((f337_2.ext E339).keep K341 (ninS ne345 nin0))
    have ne348 : es_337 ≠ b339 := Nat.ne_of_lt (Nat.lt_of_lt_of_le f337_4.lt (Nat.le_of_eq g339.symm))
    have c349 : Arv Z T341.heap es_337 ke_337 (.object "java/lang/Object") (10 : Int32) [(.ref xr_301), .null, .null, .null, .null, .null, .null, .null, .null, .null] .null := ((f337_4.ext E339).keep K341 (ninS ne348 nin0))
    have c350 : Exa Z T341.heap xr_301 "java/lang/String" := (((c336.keep K337).ext E339).keep K341)
    obtain ⟨cq351, kq351, q351a, q351b, q351c⟩ := isOf hZ rfl c343
    obtain ⟨_, _, ⟨T351, L351, k351, n351⟩, -, X351, ⟨Lc351, hQ351, l351, y351, z351⟩, st351⟩ := X341.virtualBack hx (y := (⟨"com/example/rowscribe/rowscribe/cli/CommandLine", "word", "(I)Ljava/lang/String;"⟩ : MethodName)) (z := (⟨"com/example/rowscribe/rowscribe/cli/CommandLine", "word", "(I)Ljava/lang/String;"⟩ : MethodName)) hown (mvT hZ (hw _ (List.mem_of_getElem? (i := 116) rfl))) (mvT hZ (hw _ (List.mem_of_getElem? (i := 117) rfl))) (notFace_of_selects (args := #[]) (mvT hZ (hw _ (List.mem_of_getElem? (i := 119) rfl)))) (mvT hZ (hw _ (List.mem_of_getElem? (i := 119) rfl))) (mvT hZ (hw _ (List.mem_of_getElem? (i := 118) rfl))) (by decide) (backOf (W := 0) (rm_word l Z a0 hw [] b339 b330 (0 : Int32) es_337 ke_337 (1 : Int32) ([(.ref xr_301), .null, .null, .null, .null, .null, .null, .null, .null, .null]) xr_301 T341.heap n0 (Nat.le_trans Z0 (Nat.le_trans (Nat.le_trans (Nat.le_trans (Nat.le_trans (Nat.le_trans (Nat.le_trans (Nat.le_trans (Nat.le_trans (Nat.le_trans (Nat.le_trans (Nat.le_trans (Nat.le_trans (Nat.le_trans (Nat.le_trans (Nat.le_trans (Nat.le_trans K301.1 E302.1) E303.1) (Keep.of_wr W304).1) (Keep.of_wr W306).1) K307.1) E315.1) E316.1) (Keep.of_wr W317).1) (Keep.of_wr W319).1) (Keep.of_wr W320).1) K321.1) E330.1) K333.1) K337.1) E339.1) K341.1)) f341_0 c344 c346 c347 c349 (by decide) (by decide) (by decide) (rfl) c350) hZ (hw _ (List.mem_of_getElem? (i := 120) rfl)) (hw _ (List.mem_of_getElem? (i := 102) rfl)) (by decide) (by decide)) q351a q351c (g := (mkF m 195 #[.val (.int i0), .val (.int i1), .val (.int i2), .val (.int i3), .val (.int i4), .val (.ref xr_301), .val (.ref b302), .val (.ref b315), .val (.int (1 : Int32)), .val (.ref b330), .val (.ref b339), .val (.int (0 : Int32)), .val (.ref xr_301), .unset] [(.int (0 : Int32)), (.ref b339)])) rfl (by rw [hml]; rfl) (Steps.refl _) (argsL := [(.int (0 : Int32))]) (rest := []) (lenOf pd_14 rfl) rfl (by show 2 * 0 + _ ≤ _; exact Nat.le_of_eq rfl) (hb hby at_195) (fun _ _ => ⟨rfl, rfl, (by decide : 11 + 0 ≤ _), (by decide : 38 + 0 ≤ _)⟩)
    dsimp only [Pt.U, Pt.locs, Pt.cells, Pt.slots] at X351 l351 y351 z351 st351 hQ351
    subst l351 y351 z351
    obtain ⟨rfl, Nq351, e351⟩ := hQ351
    have N351 := Fr.app N341 Nq351
    obtain ⟨cq352, kq352, q352a, q352b, q352c⟩ := isOf hZ e351 c350
    obtain ⟨_, _, ⟨T352, L352, k352, n352⟩, -, X352, ⟨Lc352, hQ352, l352, y352, z352⟩, st352⟩ := X351.virtualBack hx (y := (⟨"java/lang/String", "equals", "(Ljava/lang/Object;)Z"⟩ : MethodName)) (z := (⟨"java/lang/String", "equals", "(Ljava/lang/Object;)Z"⟩ : MethodName)) hown (mvT hZ (hw _ (List.mem_of_getElem? (i := 144) rfl))) (mvT hZ (hw _ (List.mem_of_getElem? (i := 145) rfl))) (notFace_of_selects (args := #[]) (mvT hZ (hw _ (List.mem_of_getElem? (i := 147) rfl)))) (mvT hZ (hw _ (List.mem_of_getElem? (i := 147) rfl))) (mvT hZ (hw _ (List.mem_of_getElem? (i := 146) rfl))) (by decide) (backOf (W := 0) (rm_eqS l Z a0 hw [] xr_301 T341.heap n0 (Nat.le_trans Z0 (Nat.le_trans (Nat.le_trans (Nat.le_trans (Nat.le_trans (Nat.le_trans (Nat.le_trans (Nat.le_trans (Nat.le_trans (Nat.le_trans (Nat.le_trans (Nat.le_trans (Nat.le_trans (Nat.le_trans (Nat.le_trans (Nat.le_trans (Nat.le_trans K301.1 E302.1) E303.1) (Keep.of_wr W304).1) (Keep.of_wr W306).1) K307.1) E315.1) E316.1) (Keep.of_wr W317).1) (Keep.of_wr W319).1) (Keep.of_wr W320).1) K321.1) E330.1) K333.1) K337.1) E339.1) K341.1)) ) hZ (hw _ (List.mem_of_getElem? (i := 148) rfl)) (hw _ (List.mem_of_getElem? (i := 2) rfl)) (by decide) (by decide)) q352a q352c (g := (mkF m 209 #[.val (.int i0), .val (.int i1), .val (.int i2), .val (.int i3), .val (.int i4), .val (.ref xr_301), .val (.ref b302), .val (.ref b315), .val (.int (1 : Int32)), .val (.ref b330), .val (.ref b339), .val (.int (0 : Int32)), .val (.ref xr_301), .val (.ref xr_301)] [(.ref xr_301), (.ref xr_301)])) rfl (by rw [hml]; rfl) (Steps.refl _) (argsL := [(.ref xr_301)]) (rest := []) (lenOf pd_12 rfl) rfl (by show 2 * 0 + _ ≤ _; exact Nat.le_of_eq rfl) (hb hby at_209) (fun _ _ => ⟨rfl, e351, (by decide : 11 + 0 ≤ _), (by decide : 38 + 0 ≤ _)⟩)
    dsimp only [Pt.U, Pt.locs, Pt.cells, Pt.slots] at X352 l352 y352 z352 st352 hQ352
    subst l352 y352 z352
    obtain ⟨rfl, Nq352, e352⟩ := hQ352
    have N352 := Fr.app N351 Nq352
    obtain ⟨fs, hr, hrun, hended, hW, hsame⟩ := X352.leave (v := some (.int (1 : Int32))) (fun h => by rw [Bd.returns] at h; cases h)
    refine ⟨_, _, pre342 _ ?_, hrun, hended, _, _, rfl, ?_, ⟨_, rfl⟩, hW, hsame.mono (by decide) (by decide)⟩
    · refine XS.iload X341.here hx rfl (hb hby at_166) rfl ?_
      show Steps p.tables e below (T341.setTop (mkF m 168 #[.val (.int i0), .val (.int i1), .val (.int i2), .val (.int i3), .val (.int i4), .val (.ref xr_301), .val (.ref b302), .val (.ref b315), .val (.int (1 : Int32)), .val (.ref b330), .val (.ref b339), .val (.int (0 : Int32)), .unset, .unset] [(.int (0 : Int32))])) _
      refine XS.ifNo X341.here hx rfl (hb hby at_168) rfl ((if0 _ _).trans (teq ((by decide) : (0 : Int32) = (0 : Int32))).2) ?_
      show Steps p.tables e below (T341.setTop (mkF m 171 #[.val (.int i0), .val (.int i1), .val (.int i2), .val (.int i3), .val (.int i4), .val (.ref xr_301), .val (.ref b302), .val (.ref b315), .val (.int (1 : Int32)), .val (.ref b330), .val (.ref b339), .val (.int (0 : Int32)), .unset, .unset] [])) _
      refine XS.aload X341.here hx rfl (hb hby at_171) rfl rfl ?_
      show Steps p.tables e below (T341.setTop (mkF m 173 #[.val (.int i0), .val (.int i1), .val (.int i2), .val (.int i3), .val (.int i4), .val (.ref xr_301), .val (.ref b302), .val (.ref b315), .val (.int (1 : Int32)), .val (.ref b330), .val (.ref b339), .val (.int (0 : Int32)), .unset, .unset] [(.ref xr_301)])) _
      refine XS.goto X341.here hx rfl (pc0 := 173) (pc' := 189) rfl (hb hby at_173) (by decide) (by decide) ?_
      show Steps p.tables e below (T341.setTop (mkF m 189 #[.val (.int i0), .val (.int i1), .val (.int i2), .val (.int i3), .val (.int i4), .val (.ref xr_301), .val (.ref b302), .val (.ref b315), .val (.int (1 : Int32)), .val (.ref b330), .val (.ref b339), .val (.int (0 : Int32)), .unset, .unset] [(.ref xr_301)])) _
      refine XS.astore X341.here hx rfl (hb hby at_189) rfl rfl (l' := #[.val (.int i0), .val (.int i1), .val (.int i2), .val (.int i3), .val (.int i4), .val (.ref xr_301), .val (.ref b302), .val (.ref b315), .val (.int (1 : Int32)), .val (.ref b330), .val (.ref b339), .val (.int (0 : Int32)), .val (.ref xr_301), .unset]) rfl ?_
      show Steps p.tables e below (T341.setTop (mkF m 191 #[.val (.int i0), .val (.int i1), .val (.int i2), .val (.int i3), .val (.int i4), .val (.ref xr_301), .val (.ref b302), .val (.ref b315), .val (.int (1 : Int32)), .val (.ref b330), .val (.ref b339), .val (.int (0 : Int32)), .val (.ref xr_301), .unset] [])) _
      refine XS.aload X341.here hx rfl (hb hby at_191) rfl rfl ?_
      show Steps p.tables e below (T341.setTop (mkF m 193 #[.val (.int i0), .val (.int i1), .val (.int i2), .val (.int i3), .val (.int i4), .val (.ref xr_301), .val (.ref b302), .val (.ref b315), .val (.int (1 : Int32)), .val (.ref b330), .val (.ref b339), .val (.int (0 : Int32)), .val (.ref xr_301), .unset] [(.ref b339)])) _
      refine XS.iload X341.here hx rfl (hb hby at_193) rfl ?_
      show Steps p.tables e below (T341.setTop (mkF m 195 #[.val (.int i0), .val (.int i1), .val (.int i2), .val (.int i3), .val (.int i4), .val (.ref xr_301), .val (.ref b302), .val (.ref b315), .val (.int (1 : Int32)), .val (.ref b330), .val (.ref b339), .val (.int (0 : Int32)), .val (.ref xr_301), .unset] [(.int (0 : Int32)), (.ref b339)])) _
      refine st351.trans ?_
      show Steps p.tables e below (T351.setTop (mkF m 198 #[.val (.int i0), .val (.int i1), .val (.int i2), .val (.int i3), .val (.int i4), .val (.ref xr_301), .val (.ref b302), .val (.ref b315), .val (.int (1 : Int32)), .val (.ref b330), .val (.ref b339), .val (.int (0 : Int32)), .val (.ref xr_301), .unset] [(.ref xr_301)])) _
      refine XS.astore X351.here hx rfl (hb hby at_198) rfl rfl (l' := #[.val (.int i0), .val (.int i1), .val (.int i2), .val (.int i3), .val (.int i4), .val (.ref xr_301), .val (.ref b302), .val (.ref b315), .val (.int (1 : Int32)), .val (.ref b330), .val (.ref b339), .val (.int (0 : Int32)), .val (.ref xr_301), .val (.ref xr_301)]) rfl ?_
      show Steps p.tables e below (T351.setTop (mkF m 200 #[.val (.int i0), .val (.int i1), .val (.int i2), .val (.int i3), .val (.int i4), .val (.ref xr_301), .val (.ref b302), .val (.ref b315), .val (.int (1 : Int32)), .val (.ref b330), .val (.ref b339), .val (.int (0 : Int32)), .val (.ref xr_301), .val (.ref xr_301)] [])) _
      refine XS.aload X351.here hx rfl (hb hby at_200) rfl rfl ?_
      show Steps p.tables e below (T351.setTop (mkF m 202 #[.val (.int i0), .val (.int i1), .val (.int i2), .val (.int i3), .val (.int i4), .val (.ref xr_301), .val (.ref b302), .val (.ref b315), .val (.int (1 : Int32)), .val (.ref b330), .val (.ref b339), .val (.int (0 : Int32)), .val (.ref xr_301), .val (.ref xr_301)] [(.ref xr_301)])) _
      refine XS.ifnullNo X351.here hx rfl (hb hby at_202) rfl ?_
      show Steps p.tables e below (T351.setTop (mkF m 205 #[.val (.int i0), .val (.int i1), .val (.int i2), .val (.int i3), .val (.int i4), .val (.ref xr_301), .val (.ref b302), .val (.ref b315), .val (.int (1 : Int32)), .val (.ref b330), .val (.ref b339), .val (.int (0 : Int32)), .val (.ref xr_301), .val (.ref xr_301)] [])) _
      refine XS.aload X351.here hx rfl (hb hby at_205) rfl rfl ?_
      show Steps p.tables e below (T351.setTop (mkF m 207 #[.val (.int i0), .val (.int i1), .val (.int i2), .val (.int i3), .val (.int i4), .val (.ref xr_301), .val (.ref b302), .val (.ref b315), .val (.int (1 : Int32)), .val (.ref b330), .val (.ref b339), .val (.int (0 : Int32)), .val (.ref xr_301), .val (.ref xr_301)] [(.ref xr_301)])) _
      refine XS.aload X351.here hx rfl (hb hby at_207) rfl rfl ?_
      show Steps p.tables e below (T351.setTop (mkF m 209 #[.val (.int i0), .val (.int i1), .val (.int i2), .val (.int i3), .val (.int i4), .val (.ref xr_301), .val (.ref b302), .val (.ref b315), .val (.int (1 : Int32)), .val (.ref b330), .val (.ref b339), .val (.int (0 : Int32)), .val (.ref xr_301), .val (.ref xr_301)] [(.ref xr_301), (.ref xr_301)])) _
      refine st352.trans ?_
      show Steps p.tables e below (T352.setTop (mkF m 212 #[.val (.int i0), .val (.int i1), .val (.int i2), .val (.int i3), .val (.int i4), .val (.ref xr_301), .val (.ref b302), .val (.ref b315), .val (.int (1 : Int32)), .val (.ref b330), .val (.ref b339), .val (.int (0 : Int32)), .val (.ref xr_301), .val (.ref xr_301)] [(.int (1 : Int32))])) _
      refine XS.ifNo X352.here hx rfl (hb hby at_212) rfl ((if0 _ _).trans (feq ((by decide) : ¬ ((1 : Int32) = (0 : Int32)))).1) ?_
      show Steps p.tables e below (T352.setTop (mkF m 215 #[.val (.int i0), .val (.int i1), .val (.int i2), .val (.int i3), .val (.int i4), .val (.ref xr_301), .val (.ref b302), .val (.ref b315), .val (.int (1 : Int32)), .val (.ref b330), .val (.ref b339), .val (.int (0 : Int32)), .val (.ref xr_301), .val (.ref xr_301)] [])) _
      refine XS.iconst X352.here hx rfl (hb hby at_215) ?_
      show Steps p.tables e below (T352.setTop (mkF m 216 #[.val (.int i0), .val (.int i1), .val (.int i2), .val (.int i3), .val (.int i4), .val (.ref xr_301), .val (.ref b302), .val (.ref b315), .val (.int (1 : Int32)), .val (.ref b330), .val (.ref b339), .val (.int (0 : Int32)), .val (.ref xr_301), .val (.ref xr_301)] [(.int (1 : Int32))])) _
      refine XS.goto X352.here hx rfl (pc0 := 216) (pc' := 220) rfl (hb hby at_216) (by decide) (by decide) ?_
      show Steps p.tables e below (T352.setTop (mkF m 220 #[.val (.int i0), .val (.int i1), .val (.int i2), .val (.int i3), .val (.int i4), .val (.ref xr_301), .val (.ref b302), .val (.ref b315), .val (.int (1 : Int32)), .val (.ref b330), .val (.ref b339), .val (.int (0 : Int32)), .val (.ref xr_301), .val (.ref xr_301)] [(.int (1 : Int32))])) _
      exact retN X352 hx (t := .boolean) Bd.returns (by simp) (hb hby at_220) hr
    · show Q_law Z i0 i1 i2 i3 i4 G dd kd h0 n0 _ T352.heap _
      rw [e352]
      exact ⟨rfl, N352⟩
  · subst hn
    have c353 : Exa Z T337.heap b330 "java/util/ArrayList" := (c334.keep K337)
    have ge354 : n0 ≤ es_337 := Nat.le_trans Z0 (Nat.le_trans (Nat.le_trans (Nat.le_trans (Nat.le_trans (Nat.le_trans (Nat.le_trans (Nat.le_trans (Nat.le_trans (Nat.le_trans (Nat.le_trans (Nat.le_trans (Nat.le_trans (Nat.le_trans (Nat.le_trans K301.1 E302.1) E303.1) (Keep.of_wr W304).1) (Keep.of_wr W306).1) K307.1) E315.1) E316.1) (Keep.of_wr W317).1) (Keep.of_wr W319).1) (Keep.of_wr W320).1) K321.1) E330.1) K333.1) f337_0)
    have ne355 : b330 ≠ es_337 := Nat.ne_of_lt (Nat.lt_of_lt_of_le (Nat.lt_of_lt_of_le A330.lt K333.1) f337_0)
    have c356 : Exa Z T337.heap b302 "java/lang/String" := (((((((((fE307.ext E315).ext E316).wr W317).wr W319).wr W320).keep K321).ext E330).keep K333).keep K337)
    obtain ⟨cq357, kq357, q357a, q357b, q357c⟩ := isOf hZ rfl c353
    obtain ⟨_, _, ⟨T357, L357, k357, n357⟩, -, X357, ⟨Lc357, hQ357, l357, y357, z357⟩, st357⟩ := X337.virtualBack hx (y := (⟨"java/util/ArrayList", "add", "(Ljava/lang/Object;)Z"⟩ : MethodName)) (z := (⟨"java/util/ArrayList", "add", "(Ljava/lang/Object;)Z"⟩ : MethodName)) hown (mvT hZ (hw _ (List.mem_of_getElem? (i := 69) rfl))) (mvT hZ (hw _ (List.mem_of_getElem? (i := 70) rfl))) (notFace_of_selects (args := #[]) (mvT hZ (hw _ (List.mem_of_getElem? (i := 72) rfl)))) (mvT hZ (hw _ (List.mem_of_getElem? (i := 72) rfl))) (mvT hZ (hw _ (List.mem_of_getElem? (i := 71) rfl))) (by decide) (backOf (W := 0) (rm_add_k l Z a0 hw [] b330 b302 es_337 ke_337 (1 : Int32) (1 : Int32) 1 ([(.ref xr_301), .null, .null, .null, .null, .null, .null, .null, .null, .null]) T337.heap n0 (Nat.le_trans Z0 (Nat.le_trans (Nat.le_trans (Nat.le_trans (Nat.le_trans (Nat.le_trans (Nat.le_trans (Nat.le_trans (Nat.le_trans (Nat.le_trans (Nat.le_trans (Nat.le_trans (Nat.le_trans (Nat.le_trans (Nat.le_trans K301.1 E302.1) E303.1) (Keep.of_wr W304).1) (Keep.of_wr W306).1) K307.1) E315.1) E316.1) (Keep.of_wr W317).1) (Keep.of_wr W319).1) (Keep.of_wr W320).1) K321.1) E330.1) K333.1) K337.1)) c353 f337_1 f337_2 f337_3 ge332 ge354 ne355 f337_4 f337_5 c356 (by decide) (by decide) (rfl) (Nat.le_of_ble_eq_true rfl)) hZ (hw _ (List.mem_of_getElem? (i := 73) rfl)) (hw _ (List.mem_of_getElem? (i := 47) rfl)) (by decide) (by decide)) q357a q357c (g := (mkF m 126 #[.val (.int i0), .val (.int i1), .val (.int i2), .val (.int i3), .val (.int i4), .val (.ref xr_301), .val (.ref b302), .val (.ref b315), .val (.int (2 : Int32)), .val (.ref b330), .unset, .unset, .unset, .unset] [(.ref b302), (.ref b330)])) rfl (by rw [hml]; rfl) (Steps.refl _) (argsL := [(.ref b302)]) (rest := []) (lenOf pd_12 rfl) rfl (by show 2 * 0 + _ ≤ _; exact Nat.le_of_eq rfl) (hb hby at_126) (fun _ _ => ⟨rfl, rfl, (by decide : 10 + 0 ≤ _), (by decide : 36 + 0 ≤ _)⟩)
    dsimp only [Pt.U, Pt.locs, Pt.cells, Pt.slots] at X357 l357 y357 z357 st357 hQ357
    subst l357 y357 z357
    obtain ⟨rfl, Nq357, K357, f357_0, f357_1, f357_2, f357_3⟩ := hQ357
    have N357 := Fr.app N337 Nq357
    have V358 : Arv Z T357.heap es_337 ke_337 (.object "java/lang/Object") (10 : Int32) [(.ref xr_301), (.ref b302), .null, .null, .null, .null, .null, .null, .null, .null] .null := f357_3
    obtain ⟨T359, h359, X359, e359, E359, A359, D359, -, st359⟩ := newO X357 hx hZ hown (hw _ (List.mem_of_getElem? (i := 100) rfl)) (hw _ (List.mem_of_getElem? (i := 101) rfl)) (hw _ (List.mem_of_getElem? (i := 102) rfl)) rfl (g := (mkF m 144 #[.val (.int i0), .val (.int i1), .val (.int i2), .val (.int i3), .val (.int i4), .val (.ref xr_301), .val (.ref b302), .val (.ref b315), .val (.int (2 : Int32)), .val (.ref b330), .unset, .unset, .unset, .unset] [])) rfl (hb hby at_144) (by decide) (by decide)
    obtain ⟨b359, g359⟩ : ∃ z, z = T357.heap.size := ⟨_, rfl⟩
    rw [← g359] at A359 D359 st359
    have D359_words : Fld Z h359 b359 "com/example/rowscribe/rowscribe/cli/CommandLine" "words" "Ljava/util/List;" .null := D359 (Or.inr (hw _ (List.mem_of_getElem? (i := 113) rfl))) (ty := (.object "java/util/List")) (by decide)
    have D359_options : Fld Z h359 b359 "com/example/rowscribe/rowscribe/cli/CommandLine" "options" "Ljava/util/Map;" .null := D359 (Or.inr (hw _ (List.mem_of_getElem? (i := 115) rfl))) (ty := (.object "java/util/Map")) (by decide)
    have ge360 : n0 ≤ b359 := Nat.le_trans Z0 (Nat.le_trans (Nat.le_trans (Nat.le_trans (Nat.le_trans (Nat.le_trans (Nat.le_trans (Nat.le_trans (Nat.le_trans (Nat.le_trans (Nat.le_trans (Nat.le_trans (Nat.le_trans (Nat.le_trans (Nat.le_trans (Nat.le_trans (Nat.le_trans K301.1 E302.1) E303.1) (Keep.of_wr W304).1) (Keep.of_wr W306).1) K307.1) E315.1) E316.1) (Keep.of_wr W317).1) (Keep.of_wr W319).1) (Keep.of_wr W320).1) K321.1) E330.1) K333.1) K337.1) K357.1) (Nat.le_of_eq g359.symm))
    obtain ⟨_, _, ⟨T361, L361, k361, n361⟩, -, X361, ⟨Lc361, hQ361, l361, y361, z361⟩, st361⟩ := X359.specialBack hx (y := (⟨"com/example/rowscribe/rowscribe/cli/CommandLine", "<init>", "(Ljava/util/List;Ljava/util/Map;)V"⟩ : MethodName)) rfl hown (mvT hZ (hw _ (List.mem_of_getElem? (i := 103) rfl))) (mvT hZ (hw _ (List.mem_of_getElem? (i := 104) rfl))) (mvT hZ (hw _ (List.mem_of_getElem? (i := 105) rfl))) (by decide) (backOf (W := 1) (rm_clinit l Z a0 hw [] b359 b330 h359 n0 (Nat.le_trans Z0 (Nat.le_trans (Nat.le_trans (Nat.le_trans (Nat.le_trans (Nat.le_trans (Nat.le_trans (Nat.le_trans (Nat.le_trans (Nat.le_trans (Nat.le_trans (Nat.le_trans (Nat.le_trans (Nat.le_trans (Nat.le_trans (Nat.le_trans (Nat.le_trans K301.1 E302.1) E303.1) (Keep.of_wr W304).1) (Keep.of_wr W306).1) K307.1) E315.1) E316.1) (Keep.of_wr W317).1) (Keep.of_wr W319).1) (Keep.of_wr W320).1) K321.1) E330.1) K333.1) K337.1) K357.1) E359.1)) A359 D359_words D359_options ge360) hZ (hw _ (List.mem_of_getElem? (i := 105) rfl)) (hw _ (List.mem_of_getElem? (i := 102) rfl)) (by decide) (by decide)) (g := (mkF m 151 #[.val (.int i0), .val (.int i1), .val (.int i2), .val (.int i3), .val (.int i4), .val (.ref xr_301), .val (.ref b302), .val (.ref b315), .val (.int (2 : Int32)), .val (.ref b330), .unset, .unset, .unset, .unset] [.null, (.ref b330), (.ref b359), (.ref b359)])) rfl (by rw [hml]; rfl) (Steps.refl _) (a := b359) (argsL := [(.ref b330), .null]) (rest := [(.ref b359)]) (lenOf pd_13 rfl) rfl (by show 2 * 0 + _ ≤ _; exact Nat.le_of_eq rfl) (hb hby at_151) (fun _ _ => ⟨rfl, e359, (by decide : 11 + 0 ≤ _), (by decide : 38 + 0 ≤ _)⟩)
    dsimp only [Pt.U, Pt.locs, Pt.cells, Pt.slots] at X361 l361 y361 z361 st361 hQ361
    subst l361 y361 z361
    obtain ⟨rfl, Nq361, K361, f361_0⟩ := hQ361
    have N361 := Fr.app N357 Nq361
    have pre362 : ∀ t, Steps p.tables e below (T361.setTop (mkF m 166 #[.val (.int i0), .val (.int i1), .val (.int i2), .val (.int i3), .val (.int i4), .val (.ref xr_301), .val (.ref b302), .val (.ref b315), .val (.int (2 : Int32)), .val (.ref b330), .val (.ref b359), .val (.int ((i4 &&& (2147483647 : Int32)) % (2 : Int32))), .unset, .unset] [])) t → Steps p.tables e below (s₁.setTop (entryFrame m #[(.int i0), (.int i1), (.int i2), (.int i3), (.int i4)] maxLocals)) t := fun t kk => pre338 t (by
      refine XS.iload X337.here hx rfl (hb hby at_116) rfl ?_
      show Steps p.tables e below (T337.setTop (mkF m 118 #[.val (.int i0), .val (.int i1), .val (.int i2), .val (.int i3), .val (.int i4), .val (.ref xr_301), .val (.ref b302), .val (.ref b315), .val (.int (2 : Int32)), .val (.ref b330), .unset, .unset, .unset, .unset] [(.int (2 : Int32))])) _
      refine XS.iconst X337.here hx rfl (hb hby at_118) ?_
      show Steps p.tables e below (T337.setTop (mkF m 119 #[.val (.int i0), .val (.int i1), .val (.int i2), .val (.int i3), .val (.int i4), .val (.ref xr_301), .val (.ref b302), .val (.ref b315), .val (.int (2 : Int32)), .val (.ref b330), .unset, .unset, .unset, .unset] [(.int (1 : Int32)), (.int (2 : Int32))])) _
      refine XS.icmpNo X337.here hx rfl (hb hby at_119) rfl (tlt ((by decide) : (1 : Int32) < (2 : Int32))).2.2.2 ?_
      show Steps p.tables e below (T337.setTop (mkF m 122 #[.val (.int i0), .val (.int i1), .val (.int i2), .val (.int i3), .val (.int i4), .val (.ref xr_301), .val (.ref b302), .val (.ref b315), .val (.int (2 : Int32)), .val (.ref b330), .unset, .unset, .unset, .unset] [])) _
      refine XS.aload X337.here hx rfl (hb hby at_122) rfl rfl ?_
      show Steps p.tables e below (T337.setTop (mkF m 124 #[.val (.int i0), .val (.int i1), .val (.int i2), .val (.int i3), .val (.int i4), .val (.ref xr_301), .val (.ref b302), .val (.ref b315), .val (.int (2 : Int32)), .val (.ref b330), .unset, .unset, .unset, .unset] [(.ref b330)])) _
      refine XS.aload X337.here hx rfl (hb hby at_124) rfl rfl ?_
      show Steps p.tables e below (T337.setTop (mkF m 126 #[.val (.int i0), .val (.int i1), .val (.int i2), .val (.int i3), .val (.int i4), .val (.ref xr_301), .val (.ref b302), .val (.ref b315), .val (.int (2 : Int32)), .val (.ref b330), .unset, .unset, .unset, .unset] [(.ref b302), (.ref b330)])) _
      refine st357.trans ?_
      show Steps p.tables e below (T357.setTop (mkF m 129 #[.val (.int i0), .val (.int i1), .val (.int i2), .val (.int i3), .val (.int i4), .val (.ref xr_301), .val (.ref b302), .val (.ref b315), .val (.int (2 : Int32)), .val (.ref b330), .unset, .unset, .unset, .unset] [(.int (1 : Int32))])) _
      refine XS.pop X357.here hx rfl (hb hby at_129) rfl rfl ?_
      show Steps p.tables e below (T357.setTop (mkF m 130 #[.val (.int i0), .val (.int i1), .val (.int i2), .val (.int i3), .val (.int i4), .val (.ref xr_301), .val (.ref b302), .val (.ref b315), .val (.int (2 : Int32)), .val (.ref b330), .unset, .unset, .unset, .unset] [])) _
      refine XS.iload X357.here hx rfl (hb hby at_130) rfl ?_
      show Steps p.tables e below (T357.setTop (mkF m 132 #[.val (.int i0), .val (.int i1), .val (.int i2), .val (.int i3), .val (.int i4), .val (.ref xr_301), .val (.ref b302), .val (.ref b315), .val (.int (2 : Int32)), .val (.ref b330), .unset, .unset, .unset, .unset] [(.int (2 : Int32))])) _
      refine XS.iconst X357.here hx rfl (hb hby at_132) ?_
      show Steps p.tables e below (T357.setTop (mkF m 133 #[.val (.int i0), .val (.int i1), .val (.int i2), .val (.int i3), .val (.int i4), .val (.ref xr_301), .val (.ref b302), .val (.ref b315), .val (.int (2 : Int32)), .val (.ref b330), .unset, .unset, .unset, .unset] [(.int (2 : Int32)), (.int (2 : Int32))])) _
      refine XS.icmpYes X357.here hx rfl (pc0 := 133) (pc' := 144) rfl (hb hby at_133) rfl (flt ((by decide) : ¬ ((2 : Int32) < (2 : Int32)))).2.2.2 (by decide) (by decide) ?_
      show Steps p.tables e below (T357.setTop (mkF m 144 #[.val (.int i0), .val (.int i1), .val (.int i2), .val (.int i3), .val (.int i4), .val (.ref xr_301), .val (.ref b302), .val (.ref b315), .val (.int (2 : Int32)), .val (.ref b330), .unset, .unset, .unset, .unset] [])) _
      refine st359 _ ?_
      show Steps p.tables e below (T359.setTop (mkF m 147 #[.val (.int i0), .val (.int i1), .val (.int i2), .val (.int i3), .val (.int i4), .val (.ref xr_301), .val (.ref b302), .val (.ref b315), .val (.int (2 : Int32)), .val (.ref b330), .unset, .unset, .unset, .unset] [(.ref b359)])) _
      refine XS.dup X359.here hx rfl (hb hby at_147) rfl rfl ?_
      show Steps p.tables e below (T359.setTop (mkF m 148 #[.val (.int i0), .val (.int i1), .val (.int i2), .val (.int i3), .val (.int i4), .val (.ref xr_301), .val (.ref b302), .val (.ref b315), .val (.int (2 : Int32)), .val (.ref b330), .unset, .unset, .unset, .unset] [(.ref b359), (.ref b359)])) _
      refine XS.aload X359.here hx rfl (hb hby at_148) rfl rfl ?_
      show Steps p.tables e below (T359.setTop (mkF m 150 #[.val (.int i0), .val (.int i1), .val (.int i2), .val (.int i3), .val (.int i4), .val (.ref xr_301), .val (.ref b302), .val (.ref b315), .val (.int (2 : Int32)), .val (.ref b330), .unset, .unset, .unset, .unset] [(.ref b330), (.ref b359), (.ref b359)])) _
      refine XS.aconstNull X359.here hx rfl (hb hby at_150) ?_
      show Steps p.tables e below (T359.setTop (mkF m 151 #[.val (.int i0), .val (.int i1), .val (.int i2), .val (.int i3), .val (.int i4), .val (.ref xr_301), .val (.ref b302), .val (.ref b315), .val (.int (2 : Int32)), .val (.ref b330), .unset, .unset, .unset, .unset] [.null, (.ref b330), (.ref b359), (.ref b359)])) _
      refine st361.trans ?_
      show Steps p.tables e below (T361.setTop (mkF m 154 #[.val (.int i0), .val (.int i1), .val (.int i2), .val (.int i3), .val (.int i4), .val (.ref xr_301), .val (.ref b302), .val (.ref b315), .val (.int (2 : Int32)), .val (.ref b330), .unset, .unset, .unset, .unset] [(.ref b359)])) _
      refine XS.astore X361.here hx rfl (hb hby at_154) rfl rfl (l' := #[.val (.int i0), .val (.int i1), .val (.int i2), .val (.int i3), .val (.int i4), .val (.ref xr_301), .val (.ref b302), .val (.ref b315), .val (.int (2 : Int32)), .val (.ref b330), .val (.ref b359), .unset, .unset, .unset]) rfl ?_
      show Steps p.tables e below (T361.setTop (mkF m 156 #[.val (.int i0), .val (.int i1), .val (.int i2), .val (.int i3), .val (.int i4), .val (.ref xr_301), .val (.ref b302), .val (.ref b315), .val (.int (2 : Int32)), .val (.ref b330), .val (.ref b359), .unset, .unset, .unset] [])) _
      refine XS.iload X361.here hx rfl (hb hby at_156) rfl ?_
      show Steps p.tables e below (T361.setTop (mkF m 158 #[.val (.int i0), .val (.int i1), .val (.int i2), .val (.int i3), .val (.int i4), .val (.ref xr_301), .val (.ref b302), .val (.ref b315), .val (.int (2 : Int32)), .val (.ref b330), .val (.ref b359), .unset, .unset, .unset] [(.int i4)])) _
      refine X361.ldcInt hx hown (mvT hZ (hw _ (List.mem_of_getElem? (i := 44) rfl))) (g := (mkF m 158 #[.val (.int i0), .val (.int i1), .val (.int i2), .val (.int i3), .val (.int i4), .val (.ref xr_301), .val (.ref b302), .val (.ref b315), .val (.int (2 : Int32)), .val (.ref b330), .val (.ref b359), .unset, .unset, .unset] [(.int i4)])) rfl (hb hby at_158) _ ?_
      show Steps p.tables e below (T361.setTop (mkF m 160 #[.val (.int i0), .val (.int i1), .val (.int i2), .val (.int i3), .val (.int i4), .val (.ref xr_301), .val (.ref b302), .val (.ref b315), .val (.int (2 : Int32)), .val (.ref b330), .val (.ref b359), .unset, .unset, .unset] [(.int (2147483647 : Int32)), (.int i4)])) _
      refine XS.iand X361.here hx rfl (hb hby at_160) rfl ?_
      show Steps p.tables e below (T361.setTop (mkF m 161 #[.val (.int i0), .val (.int i1), .val (.int i2), .val (.int i3), .val (.int i4), .val (.ref xr_301), .val (.ref b302), .val (.ref b315), .val (.int (2 : Int32)), .val (.ref b330), .val (.ref b359), .unset, .unset, .unset] [(.int (i4 &&& (2147483647 : Int32)))])) _
      refine XS.iload X361.here hx rfl (hb hby at_161) rfl ?_
      show Steps p.tables e below (T361.setTop (mkF m 163 #[.val (.int i0), .val (.int i1), .val (.int i2), .val (.int i3), .val (.int i4), .val (.ref xr_301), .val (.ref b302), .val (.ref b315), .val (.int (2 : Int32)), .val (.ref b330), .val (.ref b359), .unset, .unset, .unset] [(.int (2 : Int32)), (.int (i4 &&& (2147483647 : Int32)))])) _
      refine iremM X361 hx rfl (hb hby at_163) rfl (by decide) ?_
      show Steps p.tables e below (T361.setTop (mkF m 164 #[.val (.int i0), .val (.int i1), .val (.int i2), .val (.int i3), .val (.int i4), .val (.ref xr_301), .val (.ref b302), .val (.ref b315), .val (.int (2 : Int32)), .val (.ref b330), .val (.ref b359), .unset, .unset, .unset] [(.int ((i4 &&& (2147483647 : Int32)) % (2 : Int32)))])) _
      refine XS.istore X361.here hx rfl (hb hby at_164) rfl (l' := #[.val (.int i0), .val (.int i1), .val (.int i2), .val (.int i3), .val (.int i4), .val (.ref xr_301), .val (.ref b302), .val (.ref b315), .val (.int (2 : Int32)), .val (.ref b330), .val (.ref b359), .val (.int ((i4 &&& (2147483647 : Int32)) % (2 : Int32))), .unset, .unset]) rfl ?_
      show Steps p.tables e below (T361.setTop (mkF m 166 #[.val (.int i0), .val (.int i1), .val (.int i2), .val (.int i3), .val (.int i4), .val (.ref xr_301), .val (.ref b302), .val (.ref b315), .val (.int (2 : Int32)), .val (.ref b330), .val (.ref b359), .val (.int ((i4 &&& (2147483647 : Int32)) % (2 : Int32))), .unset, .unset] [])) _
      exact kk)
    obtain ⟨jj, h_jj⟩ : ∃ z, z = ((i4 &&& (2147483647 : Int32)) % (2 : Int32)) := ⟨_, rfl⟩
    rw [← h_jj] at pre362
    have hj : jj = (0 : Int32) ∨ jj = (1 : Int32) := by rw [h_jj]; exact own_m2 i4
    rcases hj with hj | hj
    · subst hj
      have c363 : Exa Z T361.heap b359 "com/example/rowscribe/rowscribe/cli/CommandLine" := (A359.keep K361)
      have c364 : Exa Z T361.heap b330 "java/util/ArrayList" := (((c353.keep K357).ext E359).keep K361)
      have ne365 : b330 ≠ b359 := Nat.ne_of_lt (Nat.lt_of_lt_of_le f357_0.lt (Nat.le_of_eq g359.symm))
      have c366 : Fld Z T361.heap b330 "java/util/ArrayList" "elementData" "[Ljava/lang/Object;" (.ref es_337) := ((f357_2.ext E359).keep K361 (ninS ne365 nin0))
      have c367 : Fld Z T361.heap b330 "java/util/ArrayList" "size" "I" (.int ((1 : Int32) + (1 : Int32))) := ((f357_1.ext E359).keep K361 (ninS ne365 nin0))
      have ne368 : es_337 ≠ b359 := Nat.ne_of_lt (Nat.lt_of_lt_of_le V358.lt (Nat.le_of_eq g359.symm))
      have c369 : Arv Z T361.heap es_337 ke_337 (.object "java/lang/Object") (10 : Int32) [(.ref xr_301), (.ref b302), .null, .null, .null, .null, .null, .null, .null, .null] .null := ((V358.ext E359).keep K361 (ninS ne368 nin0))
      have c370 : Exa Z T361.heap xr_301 "java/lang/String" := ((((c336.keep K337).keep K357).ext E359).keep K361)
      obtain ⟨cq371, kq371, q371a, q371b, q371c⟩ := isOf hZ rfl c363
      obtain ⟨_, _, ⟨T371, L371, k371, n371⟩, -, X371, ⟨Lc371, hQ371, l371, y371, z371⟩, st371⟩ := X361.virtualBack hx (y := (⟨"com/example/rowscribe/rowscribe/cli/CommandLine", "word", "(I)Ljava/lang/String;"⟩ : MethodName)) (z := (⟨"com/example/rowscribe/rowscribe/cli/CommandLine", "word", "(I)Ljava/lang/String;"⟩ : MethodName)) hown (mvT hZ (hw _ (List.mem_of_getElem? (i := 116) rfl))) (mvT hZ (hw _ (List.mem_of_getElem? (i := 117) rfl))) (notFace_of_selects (args := #[]) (mvT hZ (hw _ (List.mem_of_getElem? (i := 119) rfl)))) (mvT hZ (hw _ (List.mem_of_getElem? (i := 119) rfl))) (mvT hZ (hw _ (List.mem_of_getElem? (i := 118) rfl))) (by decide) (backOf (W := 0) (rm_word l Z a0 hw [] b359 b330 (0 : Int32) es_337 ke_337 ((1 : Int32) + (1 : Int32)) ([(.ref xr_301), (.ref b302), .null, .null, .null, .null, .null, .null, .null, .null]) xr_301 T361.heap n0 (Nat.le_trans Z0 (Nat.le_trans (Nat.le_trans (Nat.le_trans (Nat.le_trans (Nat.le_trans (Nat.le_trans (Nat.le_trans (Nat.le_trans (Nat.le_trans (Nat.le_trans (Nat.le_trans (Nat.le_trans (Nat.le_trans (Nat.le_trans (Nat.le_trans (Nat.le_trans (Nat.le_trans K301.1 E302.1) E303.1) (Keep.of_wr W304).1) (Keep.of_wr W306).1) K307.1) E315.1) E316.1) (Keep.of_wr W317).1) (Keep.of_wr W319).1) (Keep.of_wr W320).1) K321.1) E330.1) K333.1) K337.1) K357.1) E359.1) K361.1)) f361_0 c364 c366 c367 c369 (by decide) (by decide) (by decide) (rfl) c370) hZ (hw _ (List.mem_of_getElem? (i := 120) rfl)) (hw _ (List.mem_of_getElem? (i := 102) rfl)) (by decide) (by decide)) q371a q371c (g := (mkF m 195 #[.val (.int i0), .val (.int i1), .val (.int i2), .val (.int i3), .val (.int i4), .val (.ref xr_301), .val (.ref b302), .val (.ref b315), .val (.int (2 : Int32)), .val (.ref b330), .val (.ref b359), .val (.int (0 : Int32)), .val (.ref xr_301), .unset] [(.int (0 : Int32)), (.ref b359)])) rfl (by rw [hml]; rfl) (Steps.refl _) (argsL := [(.int (0 : Int32))]) (rest := []) (lenOf pd_14 rfl) rfl (by show 2 * 0 + _ ≤ _; exact Nat.le_of_eq rfl) (hb hby at_195) (fun _ _ => ⟨rfl, rfl, (by decide : 11 + 0 ≤ _), (by decide : 38 + 0 ≤ _)⟩)
      dsimp only [Pt.U, Pt.locs, Pt.cells, Pt.slots] at X371 l371 y371 z371 st371 hQ371
      subst l371 y371 z371
      obtain ⟨rfl, Nq371, e371⟩ := hQ371
      have N371 := Fr.app N361 Nq371
      obtain ⟨cq372, kq372, q372a, q372b, q372c⟩ := isOf hZ e371 c370
      obtain ⟨_, _, ⟨T372, L372, k372, n372⟩, -, X372, ⟨Lc372, hQ372, l372, y372, z372⟩, st372⟩ := X371.virtualBack hx (y := (⟨"java/lang/String", "equals", "(Ljava/lang/Object;)Z"⟩ : MethodName)) (z := (⟨"java/lang/String", "equals", "(Ljava/lang/Object;)Z"⟩ : MethodName)) hown (mvT hZ (hw _ (List.mem_of_getElem? (i := 144) rfl))) (mvT hZ (hw _ (List.mem_of_getElem? (i := 145) rfl))) (notFace_of_selects (args := #[]) (mvT hZ (hw _ (List.mem_of_getElem? (i := 147) rfl)))) (mvT hZ (hw _ (List.mem_of_getElem? (i := 147) rfl))) (mvT hZ (hw _ (List.mem_of_getElem? (i := 146) rfl))) (by decide) (backOf (W := 0) (rm_eqS l Z a0 hw [] xr_301 T361.heap n0 (Nat.le_trans Z0 (Nat.le_trans (Nat.le_trans (Nat.le_trans (Nat.le_trans (Nat.le_trans (Nat.le_trans (Nat.le_trans (Nat.le_trans (Nat.le_trans (Nat.le_trans (Nat.le_trans (Nat.le_trans (Nat.le_trans (Nat.le_trans (Nat.le_trans (Nat.le_trans (Nat.le_trans K301.1 E302.1) E303.1) (Keep.of_wr W304).1) (Keep.of_wr W306).1) K307.1) E315.1) E316.1) (Keep.of_wr W317).1) (Keep.of_wr W319).1) (Keep.of_wr W320).1) K321.1) E330.1) K333.1) K337.1) K357.1) E359.1) K361.1)) ) hZ (hw _ (List.mem_of_getElem? (i := 148) rfl)) (hw _ (List.mem_of_getElem? (i := 2) rfl)) (by decide) (by decide)) q372a q372c (g := (mkF m 209 #[.val (.int i0), .val (.int i1), .val (.int i2), .val (.int i3), .val (.int i4), .val (.ref xr_301), .val (.ref b302), .val (.ref b315), .val (.int (2 : Int32)), .val (.ref b330), .val (.ref b359), .val (.int (0 : Int32)), .val (.ref xr_301), .val (.ref xr_301)] [(.ref xr_301), (.ref xr_301)])) rfl (by rw [hml]; rfl) (Steps.refl _) (argsL := [(.ref xr_301)]) (rest := []) (lenOf pd_12 rfl) rfl (by show 2 * 0 + _ ≤ _; exact Nat.le_of_eq rfl) (hb hby at_209) (fun _ _ => ⟨rfl, e371, (by decide : 11 + 0 ≤ _), (by decide : 38 + 0 ≤ _)⟩)
      dsimp only [Pt.U, Pt.locs, Pt.cells, Pt.slots] at X372 l372 y372 z372 st372 hQ372
      subst l372 y372 z372
      obtain ⟨rfl, Nq372, e372⟩ := hQ372
      have N372 := Fr.app N371 Nq372
      obtain ⟨fs, hr, hrun, hended, hW, hsame⟩ := X372.leave (v := some (.int (1 : Int32))) (fun h => by rw [Bd.returns] at h; cases h)
      refine ⟨_, _, pre362 _ ?_, hrun, hended, _, _, rfl, ?_, ⟨_, rfl⟩, hW, hsame.mono (by decide) (by decide)⟩
      · refine XS.iload X361.here hx rfl (hb hby at_166) rfl ?_
        show Steps p.tables e below (T361.setTop (mkF m 168 #[.val (.int i0), .val (.int i1), .val (.int i2), .val (.int i3), .val (.int i4), .val (.ref xr_301), .val (.ref b302), .val (.ref b315), .val (.int (2 : Int32)), .val (.ref b330), .val (.ref b359), .val (.int (0 : Int32)), .unset, .unset] [(.int (0 : Int32))])) _
        refine XS.ifNo X361.here hx rfl (hb hby at_168) rfl ((if0 _ _).trans (teq ((by decide) : (0 : Int32) = (0 : Int32))).2) ?_
        show Steps p.tables e below (T361.setTop (mkF m 171 #[.val (.int i0), .val (.int i1), .val (.int i2), .val (.int i3), .val (.int i4), .val (.ref xr_301), .val (.ref b302), .val (.ref b315), .val (.int (2 : Int32)), .val (.ref b330), .val (.ref b359), .val (.int (0 : Int32)), .unset, .unset] [])) _
        refine XS.aload X361.here hx rfl (hb hby at_171) rfl rfl ?_
        show Steps p.tables e below (T361.setTop (mkF m 173 #[.val (.int i0), .val (.int i1), .val (.int i2), .val (.int i3), .val (.int i4), .val (.ref xr_301), .val (.ref b302), .val (.ref b315), .val (.int (2 : Int32)), .val (.ref b330), .val (.ref b359), .val (.int (0 : Int32)), .unset, .unset] [(.ref xr_301)])) _
        refine XS.goto X361.here hx rfl (pc0 := 173) (pc' := 189) rfl (hb hby at_173) (by decide) (by decide) ?_
        show Steps p.tables e below (T361.setTop (mkF m 189 #[.val (.int i0), .val (.int i1), .val (.int i2), .val (.int i3), .val (.int i4), .val (.ref xr_301), .val (.ref b302), .val (.ref b315), .val (.int (2 : Int32)), .val (.ref b330), .val (.ref b359), .val (.int (0 : Int32)), .unset, .unset] [(.ref xr_301)])) _
        refine XS.astore X361.here hx rfl (hb hby at_189) rfl rfl (l' := #[.val (.int i0), .val (.int i1), .val (.int i2), .val (.int i3), .val (.int i4), .val (.ref xr_301), .val (.ref b302), .val (.ref b315), .val (.int (2 : Int32)), .val (.ref b330), .val (.ref b359), .val (.int (0 : Int32)), .val (.ref xr_301), .unset]) rfl ?_
        show Steps p.tables e below (T361.setTop (mkF m 191 #[.val (.int i0), .val (.int i1), .val (.int i2), .val (.int i3), .val (.int i4), .val (.ref xr_301), .val (.ref b302), .val (.ref b315), .val (.int (2 : Int32)), .val (.ref b330), .val (.ref b359), .val (.int (0 : Int32)), .val (.ref xr_301), .unset] [])) _
        refine XS.aload X361.here hx rfl (hb hby at_191) rfl rfl ?_
        show Steps p.tables e below (T361.setTop (mkF m 193 #[.val (.int i0), .val (.int i1), .val (.int i2), .val (.int i3), .val (.int i4), .val (.ref xr_301), .val (.ref b302), .val (.ref b315), .val (.int (2 : Int32)), .val (.ref b330), .val (.ref b359), .val (.int (0 : Int32)), .val (.ref xr_301), .unset] [(.ref b359)])) _
        refine XS.iload X361.here hx rfl (hb hby at_193) rfl ?_
        show Steps p.tables e below (T361.setTop (mkF m 195 #[.val (.int i0), .val (.int i1), .val (.int i2), .val (.int i3), .val (.int i4), .val (.ref xr_301), .val (.ref b302), .val (.ref b315), .val (.int (2 : Int32)), .val (.ref b330), .val (.ref b359), .val (.int (0 : Int32)), .val (.ref xr_301), .unset] [(.int (0 : Int32)), (.ref b359)])) _
        refine st371.trans ?_
        show Steps p.tables e below (T371.setTop (mkF m 198 #[.val (.int i0), .val (.int i1), .val (.int i2), .val (.int i3), .val (.int i4), .val (.ref xr_301), .val (.ref b302), .val (.ref b315), .val (.int (2 : Int32)), .val (.ref b330), .val (.ref b359), .val (.int (0 : Int32)), .val (.ref xr_301), .unset] [(.ref xr_301)])) _
        refine XS.astore X371.here hx rfl (hb hby at_198) rfl rfl (l' := #[.val (.int i0), .val (.int i1), .val (.int i2), .val (.int i3), .val (.int i4), .val (.ref xr_301), .val (.ref b302), .val (.ref b315), .val (.int (2 : Int32)), .val (.ref b330), .val (.ref b359), .val (.int (0 : Int32)), .val (.ref xr_301), .val (.ref xr_301)]) rfl ?_
        show Steps p.tables e below (T371.setTop (mkF m 200 #[.val (.int i0), .val (.int i1), .val (.int i2), .val (.int i3), .val (.int i4), .val (.ref xr_301), .val (.ref b302), .val (.ref b315), .val (.int (2 : Int32)), .val (.ref b330), .val (.ref b359), .val (.int (0 : Int32)), .val (.ref xr_301), .val (.ref xr_301)] [])) _
        refine XS.aload X371.here hx rfl (hb hby at_200) rfl rfl ?_
        show Steps p.tables e below (T371.setTop (mkF m 202 #[.val (.int i0), .val (.int i1), .val (.int i2), .val (.int i3), .val (.int i4), .val (.ref xr_301), .val (.ref b302), .val (.ref b315), .val (.int (2 : Int32)), .val (.ref b330), .val (.ref b359), .val (.int (0 : Int32)), .val (.ref xr_301), .val (.ref xr_301)] [(.ref xr_301)])) _
        refine XS.ifnullNo X371.here hx rfl (hb hby at_202) rfl ?_
        show Steps p.tables e below (T371.setTop (mkF m 205 #[.val (.int i0), .val (.int i1), .val (.int i2), .val (.int i3), .val (.int i4), .val (.ref xr_301), .val (.ref b302), .val (.ref b315), .val (.int (2 : Int32)), .val (.ref b330), .val (.ref b359), .val (.int (0 : Int32)), .val (.ref xr_301), .val (.ref xr_301)] [])) _
        refine XS.aload X371.here hx rfl (hb hby at_205) rfl rfl ?_
        show Steps p.tables e below (T371.setTop (mkF m 207 #[.val (.int i0), .val (.int i1), .val (.int i2), .val (.int i3), .val (.int i4), .val (.ref xr_301), .val (.ref b302), .val (.ref b315), .val (.int (2 : Int32)), .val (.ref b330), .val (.ref b359), .val (.int (0 : Int32)), .val (.ref xr_301), .val (.ref xr_301)] [(.ref xr_301)])) _
        refine XS.aload X371.here hx rfl (hb hby at_207) rfl rfl ?_
        show Steps p.tables e below (T371.setTop (mkF m 209 #[.val (.int i0), .val (.int i1), .val (.int i2), .val (.int i3), .val (.int i4), .val (.ref xr_301), .val (.ref b302), .val (.ref b315), .val (.int (2 : Int32)), .val (.ref b330), .val (.ref b359), .val (.int (0 : Int32)), .val (.ref xr_301), .val (.ref xr_301)] [(.ref xr_301), (.ref xr_301)])) _
        refine st372.trans ?_
        show Steps p.tables e below (T372.setTop (mkF m 212 #[.val (.int i0), .val (.int i1), .val (.int i2), .val (.int i3), .val (.int i4), .val (.ref xr_301), .val (.ref b302), .val (.ref b315), .val (.int (2 : Int32)), .val (.ref b330), .val (.ref b359), .val (.int (0 : Int32)), .val (.ref xr_301), .val (.ref xr_301)] [(.int (1 : Int32))])) _
        refine XS.ifNo X372.here hx rfl (hb hby at_212) rfl ((if0 _ _).trans (feq ((by decide) : ¬ ((1 : Int32) = (0 : Int32)))).1) ?_
        show Steps p.tables e below (T372.setTop (mkF m 215 #[.val (.int i0), .val (.int i1), .val (.int i2), .val (.int i3), .val (.int i4), .val (.ref xr_301), .val (.ref b302), .val (.ref b315), .val (.int (2 : Int32)), .val (.ref b330), .val (.ref b359), .val (.int (0 : Int32)), .val (.ref xr_301), .val (.ref xr_301)] [])) _
        refine XS.iconst X372.here hx rfl (hb hby at_215) ?_
        show Steps p.tables e below (T372.setTop (mkF m 216 #[.val (.int i0), .val (.int i1), .val (.int i2), .val (.int i3), .val (.int i4), .val (.ref xr_301), .val (.ref b302), .val (.ref b315), .val (.int (2 : Int32)), .val (.ref b330), .val (.ref b359), .val (.int (0 : Int32)), .val (.ref xr_301), .val (.ref xr_301)] [(.int (1 : Int32))])) _
        refine XS.goto X372.here hx rfl (pc0 := 216) (pc' := 220) rfl (hb hby at_216) (by decide) (by decide) ?_
        show Steps p.tables e below (T372.setTop (mkF m 220 #[.val (.int i0), .val (.int i1), .val (.int i2), .val (.int i3), .val (.int i4), .val (.ref xr_301), .val (.ref b302), .val (.ref b315), .val (.int (2 : Int32)), .val (.ref b330), .val (.ref b359), .val (.int (0 : Int32)), .val (.ref xr_301), .val (.ref xr_301)] [(.int (1 : Int32))])) _
        exact retN X372 hx (t := .boolean) Bd.returns (by simp) (hb hby at_220) hr
      · show Q_law Z i0 i1 i2 i3 i4 G dd kd h0 n0 _ T372.heap _
        rw [e372]
        exact ⟨rfl, N372⟩
    · subst hj
      have c373 : Exa Z T361.heap b359 "com/example/rowscribe/rowscribe/cli/CommandLine" := (A359.keep K361)
      have c374 : Exa Z T361.heap b330 "java/util/ArrayList" := (((c353.keep K357).ext E359).keep K361)
      have ne375 : b330 ≠ b359 := Nat.ne_of_lt (Nat.lt_of_lt_of_le f357_0.lt (Nat.le_of_eq g359.symm))
      have c376 : Fld Z T361.heap b330 "java/util/ArrayList" "elementData" "[Ljava/lang/Object;" (.ref es_337) := ((f357_2.ext E359).keep K361 (ninS ne375 nin0))
      have c377 : Fld Z T361.heap b330 "java/util/ArrayList" "size" "I" (.int ((1 : Int32) + (1 : Int32))) := ((f357_1.ext E359).keep K361 (ninS ne375 nin0))
      have ne378 : es_337 ≠ b359 := Nat.ne_of_lt (Nat.lt_of_lt_of_le V358.lt (Nat.le_of_eq g359.symm))
      have c379 : Arv Z T361.heap es_337 ke_337 (.object "java/lang/Object") (10 : Int32) [(.ref xr_301), (.ref b302), .null, .null, .null, .null, .null, .null, .null, .null] .null := ((V358.ext E359).keep K361 (ninS ne378 nin0))
      have c380 : Exa Z T361.heap b302 "java/lang/String" := (((c356.keep K357).ext E359).keep K361)
      obtain ⟨cq381, kq381, q381a, q381b, q381c⟩ := isOf hZ rfl c373
      obtain ⟨_, _, ⟨T381, L381, k381, n381⟩, -, X381, ⟨Lc381, hQ381, l381, y381, z381⟩, st381⟩ := X361.virtualBack hx (y := (⟨"com/example/rowscribe/rowscribe/cli/CommandLine", "word", "(I)Ljava/lang/String;"⟩ : MethodName)) (z := (⟨"com/example/rowscribe/rowscribe/cli/CommandLine", "word", "(I)Ljava/lang/String;"⟩ : MethodName)) hown (mvT hZ (hw _ (List.mem_of_getElem? (i := 116) rfl))) (mvT hZ (hw _ (List.mem_of_getElem? (i := 117) rfl))) (notFace_of_selects (args := #[]) (mvT hZ (hw _ (List.mem_of_getElem? (i := 119) rfl)))) (mvT hZ (hw _ (List.mem_of_getElem? (i := 119) rfl))) (mvT hZ (hw _ (List.mem_of_getElem? (i := 118) rfl))) (by decide) (backOf (W := 0) (rm_word l Z a0 hw [] b359 b330 (1 : Int32) es_337 ke_337 ((1 : Int32) + (1 : Int32)) ([(.ref xr_301), (.ref b302), .null, .null, .null, .null, .null, .null, .null, .null]) b302 T361.heap n0 (Nat.le_trans Z0 (Nat.le_trans (Nat.le_trans (Nat.le_trans (Nat.le_trans (Nat.le_trans (Nat.le_trans (Nat.le_trans (Nat.le_trans (Nat.le_trans (Nat.le_trans (Nat.le_trans (Nat.le_trans (Nat.le_trans (Nat.le_trans (Nat.le_trans (Nat.le_trans (Nat.le_trans K301.1 E302.1) E303.1) (Keep.of_wr W304).1) (Keep.of_wr W306).1) K307.1) E315.1) E316.1) (Keep.of_wr W317).1) (Keep.of_wr W319).1) (Keep.of_wr W320).1) K321.1) E330.1) K333.1) K337.1) K357.1) E359.1) K361.1)) f361_0 c374 c376 c377 c379 (by decide) (by decide) (by decide) (rfl) c380) hZ (hw _ (List.mem_of_getElem? (i := 120) rfl)) (hw _ (List.mem_of_getElem? (i := 102) rfl)) (by decide) (by decide)) q381a q381c (g := (mkF m 195 #[.val (.int i0), .val (.int i1), .val (.int i2), .val (.int i3), .val (.int i4), .val (.ref xr_301), .val (.ref b302), .val (.ref b315), .val (.int (2 : Int32)), .val (.ref b330), .val (.ref b359), .val (.int (1 : Int32)), .val (.ref b302), .unset] [(.int (1 : Int32)), (.ref b359)])) rfl (by rw [hml]; rfl) (Steps.refl _) (argsL := [(.int (1 : Int32))]) (rest := []) (lenOf pd_14 rfl) rfl (by show 2 * 0 + _ ≤ _; exact Nat.le_of_eq rfl) (hb hby at_195) (fun _ _ => ⟨rfl, rfl, (by decide : 11 + 0 ≤ _), (by decide : 38 + 0 ≤ _)⟩)
      dsimp only [Pt.U, Pt.locs, Pt.cells, Pt.slots] at X381 l381 y381 z381 st381 hQ381
      subst l381 y381 z381
      obtain ⟨rfl, Nq381, e381⟩ := hQ381
      have N381 := Fr.app N361 Nq381
      obtain ⟨cq382, kq382, q382a, q382b, q382c⟩ := isOf hZ e381 c380
      obtain ⟨_, _, ⟨T382, L382, k382, n382⟩, -, X382, ⟨Lc382, hQ382, l382, y382, z382⟩, st382⟩ := X381.virtualBack hx (y := (⟨"java/lang/String", "equals", "(Ljava/lang/Object;)Z"⟩ : MethodName)) (z := (⟨"java/lang/String", "equals", "(Ljava/lang/Object;)Z"⟩ : MethodName)) hown (mvT hZ (hw _ (List.mem_of_getElem? (i := 144) rfl))) (mvT hZ (hw _ (List.mem_of_getElem? (i := 145) rfl))) (notFace_of_selects (args := #[]) (mvT hZ (hw _ (List.mem_of_getElem? (i := 147) rfl)))) (mvT hZ (hw _ (List.mem_of_getElem? (i := 147) rfl))) (mvT hZ (hw _ (List.mem_of_getElem? (i := 146) rfl))) (by decide) (backOf (W := 0) (rm_eqS l Z a0 hw [] b302 T361.heap n0 (Nat.le_trans Z0 (Nat.le_trans (Nat.le_trans (Nat.le_trans (Nat.le_trans (Nat.le_trans (Nat.le_trans (Nat.le_trans (Nat.le_trans (Nat.le_trans (Nat.le_trans (Nat.le_trans (Nat.le_trans (Nat.le_trans (Nat.le_trans (Nat.le_trans (Nat.le_trans (Nat.le_trans K301.1 E302.1) E303.1) (Keep.of_wr W304).1) (Keep.of_wr W306).1) K307.1) E315.1) E316.1) (Keep.of_wr W317).1) (Keep.of_wr W319).1) (Keep.of_wr W320).1) K321.1) E330.1) K333.1) K337.1) K357.1) E359.1) K361.1)) ) hZ (hw _ (List.mem_of_getElem? (i := 148) rfl)) (hw _ (List.mem_of_getElem? (i := 2) rfl)) (by decide) (by decide)) q382a q382c (g := (mkF m 209 #[.val (.int i0), .val (.int i1), .val (.int i2), .val (.int i3), .val (.int i4), .val (.ref xr_301), .val (.ref b302), .val (.ref b315), .val (.int (2 : Int32)), .val (.ref b330), .val (.ref b359), .val (.int (1 : Int32)), .val (.ref b302), .val (.ref b302)] [(.ref b302), (.ref b302)])) rfl (by rw [hml]; rfl) (Steps.refl _) (argsL := [(.ref b302)]) (rest := []) (lenOf pd_12 rfl) rfl (by show 2 * 0 + _ ≤ _; exact Nat.le_of_eq rfl) (hb hby at_209) (fun _ _ => ⟨rfl, e381, (by decide : 11 + 0 ≤ _), (by decide : 38 + 0 ≤ _)⟩)
      dsimp only [Pt.U, Pt.locs, Pt.cells, Pt.slots] at X382 l382 y382 z382 st382 hQ382
      subst l382 y382 z382
      obtain ⟨rfl, Nq382, e382⟩ := hQ382
      have N382 := Fr.app N381 Nq382
      obtain ⟨fs, hr, hrun, hended, hW, hsame⟩ := X382.leave (v := some (.int (1 : Int32))) (fun h => by rw [Bd.returns] at h; cases h)
      refine ⟨_, _, pre362 _ ?_, hrun, hended, _, _, rfl, ?_, ⟨_, rfl⟩, hW, hsame.mono (by decide) (by decide)⟩
      · refine XS.iload X361.here hx rfl (hb hby at_166) rfl ?_
        show Steps p.tables e below (T361.setTop (mkF m 168 #[.val (.int i0), .val (.int i1), .val (.int i2), .val (.int i3), .val (.int i4), .val (.ref xr_301), .val (.ref b302), .val (.ref b315), .val (.int (2 : Int32)), .val (.ref b330), .val (.ref b359), .val (.int (1 : Int32)), .unset, .unset] [(.int (1 : Int32))])) _
        refine XS.ifYes X361.here hx rfl (pc0 := 168) (pc' := 176) rfl (hb hby at_168) rfl ((if0 _ _).trans (feq ((by decide) : ¬ ((1 : Int32) = (0 : Int32)))).2) (by decide) (by decide) ?_
        show Steps p.tables e below (T361.setTop (mkF m 176 #[.val (.int i0), .val (.int i1), .val (.int i2), .val (.int i3), .val (.int i4), .val (.ref xr_301), .val (.ref b302), .val (.ref b315), .val (.int (2 : Int32)), .val (.ref b330), .val (.ref b359), .val (.int (1 : Int32)), .unset, .unset] [])) _
        refine XS.iload X361.here hx rfl (hb hby at_176) rfl ?_
        show Steps p.tables e below (T361.setTop (mkF m 178 #[.val (.int i0), .val (.int i1), .val (.int i2), .val (.int i3), .val (.int i4), .val (.ref xr_301), .val (.ref b302), .val (.ref b315), .val (.int (2 : Int32)), .val (.ref b330), .val (.ref b359), .val (.int (1 : Int32)), .unset, .unset] [(.int (1 : Int32))])) _
        refine XS.iconst X361.here hx rfl (hb hby at_178) ?_
        show Steps p.tables e below (T361.setTop (mkF m 179 #[.val (.int i0), .val (.int i1), .val (.int i2), .val (.int i3), .val (.int i4), .val (.ref xr_301), .val (.ref b302), .val (.ref b315), .val (.int (2 : Int32)), .val (.ref b330), .val (.ref b359), .val (.int (1 : Int32)), .unset, .unset] [(.int (1 : Int32)), (.int (1 : Int32))])) _
        refine XS.icmpNo X361.here hx rfl (hb hby at_179) rfl (teq ((by decide) : (1 : Int32) = (1 : Int32))).2 ?_
        show Steps p.tables e below (T361.setTop (mkF m 182 #[.val (.int i0), .val (.int i1), .val (.int i2), .val (.int i3), .val (.int i4), .val (.ref xr_301), .val (.ref b302), .val (.ref b315), .val (.int (2 : Int32)), .val (.ref b330), .val (.ref b359), .val (.int (1 : Int32)), .unset, .unset] [])) _
        refine XS.aload X361.here hx rfl (hb hby at_182) rfl rfl ?_
        show Steps p.tables e below (T361.setTop (mkF m 184 #[.val (.int i0), .val (.int i1), .val (.int i2), .val (.int i3), .val (.int i4), .val (.ref xr_301), .val (.ref b302), .val (.ref b315), .val (.int (2 : Int32)), .val (.ref b330), .val (.ref b359), .val (.int (1 : Int32)), .unset, .unset] [(.ref b302)])) _
        refine XS.goto X361.here hx rfl (pc0 := 184) (pc' := 189) rfl (hb hby at_184) (by decide) (by decide) ?_
        show Steps p.tables e below (T361.setTop (mkF m 189 #[.val (.int i0), .val (.int i1), .val (.int i2), .val (.int i3), .val (.int i4), .val (.ref xr_301), .val (.ref b302), .val (.ref b315), .val (.int (2 : Int32)), .val (.ref b330), .val (.ref b359), .val (.int (1 : Int32)), .unset, .unset] [(.ref b302)])) _
        refine XS.astore X361.here hx rfl (hb hby at_189) rfl rfl (l' := #[.val (.int i0), .val (.int i1), .val (.int i2), .val (.int i3), .val (.int i4), .val (.ref xr_301), .val (.ref b302), .val (.ref b315), .val (.int (2 : Int32)), .val (.ref b330), .val (.ref b359), .val (.int (1 : Int32)), .val (.ref b302), .unset]) rfl ?_
        show Steps p.tables e below (T361.setTop (mkF m 191 #[.val (.int i0), .val (.int i1), .val (.int i2), .val (.int i3), .val (.int i4), .val (.ref xr_301), .val (.ref b302), .val (.ref b315), .val (.int (2 : Int32)), .val (.ref b330), .val (.ref b359), .val (.int (1 : Int32)), .val (.ref b302), .unset] [])) _
        refine XS.aload X361.here hx rfl (hb hby at_191) rfl rfl ?_
        show Steps p.tables e below (T361.setTop (mkF m 193 #[.val (.int i0), .val (.int i1), .val (.int i2), .val (.int i3), .val (.int i4), .val (.ref xr_301), .val (.ref b302), .val (.ref b315), .val (.int (2 : Int32)), .val (.ref b330), .val (.ref b359), .val (.int (1 : Int32)), .val (.ref b302), .unset] [(.ref b359)])) _
        refine XS.iload X361.here hx rfl (hb hby at_193) rfl ?_
        show Steps p.tables e below (T361.setTop (mkF m 195 #[.val (.int i0), .val (.int i1), .val (.int i2), .val (.int i3), .val (.int i4), .val (.ref xr_301), .val (.ref b302), .val (.ref b315), .val (.int (2 : Int32)), .val (.ref b330), .val (.ref b359), .val (.int (1 : Int32)), .val (.ref b302), .unset] [(.int (1 : Int32)), (.ref b359)])) _
        refine st381.trans ?_
        show Steps p.tables e below (T381.setTop (mkF m 198 #[.val (.int i0), .val (.int i1), .val (.int i2), .val (.int i3), .val (.int i4), .val (.ref xr_301), .val (.ref b302), .val (.ref b315), .val (.int (2 : Int32)), .val (.ref b330), .val (.ref b359), .val (.int (1 : Int32)), .val (.ref b302), .unset] [(.ref b302)])) _
        refine XS.astore X381.here hx rfl (hb hby at_198) rfl rfl (l' := #[.val (.int i0), .val (.int i1), .val (.int i2), .val (.int i3), .val (.int i4), .val (.ref xr_301), .val (.ref b302), .val (.ref b315), .val (.int (2 : Int32)), .val (.ref b330), .val (.ref b359), .val (.int (1 : Int32)), .val (.ref b302), .val (.ref b302)]) rfl ?_
        show Steps p.tables e below (T381.setTop (mkF m 200 #[.val (.int i0), .val (.int i1), .val (.int i2), .val (.int i3), .val (.int i4), .val (.ref xr_301), .val (.ref b302), .val (.ref b315), .val (.int (2 : Int32)), .val (.ref b330), .val (.ref b359), .val (.int (1 : Int32)), .val (.ref b302), .val (.ref b302)] [])) _
        refine XS.aload X381.here hx rfl (hb hby at_200) rfl rfl ?_
        show Steps p.tables e below (T381.setTop (mkF m 202 #[.val (.int i0), .val (.int i1), .val (.int i2), .val (.int i3), .val (.int i4), .val (.ref xr_301), .val (.ref b302), .val (.ref b315), .val (.int (2 : Int32)), .val (.ref b330), .val (.ref b359), .val (.int (1 : Int32)), .val (.ref b302), .val (.ref b302)] [(.ref b302)])) _
        refine XS.ifnullNo X381.here hx rfl (hb hby at_202) rfl ?_
        show Steps p.tables e below (T381.setTop (mkF m 205 #[.val (.int i0), .val (.int i1), .val (.int i2), .val (.int i3), .val (.int i4), .val (.ref xr_301), .val (.ref b302), .val (.ref b315), .val (.int (2 : Int32)), .val (.ref b330), .val (.ref b359), .val (.int (1 : Int32)), .val (.ref b302), .val (.ref b302)] [])) _
        refine XS.aload X381.here hx rfl (hb hby at_205) rfl rfl ?_
        show Steps p.tables e below (T381.setTop (mkF m 207 #[.val (.int i0), .val (.int i1), .val (.int i2), .val (.int i3), .val (.int i4), .val (.ref xr_301), .val (.ref b302), .val (.ref b315), .val (.int (2 : Int32)), .val (.ref b330), .val (.ref b359), .val (.int (1 : Int32)), .val (.ref b302), .val (.ref b302)] [(.ref b302)])) _
        refine XS.aload X381.here hx rfl (hb hby at_207) rfl rfl ?_
        show Steps p.tables e below (T381.setTop (mkF m 209 #[.val (.int i0), .val (.int i1), .val (.int i2), .val (.int i3), .val (.int i4), .val (.ref xr_301), .val (.ref b302), .val (.ref b315), .val (.int (2 : Int32)), .val (.ref b330), .val (.ref b359), .val (.int (1 : Int32)), .val (.ref b302), .val (.ref b302)] [(.ref b302), (.ref b302)])) _
        refine st382.trans ?_
        show Steps p.tables e below (T382.setTop (mkF m 212 #[.val (.int i0), .val (.int i1), .val (.int i2), .val (.int i3), .val (.int i4), .val (.ref xr_301), .val (.ref b302), .val (.ref b315), .val (.int (2 : Int32)), .val (.ref b330), .val (.ref b359), .val (.int (1 : Int32)), .val (.ref b302), .val (.ref b302)] [(.int (1 : Int32))])) _
        refine XS.ifNo X382.here hx rfl (hb hby at_212) rfl ((if0 _ _).trans (feq ((by decide) : ¬ ((1 : Int32) = (0 : Int32)))).1) ?_
        show Steps p.tables e below (T382.setTop (mkF m 215 #[.val (.int i0), .val (.int i1), .val (.int i2), .val (.int i3), .val (.int i4), .val (.ref xr_301), .val (.ref b302), .val (.ref b315), .val (.int (2 : Int32)), .val (.ref b330), .val (.ref b359), .val (.int (1 : Int32)), .val (.ref b302), .val (.ref b302)] [])) _
        refine XS.iconst X382.here hx rfl (hb hby at_215) ?_
        show Steps p.tables e below (T382.setTop (mkF m 216 #[.val (.int i0), .val (.int i1), .val (.int i2), .val (.int i3), .val (.int i4), .val (.ref xr_301), .val (.ref b302), .val (.ref b315), .val (.int (2 : Int32)), .val (.ref b330), .val (.ref b359), .val (.int (1 : Int32)), .val (.ref b302), .val (.ref b302)] [(.int (1 : Int32))])) _
        refine XS.goto X382.here hx rfl (pc0 := 216) (pc' := 220) rfl (hb hby at_216) (by decide) (by decide) ?_
        show Steps p.tables e below (T382.setTop (mkF m 220 #[.val (.int i0), .val (.int i1), .val (.int i2), .val (.int i3), .val (.int i4), .val (.ref xr_301), .val (.ref b302), .val (.ref b315), .val (.int (2 : Int32)), .val (.ref b330), .val (.ref b359), .val (.int (1 : Int32)), .val (.ref b302), .val (.ref b302)] [(.int (1 : Int32))])) _
        exact retN X382 hx (t := .boolean) Bd.returns (by simp) (hb hby at_220) hr
      · show Q_law Z i0 i1 i2 i3 i4 G dd kd h0 n0 _ T382.heap _
        rw [e382]
        exact ⟨rfl, N382⟩
  · subst hn
    have c383 : Exa Z T337.heap b330 "java/util/ArrayList" := (c334.keep K337)
    have ge384 : n0 ≤ es_337 := Nat.le_trans Z0 (Nat.le_trans (Nat.le_trans (Nat.le_trans (Nat.le_trans (Nat.le_trans (Nat.le_trans (Nat.le_trans (Nat.le_trans (Nat.le_trans (Nat.le_trans (Nat.le_trans (Nat.le_trans (Nat.le_trans (Nat.le_trans K301.1 E302.1) E303.1) (Keep.of_wr W304).1) (Keep.of_wr W306).1) K307.1) E315.1) E316.1) (Keep.of_wr W317).1) (Keep.of_wr W319).1) (Keep.of_wr W320).1) K321.1) E330.1) K333.1) f337_0)
    have ne385 : b330 ≠ es_337 := Nat.ne_of_lt (Nat.lt_of_lt_of_le (Nat.lt_of_lt_of_le A330.lt K333.1) f337_0)
    have c386 : Exa Z T337.heap b302 "java/lang/String" := (((((((((fE307.ext E315).ext E316).wr W317).wr W319).wr W320).keep K321).ext E330).keep K333).keep K337)
    obtain ⟨cq387, kq387, q387a, q387b, q387c⟩ := isOf hZ rfl c383
    obtain ⟨_, _, ⟨T387, L387, k387, n387⟩, -, X387, ⟨Lc387, hQ387, l387, y387, z387⟩, st387⟩ := X337.virtualBack hx (y := (⟨"java/util/ArrayList", "add", "(Ljava/lang/Object;)Z"⟩ : MethodName)) (z := (⟨"java/util/ArrayList", "add", "(Ljava/lang/Object;)Z"⟩ : MethodName)) hown (mvT hZ (hw _ (List.mem_of_getElem? (i := 69) rfl))) (mvT hZ (hw _ (List.mem_of_getElem? (i := 70) rfl))) (notFace_of_selects (args := #[]) (mvT hZ (hw _ (List.mem_of_getElem? (i := 72) rfl)))) (mvT hZ (hw _ (List.mem_of_getElem? (i := 72) rfl))) (mvT hZ (hw _ (List.mem_of_getElem? (i := 71) rfl))) (by decide) (backOf (W := 0) (rm_add_k l Z a0 hw [] b330 b302 es_337 ke_337 (1 : Int32) (1 : Int32) 1 ([(.ref xr_301), .null, .null, .null, .null, .null, .null, .null, .null, .null]) T337.heap n0 (Nat.le_trans Z0 (Nat.le_trans (Nat.le_trans (Nat.le_trans (Nat.le_trans (Nat.le_trans (Nat.le_trans (Nat.le_trans (Nat.le_trans (Nat.le_trans (Nat.le_trans (Nat.le_trans (Nat.le_trans (Nat.le_trans (Nat.le_trans K301.1 E302.1) E303.1) (Keep.of_wr W304).1) (Keep.of_wr W306).1) K307.1) E315.1) E316.1) (Keep.of_wr W317).1) (Keep.of_wr W319).1) (Keep.of_wr W320).1) K321.1) E330.1) K333.1) K337.1)) c383 f337_1 f337_2 f337_3 ge332 ge384 ne385 f337_4 f337_5 c386 (by decide) (by decide) (rfl) (Nat.le_of_ble_eq_true rfl)) hZ (hw _ (List.mem_of_getElem? (i := 73) rfl)) (hw _ (List.mem_of_getElem? (i := 47) rfl)) (by decide) (by decide)) q387a q387c (g := (mkF m 126 #[.val (.int i0), .val (.int i1), .val (.int i2), .val (.int i3), .val (.int i4), .val (.ref xr_301), .val (.ref b302), .val (.ref b315), .val (.int (3 : Int32)), .val (.ref b330), .unset, .unset, .unset, .unset] [(.ref b302), (.ref b330)])) rfl (by rw [hml]; rfl) (Steps.refl _) (argsL := [(.ref b302)]) (rest := []) (lenOf pd_12 rfl) rfl (by show 2 * 0 + _ ≤ _; exact Nat.le_of_eq rfl) (hb hby at_126) (fun _ _ => ⟨rfl, rfl, (by decide : 10 + 0 ≤ _), (by decide : 36 + 0 ≤ _)⟩)
    dsimp only [Pt.U, Pt.locs, Pt.cells, Pt.slots] at X387 l387 y387 z387 st387 hQ387
    subst l387 y387 z387
    obtain ⟨rfl, Nq387, K387, f387_0, f387_1, f387_2, f387_3⟩ := hQ387
    have N387 := Fr.app N337 Nq387
    have V388 : Arv Z T387.heap es_337 ke_337 (.object "java/lang/Object") (10 : Int32) [(.ref xr_301), (.ref b302), .null, .null, .null, .null, .null, .null, .null, .null] .null := f387_3
    have c389 : Exa Z T387.heap b330 "java/util/ArrayList" := (c383.keep K387)
    have c390 : Exa Z T387.heap b315 "java/lang/String" := ((((fE321.ext E330).keep K333).keep K337).keep K387)
    obtain ⟨cq391, kq391, q391a, q391b, q391c⟩ := isOf hZ rfl c389
    obtain ⟨_, _, ⟨T391, L391, k391, n391⟩, -, X391, ⟨Lc391, hQ391, l391, y391, z391⟩, st391⟩ := X387.virtualBack hx (y := (⟨"java/util/ArrayList", "add", "(Ljava/lang/Object;)Z"⟩ : MethodName)) (z := (⟨"java/util/ArrayList", "add", "(Ljava/lang/Object;)Z"⟩ : MethodName)) hown (mvT hZ (hw _ (List.mem_of_getElem? (i := 69) rfl))) (mvT hZ (hw _ (List.mem_of_getElem? (i := 70) rfl))) (notFace_of_selects (args := #[]) (mvT hZ (hw _ (List.mem_of_getElem? (i := 72) rfl)))) (mvT hZ (hw _ (List.mem_of_getElem? (i := 72) rfl))) (mvT hZ (hw _ (List.mem_of_getElem? (i := 71) rfl))) (by decide) (backOf (W := 0) (rm_add_k l Z a0 hw [] b330 b315 es_337 ke_337 ((1 : Int32) + (1 : Int32)) ((1 : Int32) + (1 : Int32)) 2 ([(.ref xr_301), (.ref b302), .null, .null, .null, .null, .null, .null, .null, .null]) T387.heap n0 (Nat.le_trans Z0 (Nat.le_trans (Nat.le_trans (Nat.le_trans (Nat.le_trans (Nat.le_trans (Nat.le_trans (Nat.le_trans (Nat.le_trans (Nat.le_trans (Nat.le_trans (Nat.le_trans (Nat.le_trans (Nat.le_trans (Nat.le_trans (Nat.le_trans K301.1 E302.1) E303.1) (Keep.of_wr W304).1) (Keep.of_wr W306).1) K307.1) E315.1) E316.1) (Keep.of_wr W317).1) (Keep.of_wr W319).1) (Keep.of_wr W320).1) K321.1) E330.1) K333.1) K337.1) K387.1)) c389 f387_0 f387_1 f387_2 ge332 ge384 ne385 V388 f337_5 c390 (by decide) (by decide) (rfl) (Nat.le_of_ble_eq_true rfl)) hZ (hw _ (List.mem_of_getElem? (i := 73) rfl)) (hw _ (List.mem_of_getElem? (i := 47) rfl)) (by decide) (by decide)) q391a q391c (g := (mkF m 140 #[.val (.int i0), .val (.int i1), .val (.int i2), .val (.int i3), .val (.int i4), .val (.ref xr_301), .val (.ref b302), .val (.ref b315), .val (.int (3 : Int32)), .val (.ref b330), .unset, .unset, .unset, .unset] [(.ref b315), (.ref b330)])) rfl (by rw [hml]; rfl) (Steps.refl _) (argsL := [(.ref b315)]) (rest := []) (lenOf pd_12 rfl) rfl (by show 2 * 0 + _ ≤ _; exact Nat.le_of_eq rfl) (hb hby at_140) (fun _ _ => ⟨rfl, rfl, (by decide : 10 + 0 ≤ _), (by decide : 36 + 0 ≤ _)⟩)
    dsimp only [Pt.U, Pt.locs, Pt.cells, Pt.slots] at X391 l391 y391 z391 st391 hQ391
    subst l391 y391 z391
    obtain ⟨rfl, Nq391, K391, f391_0, f391_1, f391_2, f391_3⟩ := hQ391
    have N391 := Fr.app N387 Nq391
    have V392 : Arv Z T391.heap es_337 ke_337 (.object "java/lang/Object") (10 : Int32) [(.ref xr_301), (.ref b302), (.ref b315), .null, .null, .null, .null, .null, .null, .null] .null := f391_3
    obtain ⟨T393, h393, X393, e393, E393, A393, D393, -, st393⟩ := newO X391 hx hZ hown (hw _ (List.mem_of_getElem? (i := 100) rfl)) (hw _ (List.mem_of_getElem? (i := 101) rfl)) (hw _ (List.mem_of_getElem? (i := 102) rfl)) rfl (g := (mkF m 144 #[.val (.int i0), .val (.int i1), .val (.int i2), .val (.int i3), .val (.int i4), .val (.ref xr_301), .val (.ref b302), .val (.ref b315), .val (.int (3 : Int32)), .val (.ref b330), .unset, .unset, .unset, .unset] [])) rfl (hb hby at_144) (by decide) (by decide)
    obtain ⟨b393, g393⟩ : ∃ z, z = T391.heap.size := ⟨_, rfl⟩
    rw [← g393] at A393 D393 st393
    have D393_words : Fld Z h393 b393 "com/example/rowscribe/rowscribe/cli/CommandLine" "words" "Ljava/util/List;" .null := D393 (Or.inr (hw _ (List.mem_of_getElem? (i := 113) rfl))) (ty := (.object "java/util/List")) (by decide)
    have D393_options : Fld Z h393 b393 "com/example/rowscribe/rowscribe/cli/CommandLine" "options" "Ljava/util/Map;" .null := D393 (Or.inr (hw _ (List.mem_of_getElem? (i := 115) rfl))) (ty := (.object "java/util/Map")) (by decide)
    have ge394 : n0 ≤ b393 := Nat.le_trans Z0 (Nat.le_trans (Nat.le_trans (Nat.le_trans (Nat.le_trans (Nat.le_trans (Nat.le_trans (Nat.le_trans (Nat.le_trans (Nat.le_trans (Nat.le_trans (Nat.le_trans (Nat.le_trans (Nat.le_trans (Nat.le_trans (Nat.le_trans (Nat.le_trans (Nat.le_trans K301.1 E302.1) E303.1) (Keep.of_wr W304).1) (Keep.of_wr W306).1) K307.1) E315.1) E316.1) (Keep.of_wr W317).1) (Keep.of_wr W319).1) (Keep.of_wr W320).1) K321.1) E330.1) K333.1) K337.1) K387.1) K391.1) (Nat.le_of_eq g393.symm))
    obtain ⟨_, _, ⟨T395, L395, k395, n395⟩, -, X395, ⟨Lc395, hQ395, l395, y395, z395⟩, st395⟩ := X393.specialBack hx (y := (⟨"com/example/rowscribe/rowscribe/cli/CommandLine", "<init>", "(Ljava/util/List;Ljava/util/Map;)V"⟩ : MethodName)) rfl hown (mvT hZ (hw _ (List.mem_of_getElem? (i := 103) rfl))) (mvT hZ (hw _ (List.mem_of_getElem? (i := 104) rfl))) (mvT hZ (hw _ (List.mem_of_getElem? (i := 105) rfl))) (by decide) (backOf (W := 1) (rm_clinit l Z a0 hw [] b393 b330 h393 n0 (Nat.le_trans Z0 (Nat.le_trans (Nat.le_trans (Nat.le_trans (Nat.le_trans (Nat.le_trans (Nat.le_trans (Nat.le_trans (Nat.le_trans (Nat.le_trans (Nat.le_trans (Nat.le_trans (Nat.le_trans (Nat.le_trans (Nat.le_trans (Nat.le_trans (Nat.le_trans (Nat.le_trans K301.1 E302.1) E303.1) (Keep.of_wr W304).1) (Keep.of_wr W306).1) K307.1) E315.1) E316.1) (Keep.of_wr W317).1) (Keep.of_wr W319).1) (Keep.of_wr W320).1) K321.1) E330.1) K333.1) K337.1) K387.1) K391.1) E393.1)) A393 D393_words D393_options ge394) hZ (hw _ (List.mem_of_getElem? (i := 105) rfl)) (hw _ (List.mem_of_getElem? (i := 102) rfl)) (by decide) (by decide)) (g := (mkF m 151 #[.val (.int i0), .val (.int i1), .val (.int i2), .val (.int i3), .val (.int i4), .val (.ref xr_301), .val (.ref b302), .val (.ref b315), .val (.int (3 : Int32)), .val (.ref b330), .unset, .unset, .unset, .unset] [.null, (.ref b330), (.ref b393), (.ref b393)])) rfl (by rw [hml]; rfl) (Steps.refl _) (a := b393) (argsL := [(.ref b330), .null]) (rest := [(.ref b393)]) (lenOf pd_13 rfl) rfl (by show 2 * 0 + _ ≤ _; exact Nat.le_of_eq rfl) (hb hby at_151) (fun _ _ => ⟨rfl, e393, (by decide : 11 + 0 ≤ _), (by decide : 38 + 0 ≤ _)⟩)
    dsimp only [Pt.U, Pt.locs, Pt.cells, Pt.slots] at X395 l395 y395 z395 st395 hQ395
    subst l395 y395 z395
    obtain ⟨rfl, Nq395, K395, f395_0⟩ := hQ395
    have N395 := Fr.app N391 Nq395
    have pre396 : ∀ t, Steps p.tables e below (T395.setTop (mkF m 166 #[.val (.int i0), .val (.int i1), .val (.int i2), .val (.int i3), .val (.int i4), .val (.ref xr_301), .val (.ref b302), .val (.ref b315), .val (.int (3 : Int32)), .val (.ref b330), .val (.ref b393), .val (.int ((i4 &&& (2147483647 : Int32)) % (3 : Int32))), .unset, .unset] [])) t → Steps p.tables e below (s₁.setTop (entryFrame m #[(.int i0), (.int i1), (.int i2), (.int i3), (.int i4)] maxLocals)) t := fun t kk => pre338 t (by
      refine XS.iload X337.here hx rfl (hb hby at_116) rfl ?_
      show Steps p.tables e below (T337.setTop (mkF m 118 #[.val (.int i0), .val (.int i1), .val (.int i2), .val (.int i3), .val (.int i4), .val (.ref xr_301), .val (.ref b302), .val (.ref b315), .val (.int (3 : Int32)), .val (.ref b330), .unset, .unset, .unset, .unset] [(.int (3 : Int32))])) _
      refine XS.iconst X337.here hx rfl (hb hby at_118) ?_
      show Steps p.tables e below (T337.setTop (mkF m 119 #[.val (.int i0), .val (.int i1), .val (.int i2), .val (.int i3), .val (.int i4), .val (.ref xr_301), .val (.ref b302), .val (.ref b315), .val (.int (3 : Int32)), .val (.ref b330), .unset, .unset, .unset, .unset] [(.int (1 : Int32)), (.int (3 : Int32))])) _
      refine XS.icmpNo X337.here hx rfl (hb hby at_119) rfl (tlt ((by decide) : (1 : Int32) < (3 : Int32))).2.2.2 ?_
      show Steps p.tables e below (T337.setTop (mkF m 122 #[.val (.int i0), .val (.int i1), .val (.int i2), .val (.int i3), .val (.int i4), .val (.ref xr_301), .val (.ref b302), .val (.ref b315), .val (.int (3 : Int32)), .val (.ref b330), .unset, .unset, .unset, .unset] [])) _
      refine XS.aload X337.here hx rfl (hb hby at_122) rfl rfl ?_
      show Steps p.tables e below (T337.setTop (mkF m 124 #[.val (.int i0), .val (.int i1), .val (.int i2), .val (.int i3), .val (.int i4), .val (.ref xr_301), .val (.ref b302), .val (.ref b315), .val (.int (3 : Int32)), .val (.ref b330), .unset, .unset, .unset, .unset] [(.ref b330)])) _
      refine XS.aload X337.here hx rfl (hb hby at_124) rfl rfl ?_
      show Steps p.tables e below (T337.setTop (mkF m 126 #[.val (.int i0), .val (.int i1), .val (.int i2), .val (.int i3), .val (.int i4), .val (.ref xr_301), .val (.ref b302), .val (.ref b315), .val (.int (3 : Int32)), .val (.ref b330), .unset, .unset, .unset, .unset] [(.ref b302), (.ref b330)])) _
      refine st387.trans ?_
      show Steps p.tables e below (T387.setTop (mkF m 129 #[.val (.int i0), .val (.int i1), .val (.int i2), .val (.int i3), .val (.int i4), .val (.ref xr_301), .val (.ref b302), .val (.ref b315), .val (.int (3 : Int32)), .val (.ref b330), .unset, .unset, .unset, .unset] [(.int (1 : Int32))])) _
      refine XS.pop X387.here hx rfl (hb hby at_129) rfl rfl ?_
      show Steps p.tables e below (T387.setTop (mkF m 130 #[.val (.int i0), .val (.int i1), .val (.int i2), .val (.int i3), .val (.int i4), .val (.ref xr_301), .val (.ref b302), .val (.ref b315), .val (.int (3 : Int32)), .val (.ref b330), .unset, .unset, .unset, .unset] [])) _
      refine XS.iload X387.here hx rfl (hb hby at_130) rfl ?_
      show Steps p.tables e below (T387.setTop (mkF m 132 #[.val (.int i0), .val (.int i1), .val (.int i2), .val (.int i3), .val (.int i4), .val (.ref xr_301), .val (.ref b302), .val (.ref b315), .val (.int (3 : Int32)), .val (.ref b330), .unset, .unset, .unset, .unset] [(.int (3 : Int32))])) _
      refine XS.iconst X387.here hx rfl (hb hby at_132) ?_
      show Steps p.tables e below (T387.setTop (mkF m 133 #[.val (.int i0), .val (.int i1), .val (.int i2), .val (.int i3), .val (.int i4), .val (.ref xr_301), .val (.ref b302), .val (.ref b315), .val (.int (3 : Int32)), .val (.ref b330), .unset, .unset, .unset, .unset] [(.int (2 : Int32)), (.int (3 : Int32))])) _
      refine XS.icmpNo X387.here hx rfl (hb hby at_133) rfl (tlt ((by decide) : (2 : Int32) < (3 : Int32))).2.2.2 ?_
      show Steps p.tables e below (T387.setTop (mkF m 136 #[.val (.int i0), .val (.int i1), .val (.int i2), .val (.int i3), .val (.int i4), .val (.ref xr_301), .val (.ref b302), .val (.ref b315), .val (.int (3 : Int32)), .val (.ref b330), .unset, .unset, .unset, .unset] [])) _
      refine XS.aload X387.here hx rfl (hb hby at_136) rfl rfl ?_
      show Steps p.tables e below (T387.setTop (mkF m 138 #[.val (.int i0), .val (.int i1), .val (.int i2), .val (.int i3), .val (.int i4), .val (.ref xr_301), .val (.ref b302), .val (.ref b315), .val (.int (3 : Int32)), .val (.ref b330), .unset, .unset, .unset, .unset] [(.ref b330)])) _
      refine XS.aload X387.here hx rfl (hb hby at_138) rfl rfl ?_
      show Steps p.tables e below (T387.setTop (mkF m 140 #[.val (.int i0), .val (.int i1), .val (.int i2), .val (.int i3), .val (.int i4), .val (.ref xr_301), .val (.ref b302), .val (.ref b315), .val (.int (3 : Int32)), .val (.ref b330), .unset, .unset, .unset, .unset] [(.ref b315), (.ref b330)])) _
      refine st391.trans ?_
      show Steps p.tables e below (T391.setTop (mkF m 143 #[.val (.int i0), .val (.int i1), .val (.int i2), .val (.int i3), .val (.int i4), .val (.ref xr_301), .val (.ref b302), .val (.ref b315), .val (.int (3 : Int32)), .val (.ref b330), .unset, .unset, .unset, .unset] [(.int (1 : Int32))])) _
      refine XS.pop X391.here hx rfl (hb hby at_143) rfl rfl ?_
      show Steps p.tables e below (T391.setTop (mkF m 144 #[.val (.int i0), .val (.int i1), .val (.int i2), .val (.int i3), .val (.int i4), .val (.ref xr_301), .val (.ref b302), .val (.ref b315), .val (.int (3 : Int32)), .val (.ref b330), .unset, .unset, .unset, .unset] [])) _
      refine st393 _ ?_
      show Steps p.tables e below (T393.setTop (mkF m 147 #[.val (.int i0), .val (.int i1), .val (.int i2), .val (.int i3), .val (.int i4), .val (.ref xr_301), .val (.ref b302), .val (.ref b315), .val (.int (3 : Int32)), .val (.ref b330), .unset, .unset, .unset, .unset] [(.ref b393)])) _
      refine XS.dup X393.here hx rfl (hb hby at_147) rfl rfl ?_
      show Steps p.tables e below (T393.setTop (mkF m 148 #[.val (.int i0), .val (.int i1), .val (.int i2), .val (.int i3), .val (.int i4), .val (.ref xr_301), .val (.ref b302), .val (.ref b315), .val (.int (3 : Int32)), .val (.ref b330), .unset, .unset, .unset, .unset] [(.ref b393), (.ref b393)])) _
      refine XS.aload X393.here hx rfl (hb hby at_148) rfl rfl ?_
      show Steps p.tables e below (T393.setTop (mkF m 150 #[.val (.int i0), .val (.int i1), .val (.int i2), .val (.int i3), .val (.int i4), .val (.ref xr_301), .val (.ref b302), .val (.ref b315), .val (.int (3 : Int32)), .val (.ref b330), .unset, .unset, .unset, .unset] [(.ref b330), (.ref b393), (.ref b393)])) _
      refine XS.aconstNull X393.here hx rfl (hb hby at_150) ?_
      show Steps p.tables e below (T393.setTop (mkF m 151 #[.val (.int i0), .val (.int i1), .val (.int i2), .val (.int i3), .val (.int i4), .val (.ref xr_301), .val (.ref b302), .val (.ref b315), .val (.int (3 : Int32)), .val (.ref b330), .unset, .unset, .unset, .unset] [.null, (.ref b330), (.ref b393), (.ref b393)])) _
      refine st395.trans ?_
      show Steps p.tables e below (T395.setTop (mkF m 154 #[.val (.int i0), .val (.int i1), .val (.int i2), .val (.int i3), .val (.int i4), .val (.ref xr_301), .val (.ref b302), .val (.ref b315), .val (.int (3 : Int32)), .val (.ref b330), .unset, .unset, .unset, .unset] [(.ref b393)])) _
      refine XS.astore X395.here hx rfl (hb hby at_154) rfl rfl (l' := #[.val (.int i0), .val (.int i1), .val (.int i2), .val (.int i3), .val (.int i4), .val (.ref xr_301), .val (.ref b302), .val (.ref b315), .val (.int (3 : Int32)), .val (.ref b330), .val (.ref b393), .unset, .unset, .unset]) rfl ?_
      show Steps p.tables e below (T395.setTop (mkF m 156 #[.val (.int i0), .val (.int i1), .val (.int i2), .val (.int i3), .val (.int i4), .val (.ref xr_301), .val (.ref b302), .val (.ref b315), .val (.int (3 : Int32)), .val (.ref b330), .val (.ref b393), .unset, .unset, .unset] [])) _
      refine XS.iload X395.here hx rfl (hb hby at_156) rfl ?_
      show Steps p.tables e below (T395.setTop (mkF m 158 #[.val (.int i0), .val (.int i1), .val (.int i2), .val (.int i3), .val (.int i4), .val (.ref xr_301), .val (.ref b302), .val (.ref b315), .val (.int (3 : Int32)), .val (.ref b330), .val (.ref b393), .unset, .unset, .unset] [(.int i4)])) _
      refine X395.ldcInt hx hown (mvT hZ (hw _ (List.mem_of_getElem? (i := 44) rfl))) (g := (mkF m 158 #[.val (.int i0), .val (.int i1), .val (.int i2), .val (.int i3), .val (.int i4), .val (.ref xr_301), .val (.ref b302), .val (.ref b315), .val (.int (3 : Int32)), .val (.ref b330), .val (.ref b393), .unset, .unset, .unset] [(.int i4)])) rfl (hb hby at_158) _ ?_
      show Steps p.tables e below (T395.setTop (mkF m 160 #[.val (.int i0), .val (.int i1), .val (.int i2), .val (.int i3), .val (.int i4), .val (.ref xr_301), .val (.ref b302), .val (.ref b315), .val (.int (3 : Int32)), .val (.ref b330), .val (.ref b393), .unset, .unset, .unset] [(.int (2147483647 : Int32)), (.int i4)])) _
      refine XS.iand X395.here hx rfl (hb hby at_160) rfl ?_
      show Steps p.tables e below (T395.setTop (mkF m 161 #[.val (.int i0), .val (.int i1), .val (.int i2), .val (.int i3), .val (.int i4), .val (.ref xr_301), .val (.ref b302), .val (.ref b315), .val (.int (3 : Int32)), .val (.ref b330), .val (.ref b393), .unset, .unset, .unset] [(.int (i4 &&& (2147483647 : Int32)))])) _
      refine XS.iload X395.here hx rfl (hb hby at_161) rfl ?_
      show Steps p.tables e below (T395.setTop (mkF m 163 #[.val (.int i0), .val (.int i1), .val (.int i2), .val (.int i3), .val (.int i4), .val (.ref xr_301), .val (.ref b302), .val (.ref b315), .val (.int (3 : Int32)), .val (.ref b330), .val (.ref b393), .unset, .unset, .unset] [(.int (3 : Int32)), (.int (i4 &&& (2147483647 : Int32)))])) _
      refine iremM X395 hx rfl (hb hby at_163) rfl (by decide) ?_
      show Steps p.tables e below (T395.setTop (mkF m 164 #[.val (.int i0), .val (.int i1), .val (.int i2), .val (.int i3), .val (.int i4), .val (.ref xr_301), .val (.ref b302), .val (.ref b315), .val (.int (3 : Int32)), .val (.ref b330), .val (.ref b393), .unset, .unset, .unset] [(.int ((i4 &&& (2147483647 : Int32)) % (3 : Int32)))])) _
      refine XS.istore X395.here hx rfl (hb hby at_164) rfl (l' := #[.val (.int i0), .val (.int i1), .val (.int i2), .val (.int i3), .val (.int i4), .val (.ref xr_301), .val (.ref b302), .val (.ref b315), .val (.int (3 : Int32)), .val (.ref b330), .val (.ref b393), .val (.int ((i4 &&& (2147483647 : Int32)) % (3 : Int32))), .unset, .unset]) rfl ?_
      show Steps p.tables e below (T395.setTop (mkF m 166 #[.val (.int i0), .val (.int i1), .val (.int i2), .val (.int i3), .val (.int i4), .val (.ref xr_301), .val (.ref b302), .val (.ref b315), .val (.int (3 : Int32)), .val (.ref b330), .val (.ref b393), .val (.int ((i4 &&& (2147483647 : Int32)) % (3 : Int32))), .unset, .unset] [])) _
      exact kk)
    obtain ⟨jj, h_jj⟩ : ∃ z, z = ((i4 &&& (2147483647 : Int32)) % (3 : Int32)) := ⟨_, rfl⟩
    rw [← h_jj] at pre396
    have hj : jj = (0 : Int32) ∨ jj = (1 : Int32) ∨ jj = (2 : Int32) := by rw [h_jj]; exact own_m3 i4
    rcases hj with hj | hj | hj
    · subst hj
      have c397 : Exa Z T395.heap b393 "com/example/rowscribe/rowscribe/cli/CommandLine" := (A393.keep K395)
      have c398 : Exa Z T395.heap b330 "java/util/ArrayList" := (((c389.keep K391).ext E393).keep K395)
      have ne399 : b330 ≠ b393 := Nat.ne_of_lt (Nat.lt_of_lt_of_le f391_0.lt (Nat.le_of_eq g393.symm))
      have c400 : Fld Z T395.heap b330 "java/util/ArrayList" "elementData" "[Ljava/lang/Object;" (.ref es_337) := ((f391_2.ext E393).keep K395 (ninS ne399 nin0))
      have c401 : Fld Z T395.heap b330 "java/util/ArrayList" "size" "I" (.int (((1 : Int32) + (1 : Int32)) + (1 : Int32))) := ((f391_1.ext E393).keep K395 (ninS ne399 nin0))
      have ne402 : es_337 ≠ b393 := Nat.ne_of_lt (Nat.lt_of_lt_of_le V392.lt (Nat.le_of_eq g393.symm))
      have c403 : Arv Z T395.heap es_337 ke_337 (.object "java/lang/Object") (10 : Int32) [(.ref xr_301), (.ref b302), (.ref b315), .null, .null, .null, .null, .null, .null, .null] .null := ((V392.ext E393).keep K395 (ninS ne402 nin0))
      have c404 : Exa Z T395.heap xr_301 "java/lang/String" := (((((c336.keep K337).keep K387).keep K391).ext E393).keep K395)
      obtain ⟨cq405, kq405, q405a, q405b, q405c⟩ := isOf hZ rfl c397
      obtain ⟨_, _, ⟨T405, L405, k405, n405⟩, -, X405, ⟨Lc405, hQ405, l405, y405, z405⟩, st405⟩ := X395.virtualBack hx (y := (⟨"com/example/rowscribe/rowscribe/cli/CommandLine", "word", "(I)Ljava/lang/String;"⟩ : MethodName)) (z := (⟨"com/example/rowscribe/rowscribe/cli/CommandLine", "word", "(I)Ljava/lang/String;"⟩ : MethodName)) hown (mvT hZ (hw _ (List.mem_of_getElem? (i := 116) rfl))) (mvT hZ (hw _ (List.mem_of_getElem? (i := 117) rfl))) (notFace_of_selects (args := #[]) (mvT hZ (hw _ (List.mem_of_getElem? (i := 119) rfl)))) (mvT hZ (hw _ (List.mem_of_getElem? (i := 119) rfl))) (mvT hZ (hw _ (List.mem_of_getElem? (i := 118) rfl))) (by decide) (backOf (W := 0) (rm_word l Z a0 hw [] b393 b330 (0 : Int32) es_337 ke_337 (((1 : Int32) + (1 : Int32)) + (1 : Int32)) ([(.ref xr_301), (.ref b302), (.ref b315), .null, .null, .null, .null, .null, .null, .null]) xr_301 T395.heap n0 (Nat.le_trans Z0 (Nat.le_trans (Nat.le_trans (Nat.le_trans (Nat.le_trans (Nat.le_trans (Nat.le_trans (Nat.le_trans (Nat.le_trans (Nat.le_trans (Nat.le_trans (Nat.le_trans (Nat.le_trans (Nat.le_trans (Nat.le_trans (Nat.le_trans (Nat.le_trans (Nat.le_trans (Nat.le_trans K301.1 E302.1) E303.1) (Keep.of_wr W304).1) (Keep.of_wr W306).1) K307.1) E315.1) E316.1) (Keep.of_wr W317).1) (Keep.of_wr W319).1) (Keep.of_wr W320).1) K321.1) E330.1) K333.1) K337.1) K387.1) K391.1) E393.1) K395.1)) f395_0 c398 c400 c401 c403 (by decide) (by decide) (by decide) (rfl) c404) hZ (hw _ (List.mem_of_getElem? (i := 120) rfl)) (hw _ (List.mem_of_getElem? (i := 102) rfl)) (by decide) (by decide)) q405a q405c (g := (mkF m 195 #[.val (.int i0), .val (.int i1), .val (.int i2), .val (.int i3), .val (.int i4), .val (.ref xr_301), .val (.ref b302), .val (.ref b315), .val (.int (3 : Int32)), .val (.ref b330), .val (.ref b393), .val (.int (0 : Int32)), .val (.ref xr_301), .unset] [(.int (0 : Int32)), (.ref b393)])) rfl (by rw [hml]; rfl) (Steps.refl _) (argsL := [(.int (0 : Int32))]) (rest := []) (lenOf pd_14 rfl) rfl (by show 2 * 0 + _ ≤ _; exact Nat.le_of_eq rfl) (hb hby at_195) (fun _ _ => ⟨rfl, rfl, (by decide : 11 + 0 ≤ _), (by decide : 38 + 0 ≤ _)⟩)
      dsimp only [Pt.U, Pt.locs, Pt.cells, Pt.slots] at X405 l405 y405 z405 st405 hQ405
      subst l405 y405 z405
      obtain ⟨rfl, Nq405, e405⟩ := hQ405
      have N405 := Fr.app N395 Nq405
      obtain ⟨cq406, kq406, q406a, q406b, q406c⟩ := isOf hZ e405 c404
      obtain ⟨_, _, ⟨T406, L406, k406, n406⟩, -, X406, ⟨Lc406, hQ406, l406, y406, z406⟩, st406⟩ := X405.virtualBack hx (y := (⟨"java/lang/String", "equals", "(Ljava/lang/Object;)Z"⟩ : MethodName)) (z := (⟨"java/lang/String", "equals", "(Ljava/lang/Object;)Z"⟩ : MethodName)) hown (mvT hZ (hw _ (List.mem_of_getElem? (i := 144) rfl))) (mvT hZ (hw _ (List.mem_of_getElem? (i := 145) rfl))) (notFace_of_selects (args := #[]) (mvT hZ (hw _ (List.mem_of_getElem? (i := 147) rfl)))) (mvT hZ (hw _ (List.mem_of_getElem? (i := 147) rfl))) (mvT hZ (hw _ (List.mem_of_getElem? (i := 146) rfl))) (by decide) (backOf (W := 0) (rm_eqS l Z a0 hw [] xr_301 T395.heap n0 (Nat.le_trans Z0 (Nat.le_trans (Nat.le_trans (Nat.le_trans (Nat.le_trans (Nat.le_trans (Nat.le_trans (Nat.le_trans (Nat.le_trans (Nat.le_trans (Nat.le_trans (Nat.le_trans (Nat.le_trans (Nat.le_trans (Nat.le_trans (Nat.le_trans (Nat.le_trans (Nat.le_trans (Nat.le_trans K301.1 E302.1) E303.1) (Keep.of_wr W304).1) (Keep.of_wr W306).1) K307.1) E315.1) E316.1) (Keep.of_wr W317).1) (Keep.of_wr W319).1) (Keep.of_wr W320).1) K321.1) E330.1) K333.1) K337.1) K387.1) K391.1) E393.1) K395.1)) ) hZ (hw _ (List.mem_of_getElem? (i := 148) rfl)) (hw _ (List.mem_of_getElem? (i := 2) rfl)) (by decide) (by decide)) q406a q406c (g := (mkF m 209 #[.val (.int i0), .val (.int i1), .val (.int i2), .val (.int i3), .val (.int i4), .val (.ref xr_301), .val (.ref b302), .val (.ref b315), .val (.int (3 : Int32)), .val (.ref b330), .val (.ref b393), .val (.int (0 : Int32)), .val (.ref xr_301), .val (.ref xr_301)] [(.ref xr_301), (.ref xr_301)])) rfl (by rw [hml]; rfl) (Steps.refl _) (argsL := [(.ref xr_301)]) (rest := []) (lenOf pd_12 rfl) rfl (by show 2 * 0 + _ ≤ _; exact Nat.le_of_eq rfl) (hb hby at_209) (fun _ _ => ⟨rfl, e405, (by decide : 11 + 0 ≤ _), (by decide : 38 + 0 ≤ _)⟩)
      dsimp only [Pt.U, Pt.locs, Pt.cells, Pt.slots] at X406 l406 y406 z406 st406 hQ406
      subst l406 y406 z406
      obtain ⟨rfl, Nq406, e406⟩ := hQ406
      have N406 := Fr.app N405 Nq406
      obtain ⟨fs, hr, hrun, hended, hW, hsame⟩ := X406.leave (v := some (.int (1 : Int32))) (fun h => by rw [Bd.returns] at h; cases h)
      refine ⟨_, _, pre396 _ ?_, hrun, hended, _, _, rfl, ?_, ⟨_, rfl⟩, hW, hsame.mono (by decide) (by decide)⟩
      · refine XS.iload X395.here hx rfl (hb hby at_166) rfl ?_
        show Steps p.tables e below (T395.setTop (mkF m 168 #[.val (.int i0), .val (.int i1), .val (.int i2), .val (.int i3), .val (.int i4), .val (.ref xr_301), .val (.ref b302), .val (.ref b315), .val (.int (3 : Int32)), .val (.ref b330), .val (.ref b393), .val (.int (0 : Int32)), .unset, .unset] [(.int (0 : Int32))])) _
        refine XS.ifNo X395.here hx rfl (hb hby at_168) rfl ((if0 _ _).trans (teq ((by decide) : (0 : Int32) = (0 : Int32))).2) ?_
        show Steps p.tables e below (T395.setTop (mkF m 171 #[.val (.int i0), .val (.int i1), .val (.int i2), .val (.int i3), .val (.int i4), .val (.ref xr_301), .val (.ref b302), .val (.ref b315), .val (.int (3 : Int32)), .val (.ref b330), .val (.ref b393), .val (.int (0 : Int32)), .unset, .unset] [])) _
        refine XS.aload X395.here hx rfl (hb hby at_171) rfl rfl ?_
        show Steps p.tables e below (T395.setTop (mkF m 173 #[.val (.int i0), .val (.int i1), .val (.int i2), .val (.int i3), .val (.int i4), .val (.ref xr_301), .val (.ref b302), .val (.ref b315), .val (.int (3 : Int32)), .val (.ref b330), .val (.ref b393), .val (.int (0 : Int32)), .unset, .unset] [(.ref xr_301)])) _
        refine XS.goto X395.here hx rfl (pc0 := 173) (pc' := 189) rfl (hb hby at_173) (by decide) (by decide) ?_
        show Steps p.tables e below (T395.setTop (mkF m 189 #[.val (.int i0), .val (.int i1), .val (.int i2), .val (.int i3), .val (.int i4), .val (.ref xr_301), .val (.ref b302), .val (.ref b315), .val (.int (3 : Int32)), .val (.ref b330), .val (.ref b393), .val (.int (0 : Int32)), .unset, .unset] [(.ref xr_301)])) _
        refine XS.astore X395.here hx rfl (hb hby at_189) rfl rfl (l' := #[.val (.int i0), .val (.int i1), .val (.int i2), .val (.int i3), .val (.int i4), .val (.ref xr_301), .val (.ref b302), .val (.ref b315), .val (.int (3 : Int32)), .val (.ref b330), .val (.ref b393), .val (.int (0 : Int32)), .val (.ref xr_301), .unset]) rfl ?_
        show Steps p.tables e below (T395.setTop (mkF m 191 #[.val (.int i0), .val (.int i1), .val (.int i2), .val (.int i3), .val (.int i4), .val (.ref xr_301), .val (.ref b302), .val (.ref b315), .val (.int (3 : Int32)), .val (.ref b330), .val (.ref b393), .val (.int (0 : Int32)), .val (.ref xr_301), .unset] [])) _
        refine XS.aload X395.here hx rfl (hb hby at_191) rfl rfl ?_
        show Steps p.tables e below (T395.setTop (mkF m 193 #[.val (.int i0), .val (.int i1), .val (.int i2), .val (.int i3), .val (.int i4), .val (.ref xr_301), .val (.ref b302), .val (.ref b315), .val (.int (3 : Int32)), .val (.ref b330), .val (.ref b393), .val (.int (0 : Int32)), .val (.ref xr_301), .unset] [(.ref b393)])) _
        refine XS.iload X395.here hx rfl (hb hby at_193) rfl ?_
        show Steps p.tables e below (T395.setTop (mkF m 195 #[.val (.int i0), .val (.int i1), .val (.int i2), .val (.int i3), .val (.int i4), .val (.ref xr_301), .val (.ref b302), .val (.ref b315), .val (.int (3 : Int32)), .val (.ref b330), .val (.ref b393), .val (.int (0 : Int32)), .val (.ref xr_301), .unset] [(.int (0 : Int32)), (.ref b393)])) _
        refine st405.trans ?_
        show Steps p.tables e below (T405.setTop (mkF m 198 #[.val (.int i0), .val (.int i1), .val (.int i2), .val (.int i3), .val (.int i4), .val (.ref xr_301), .val (.ref b302), .val (.ref b315), .val (.int (3 : Int32)), .val (.ref b330), .val (.ref b393), .val (.int (0 : Int32)), .val (.ref xr_301), .unset] [(.ref xr_301)])) _
        refine XS.astore X405.here hx rfl (hb hby at_198) rfl rfl (l' := #[.val (.int i0), .val (.int i1), .val (.int i2), .val (.int i3), .val (.int i4), .val (.ref xr_301), .val (.ref b302), .val (.ref b315), .val (.int (3 : Int32)), .val (.ref b330), .val (.ref b393), .val (.int (0 : Int32)), .val (.ref xr_301), .val (.ref xr_301)]) rfl ?_
        show Steps p.tables e below (T405.setTop (mkF m 200 #[.val (.int i0), .val (.int i1), .val (.int i2), .val (.int i3), .val (.int i4), .val (.ref xr_301), .val (.ref b302), .val (.ref b315), .val (.int (3 : Int32)), .val (.ref b330), .val (.ref b393), .val (.int (0 : Int32)), .val (.ref xr_301), .val (.ref xr_301)] [])) _
        refine XS.aload X405.here hx rfl (hb hby at_200) rfl rfl ?_
        show Steps p.tables e below (T405.setTop (mkF m 202 #[.val (.int i0), .val (.int i1), .val (.int i2), .val (.int i3), .val (.int i4), .val (.ref xr_301), .val (.ref b302), .val (.ref b315), .val (.int (3 : Int32)), .val (.ref b330), .val (.ref b393), .val (.int (0 : Int32)), .val (.ref xr_301), .val (.ref xr_301)] [(.ref xr_301)])) _
        refine XS.ifnullNo X405.here hx rfl (hb hby at_202) rfl ?_
        show Steps p.tables e below (T405.setTop (mkF m 205 #[.val (.int i0), .val (.int i1), .val (.int i2), .val (.int i3), .val (.int i4), .val (.ref xr_301), .val (.ref b302), .val (.ref b315), .val (.int (3 : Int32)), .val (.ref b330), .val (.ref b393), .val (.int (0 : Int32)), .val (.ref xr_301), .val (.ref xr_301)] [])) _
        refine XS.aload X405.here hx rfl (hb hby at_205) rfl rfl ?_
        show Steps p.tables e below (T405.setTop (mkF m 207 #[.val (.int i0), .val (.int i1), .val (.int i2), .val (.int i3), .val (.int i4), .val (.ref xr_301), .val (.ref b302), .val (.ref b315), .val (.int (3 : Int32)), .val (.ref b330), .val (.ref b393), .val (.int (0 : Int32)), .val (.ref xr_301), .val (.ref xr_301)] [(.ref xr_301)])) _
        refine XS.aload X405.here hx rfl (hb hby at_207) rfl rfl ?_
        show Steps p.tables e below (T405.setTop (mkF m 209 #[.val (.int i0), .val (.int i1), .val (.int i2), .val (.int i3), .val (.int i4), .val (.ref xr_301), .val (.ref b302), .val (.ref b315), .val (.int (3 : Int32)), .val (.ref b330), .val (.ref b393), .val (.int (0 : Int32)), .val (.ref xr_301), .val (.ref xr_301)] [(.ref xr_301), (.ref xr_301)])) _
        refine st406.trans ?_
        show Steps p.tables e below (T406.setTop (mkF m 212 #[.val (.int i0), .val (.int i1), .val (.int i2), .val (.int i3), .val (.int i4), .val (.ref xr_301), .val (.ref b302), .val (.ref b315), .val (.int (3 : Int32)), .val (.ref b330), .val (.ref b393), .val (.int (0 : Int32)), .val (.ref xr_301), .val (.ref xr_301)] [(.int (1 : Int32))])) _
        refine XS.ifNo X406.here hx rfl (hb hby at_212) rfl ((if0 _ _).trans (feq ((by decide) : ¬ ((1 : Int32) = (0 : Int32)))).1) ?_
        show Steps p.tables e below (T406.setTop (mkF m 215 #[.val (.int i0), .val (.int i1), .val (.int i2), .val (.int i3), .val (.int i4), .val (.ref xr_301), .val (.ref b302), .val (.ref b315), .val (.int (3 : Int32)), .val (.ref b330), .val (.ref b393), .val (.int (0 : Int32)), .val (.ref xr_301), .val (.ref xr_301)] [])) _
        refine XS.iconst X406.here hx rfl (hb hby at_215) ?_
        show Steps p.tables e below (T406.setTop (mkF m 216 #[.val (.int i0), .val (.int i1), .val (.int i2), .val (.int i3), .val (.int i4), .val (.ref xr_301), .val (.ref b302), .val (.ref b315), .val (.int (3 : Int32)), .val (.ref b330), .val (.ref b393), .val (.int (0 : Int32)), .val (.ref xr_301), .val (.ref xr_301)] [(.int (1 : Int32))])) _
        refine XS.goto X406.here hx rfl (pc0 := 216) (pc' := 220) rfl (hb hby at_216) (by decide) (by decide) ?_
        show Steps p.tables e below (T406.setTop (mkF m 220 #[.val (.int i0), .val (.int i1), .val (.int i2), .val (.int i3), .val (.int i4), .val (.ref xr_301), .val (.ref b302), .val (.ref b315), .val (.int (3 : Int32)), .val (.ref b330), .val (.ref b393), .val (.int (0 : Int32)), .val (.ref xr_301), .val (.ref xr_301)] [(.int (1 : Int32))])) _
        exact retN X406 hx (t := .boolean) Bd.returns (by simp) (hb hby at_220) hr
      · show Q_law Z i0 i1 i2 i3 i4 G dd kd h0 n0 _ T406.heap _
        rw [e406]
        exact ⟨rfl, N406⟩
    · subst hj
      have c407 : Exa Z T395.heap b393 "com/example/rowscribe/rowscribe/cli/CommandLine" := (A393.keep K395)
      have c408 : Exa Z T395.heap b330 "java/util/ArrayList" := (((c389.keep K391).ext E393).keep K395)
      have ne409 : b330 ≠ b393 := Nat.ne_of_lt (Nat.lt_of_lt_of_le f391_0.lt (Nat.le_of_eq g393.symm))
      have c410 : Fld Z T395.heap b330 "java/util/ArrayList" "elementData" "[Ljava/lang/Object;" (.ref es_337) := ((f391_2.ext E393).keep K395 (ninS ne409 nin0))
      have c411 : Fld Z T395.heap b330 "java/util/ArrayList" "size" "I" (.int (((1 : Int32) + (1 : Int32)) + (1 : Int32))) := ((f391_1.ext E393).keep K395 (ninS ne409 nin0))
      have ne412 : es_337 ≠ b393 := Nat.ne_of_lt (Nat.lt_of_lt_of_le V392.lt (Nat.le_of_eq g393.symm))
      have c413 : Arv Z T395.heap es_337 ke_337 (.object "java/lang/Object") (10 : Int32) [(.ref xr_301), (.ref b302), (.ref b315), .null, .null, .null, .null, .null, .null, .null] .null := ((V392.ext E393).keep K395 (ninS ne412 nin0))
      have c414 : Exa Z T395.heap b302 "java/lang/String" := ((((c386.keep K387).keep K391).ext E393).keep K395)
      obtain ⟨cq415, kq415, q415a, q415b, q415c⟩ := isOf hZ rfl c407
      obtain ⟨_, _, ⟨T415, L415, k415, n415⟩, -, X415, ⟨Lc415, hQ415, l415, y415, z415⟩, st415⟩ := X395.virtualBack hx (y := (⟨"com/example/rowscribe/rowscribe/cli/CommandLine", "word", "(I)Ljava/lang/String;"⟩ : MethodName)) (z := (⟨"com/example/rowscribe/rowscribe/cli/CommandLine", "word", "(I)Ljava/lang/String;"⟩ : MethodName)) hown (mvT hZ (hw _ (List.mem_of_getElem? (i := 116) rfl))) (mvT hZ (hw _ (List.mem_of_getElem? (i := 117) rfl))) (notFace_of_selects (args := #[]) (mvT hZ (hw _ (List.mem_of_getElem? (i := 119) rfl)))) (mvT hZ (hw _ (List.mem_of_getElem? (i := 119) rfl))) (mvT hZ (hw _ (List.mem_of_getElem? (i := 118) rfl))) (by decide) (backOf (W := 0) (rm_word l Z a0 hw [] b393 b330 (1 : Int32) es_337 ke_337 (((1 : Int32) + (1 : Int32)) + (1 : Int32)) ([(.ref xr_301), (.ref b302), (.ref b315), .null, .null, .null, .null, .null, .null, .null]) b302 T395.heap n0 (Nat.le_trans Z0 (Nat.le_trans (Nat.le_trans (Nat.le_trans (Nat.le_trans (Nat.le_trans (Nat.le_trans (Nat.le_trans (Nat.le_trans (Nat.le_trans (Nat.le_trans (Nat.le_trans (Nat.le_trans (Nat.le_trans (Nat.le_trans (Nat.le_trans (Nat.le_trans (Nat.le_trans (Nat.le_trans K301.1 E302.1) E303.1) (Keep.of_wr W304).1) (Keep.of_wr W306).1) K307.1) E315.1) E316.1) (Keep.of_wr W317).1) (Keep.of_wr W319).1) (Keep.of_wr W320).1) K321.1) E330.1) K333.1) K337.1) K387.1) K391.1) E393.1) K395.1)) f395_0 c408 c410 c411 c413 (by decide) (by decide) (by decide) (rfl) c414) hZ (hw _ (List.mem_of_getElem? (i := 120) rfl)) (hw _ (List.mem_of_getElem? (i := 102) rfl)) (by decide) (by decide)) q415a q415c (g := (mkF m 195 #[.val (.int i0), .val (.int i1), .val (.int i2), .val (.int i3), .val (.int i4), .val (.ref xr_301), .val (.ref b302), .val (.ref b315), .val (.int (3 : Int32)), .val (.ref b330), .val (.ref b393), .val (.int (1 : Int32)), .val (.ref b302), .unset] [(.int (1 : Int32)), (.ref b393)])) rfl (by rw [hml]; rfl) (Steps.refl _) (argsL := [(.int (1 : Int32))]) (rest := []) (lenOf pd_14 rfl) rfl (by show 2 * 0 + _ ≤ _; exact Nat.le_of_eq rfl) (hb hby at_195) (fun _ _ => ⟨rfl, rfl, (by decide : 11 + 0 ≤ _), (by decide : 38 + 0 ≤ _)⟩)
      dsimp only [Pt.U, Pt.locs, Pt.cells, Pt.slots] at X415 l415 y415 z415 st415 hQ415
      subst l415 y415 z415
      obtain ⟨rfl, Nq415, e415⟩ := hQ415
      have N415 := Fr.app N395 Nq415
      obtain ⟨cq416, kq416, q416a, q416b, q416c⟩ := isOf hZ e415 c414
      obtain ⟨_, _, ⟨T416, L416, k416, n416⟩, -, X416, ⟨Lc416, hQ416, l416, y416, z416⟩, st416⟩ := X415.virtualBack hx (y := (⟨"java/lang/String", "equals", "(Ljava/lang/Object;)Z"⟩ : MethodName)) (z := (⟨"java/lang/String", "equals", "(Ljava/lang/Object;)Z"⟩ : MethodName)) hown (mvT hZ (hw _ (List.mem_of_getElem? (i := 144) rfl))) (mvT hZ (hw _ (List.mem_of_getElem? (i := 145) rfl))) (notFace_of_selects (args := #[]) (mvT hZ (hw _ (List.mem_of_getElem? (i := 147) rfl)))) (mvT hZ (hw _ (List.mem_of_getElem? (i := 147) rfl))) (mvT hZ (hw _ (List.mem_of_getElem? (i := 146) rfl))) (by decide) (backOf (W := 0) (rm_eqS l Z a0 hw [] b302 T395.heap n0 (Nat.le_trans Z0 (Nat.le_trans (Nat.le_trans (Nat.le_trans (Nat.le_trans (Nat.le_trans (Nat.le_trans (Nat.le_trans (Nat.le_trans (Nat.le_trans (Nat.le_trans (Nat.le_trans (Nat.le_trans (Nat.le_trans (Nat.le_trans (Nat.le_trans (Nat.le_trans (Nat.le_trans (Nat.le_trans K301.1 E302.1) E303.1) (Keep.of_wr W304).1) (Keep.of_wr W306).1) K307.1) E315.1) E316.1) (Keep.of_wr W317).1) (Keep.of_wr W319).1) (Keep.of_wr W320).1) K321.1) E330.1) K333.1) K337.1) K387.1) K391.1) E393.1) K395.1)) ) hZ (hw _ (List.mem_of_getElem? (i := 148) rfl)) (hw _ (List.mem_of_getElem? (i := 2) rfl)) (by decide) (by decide)) q416a q416c (g := (mkF m 209 #[.val (.int i0), .val (.int i1), .val (.int i2), .val (.int i3), .val (.int i4), .val (.ref xr_301), .val (.ref b302), .val (.ref b315), .val (.int (3 : Int32)), .val (.ref b330), .val (.ref b393), .val (.int (1 : Int32)), .val (.ref b302), .val (.ref b302)] [(.ref b302), (.ref b302)])) rfl (by rw [hml]; rfl) (Steps.refl _) (argsL := [(.ref b302)]) (rest := []) (lenOf pd_12 rfl) rfl (by show 2 * 0 + _ ≤ _; exact Nat.le_of_eq rfl) (hb hby at_209) (fun _ _ => ⟨rfl, e415, (by decide : 11 + 0 ≤ _), (by decide : 38 + 0 ≤ _)⟩)
      dsimp only [Pt.U, Pt.locs, Pt.cells, Pt.slots] at X416 l416 y416 z416 st416 hQ416
      subst l416 y416 z416
      obtain ⟨rfl, Nq416, e416⟩ := hQ416
      have N416 := Fr.app N415 Nq416
      obtain ⟨fs, hr, hrun, hended, hW, hsame⟩ := X416.leave (v := some (.int (1 : Int32))) (fun h => by rw [Bd.returns] at h; cases h)
      refine ⟨_, _, pre396 _ ?_, hrun, hended, _, _, rfl, ?_, ⟨_, rfl⟩, hW, hsame.mono (by decide) (by decide)⟩
      · refine XS.iload X395.here hx rfl (hb hby at_166) rfl ?_
        show Steps p.tables e below (T395.setTop (mkF m 168 #[.val (.int i0), .val (.int i1), .val (.int i2), .val (.int i3), .val (.int i4), .val (.ref xr_301), .val (.ref b302), .val (.ref b315), .val (.int (3 : Int32)), .val (.ref b330), .val (.ref b393), .val (.int (1 : Int32)), .unset, .unset] [(.int (1 : Int32))])) _
        refine XS.ifYes X395.here hx rfl (pc0 := 168) (pc' := 176) rfl (hb hby at_168) rfl ((if0 _ _).trans (feq ((by decide) : ¬ ((1 : Int32) = (0 : Int32)))).2) (by decide) (by decide) ?_
        show Steps p.tables e below (T395.setTop (mkF m 176 #[.val (.int i0), .val (.int i1), .val (.int i2), .val (.int i3), .val (.int i4), .val (.ref xr_301), .val (.ref b302), .val (.ref b315), .val (.int (3 : Int32)), .val (.ref b330), .val (.ref b393), .val (.int (1 : Int32)), .unset, .unset] [])) _
        refine XS.iload X395.here hx rfl (hb hby at_176) rfl ?_
        show Steps p.tables e below (T395.setTop (mkF m 178 #[.val (.int i0), .val (.int i1), .val (.int i2), .val (.int i3), .val (.int i4), .val (.ref xr_301), .val (.ref b302), .val (.ref b315), .val (.int (3 : Int32)), .val (.ref b330), .val (.ref b393), .val (.int (1 : Int32)), .unset, .unset] [(.int (1 : Int32))])) _
        refine XS.iconst X395.here hx rfl (hb hby at_178) ?_
        show Steps p.tables e below (T395.setTop (mkF m 179 #[.val (.int i0), .val (.int i1), .val (.int i2), .val (.int i3), .val (.int i4), .val (.ref xr_301), .val (.ref b302), .val (.ref b315), .val (.int (3 : Int32)), .val (.ref b330), .val (.ref b393), .val (.int (1 : Int32)), .unset, .unset] [(.int (1 : Int32)), (.int (1 : Int32))])) _
        refine XS.icmpNo X395.here hx rfl (hb hby at_179) rfl (teq ((by decide) : (1 : Int32) = (1 : Int32))).2 ?_
        show Steps p.tables e below (T395.setTop (mkF m 182 #[.val (.int i0), .val (.int i1), .val (.int i2), .val (.int i3), .val (.int i4), .val (.ref xr_301), .val (.ref b302), .val (.ref b315), .val (.int (3 : Int32)), .val (.ref b330), .val (.ref b393), .val (.int (1 : Int32)), .unset, .unset] [])) _
        refine XS.aload X395.here hx rfl (hb hby at_182) rfl rfl ?_
        show Steps p.tables e below (T395.setTop (mkF m 184 #[.val (.int i0), .val (.int i1), .val (.int i2), .val (.int i3), .val (.int i4), .val (.ref xr_301), .val (.ref b302), .val (.ref b315), .val (.int (3 : Int32)), .val (.ref b330), .val (.ref b393), .val (.int (1 : Int32)), .unset, .unset] [(.ref b302)])) _
        refine XS.goto X395.here hx rfl (pc0 := 184) (pc' := 189) rfl (hb hby at_184) (by decide) (by decide) ?_
        show Steps p.tables e below (T395.setTop (mkF m 189 #[.val (.int i0), .val (.int i1), .val (.int i2), .val (.int i3), .val (.int i4), .val (.ref xr_301), .val (.ref b302), .val (.ref b315), .val (.int (3 : Int32)), .val (.ref b330), .val (.ref b393), .val (.int (1 : Int32)), .unset, .unset] [(.ref b302)])) _
        refine XS.astore X395.here hx rfl (hb hby at_189) rfl rfl (l' := #[.val (.int i0), .val (.int i1), .val (.int i2), .val (.int i3), .val (.int i4), .val (.ref xr_301), .val (.ref b302), .val (.ref b315), .val (.int (3 : Int32)), .val (.ref b330), .val (.ref b393), .val (.int (1 : Int32)), .val (.ref b302), .unset]) rfl ?_
        show Steps p.tables e below (T395.setTop (mkF m 191 #[.val (.int i0), .val (.int i1), .val (.int i2), .val (.int i3), .val (.int i4), .val (.ref xr_301), .val (.ref b302), .val (.ref b315), .val (.int (3 : Int32)), .val (.ref b330), .val (.ref b393), .val (.int (1 : Int32)), .val (.ref b302), .unset] [])) _
        refine XS.aload X395.here hx rfl (hb hby at_191) rfl rfl ?_
        show Steps p.tables e below (T395.setTop (mkF m 193 #[.val (.int i0), .val (.int i1), .val (.int i2), .val (.int i3), .val (.int i4), .val (.ref xr_301), .val (.ref b302), .val (.ref b315), .val (.int (3 : Int32)), .val (.ref b330), .val (.ref b393), .val (.int (1 : Int32)), .val (.ref b302), .unset] [(.ref b393)])) _
        refine XS.iload X395.here hx rfl (hb hby at_193) rfl ?_
        show Steps p.tables e below (T395.setTop (mkF m 195 #[.val (.int i0), .val (.int i1), .val (.int i2), .val (.int i3), .val (.int i4), .val (.ref xr_301), .val (.ref b302), .val (.ref b315), .val (.int (3 : Int32)), .val (.ref b330), .val (.ref b393), .val (.int (1 : Int32)), .val (.ref b302), .unset] [(.int (1 : Int32)), (.ref b393)])) _
        refine st415.trans ?_
        show Steps p.tables e below (T415.setTop (mkF m 198 #[.val (.int i0), .val (.int i1), .val (.int i2), .val (.int i3), .val (.int i4), .val (.ref xr_301), .val (.ref b302), .val (.ref b315), .val (.int (3 : Int32)), .val (.ref b330), .val (.ref b393), .val (.int (1 : Int32)), .val (.ref b302), .unset] [(.ref b302)])) _
        refine XS.astore X415.here hx rfl (hb hby at_198) rfl rfl (l' := #[.val (.int i0), .val (.int i1), .val (.int i2), .val (.int i3), .val (.int i4), .val (.ref xr_301), .val (.ref b302), .val (.ref b315), .val (.int (3 : Int32)), .val (.ref b330), .val (.ref b393), .val (.int (1 : Int32)), .val (.ref b302), .val (.ref b302)]) rfl ?_
        show Steps p.tables e below (T415.setTop (mkF m 200 #[.val (.int i0), .val (.int i1), .val (.int i2), .val (.int i3), .val (.int i4), .val (.ref xr_301), .val (.ref b302), .val (.ref b315), .val (.int (3 : Int32)), .val (.ref b330), .val (.ref b393), .val (.int (1 : Int32)), .val (.ref b302), .val (.ref b302)] [])) _
        refine XS.aload X415.here hx rfl (hb hby at_200) rfl rfl ?_
        show Steps p.tables e below (T415.setTop (mkF m 202 #[.val (.int i0), .val (.int i1), .val (.int i2), .val (.int i3), .val (.int i4), .val (.ref xr_301), .val (.ref b302), .val (.ref b315), .val (.int (3 : Int32)), .val (.ref b330), .val (.ref b393), .val (.int (1 : Int32)), .val (.ref b302), .val (.ref b302)] [(.ref b302)])) _
        refine XS.ifnullNo X415.here hx rfl (hb hby at_202) rfl ?_
        show Steps p.tables e below (T415.setTop (mkF m 205 #[.val (.int i0), .val (.int i1), .val (.int i2), .val (.int i3), .val (.int i4), .val (.ref xr_301), .val (.ref b302), .val (.ref b315), .val (.int (3 : Int32)), .val (.ref b330), .val (.ref b393), .val (.int (1 : Int32)), .val (.ref b302), .val (.ref b302)] [])) _
        refine XS.aload X415.here hx rfl (hb hby at_205) rfl rfl ?_
        show Steps p.tables e below (T415.setTop (mkF m 207 #[.val (.int i0), .val (.int i1), .val (.int i2), .val (.int i3), .val (.int i4), .val (.ref xr_301), .val (.ref b302), .val (.ref b315), .val (.int (3 : Int32)), .val (.ref b330), .val (.ref b393), .val (.int (1 : Int32)), .val (.ref b302), .val (.ref b302)] [(.ref b302)])) _
        refine XS.aload X415.here hx rfl (hb hby at_207) rfl rfl ?_
        show Steps p.tables e below (T415.setTop (mkF m 209 #[.val (.int i0), .val (.int i1), .val (.int i2), .val (.int i3), .val (.int i4), .val (.ref xr_301), .val (.ref b302), .val (.ref b315), .val (.int (3 : Int32)), .val (.ref b330), .val (.ref b393), .val (.int (1 : Int32)), .val (.ref b302), .val (.ref b302)] [(.ref b302), (.ref b302)])) _
        refine st416.trans ?_
        show Steps p.tables e below (T416.setTop (mkF m 212 #[.val (.int i0), .val (.int i1), .val (.int i2), .val (.int i3), .val (.int i4), .val (.ref xr_301), .val (.ref b302), .val (.ref b315), .val (.int (3 : Int32)), .val (.ref b330), .val (.ref b393), .val (.int (1 : Int32)), .val (.ref b302), .val (.ref b302)] [(.int (1 : Int32))])) _
        refine XS.ifNo X416.here hx rfl (hb hby at_212) rfl ((if0 _ _).trans (feq ((by decide) : ¬ ((1 : Int32) = (0 : Int32)))).1) ?_
        show Steps p.tables e below (T416.setTop (mkF m 215 #[.val (.int i0), .val (.int i1), .val (.int i2), .val (.int i3), .val (.int i4), .val (.ref xr_301), .val (.ref b302), .val (.ref b315), .val (.int (3 : Int32)), .val (.ref b330), .val (.ref b393), .val (.int (1 : Int32)), .val (.ref b302), .val (.ref b302)] [])) _
        refine XS.iconst X416.here hx rfl (hb hby at_215) ?_
        show Steps p.tables e below (T416.setTop (mkF m 216 #[.val (.int i0), .val (.int i1), .val (.int i2), .val (.int i3), .val (.int i4), .val (.ref xr_301), .val (.ref b302), .val (.ref b315), .val (.int (3 : Int32)), .val (.ref b330), .val (.ref b393), .val (.int (1 : Int32)), .val (.ref b302), .val (.ref b302)] [(.int (1 : Int32))])) _
        refine XS.goto X416.here hx rfl (pc0 := 216) (pc' := 220) rfl (hb hby at_216) (by decide) (by decide) ?_
        show Steps p.tables e below (T416.setTop (mkF m 220 #[.val (.int i0), .val (.int i1), .val (.int i2), .val (.int i3), .val (.int i4), .val (.ref xr_301), .val (.ref b302), .val (.ref b315), .val (.int (3 : Int32)), .val (.ref b330), .val (.ref b393), .val (.int (1 : Int32)), .val (.ref b302), .val (.ref b302)] [(.int (1 : Int32))])) _
        exact retN X416 hx (t := .boolean) Bd.returns (by simp) (hb hby at_220) hr
      · show Q_law Z i0 i1 i2 i3 i4 G dd kd h0 n0 _ T416.heap _
        rw [e416]
        exact ⟨rfl, N416⟩
    · subst hj
      have c417 : Exa Z T395.heap b393 "com/example/rowscribe/rowscribe/cli/CommandLine" := (A393.keep K395)
      have c418 : Exa Z T395.heap b330 "java/util/ArrayList" := (((c389.keep K391).ext E393).keep K395)
      have ne419 : b330 ≠ b393 := Nat.ne_of_lt (Nat.lt_of_lt_of_le f391_0.lt (Nat.le_of_eq g393.symm))
      have c420 : Fld Z T395.heap b330 "java/util/ArrayList" "elementData" "[Ljava/lang/Object;" (.ref es_337) := ((f391_2.ext E393).keep K395 (ninS ne419 nin0))
      have c421 : Fld Z T395.heap b330 "java/util/ArrayList" "size" "I" (.int (((1 : Int32) + (1 : Int32)) + (1 : Int32))) := ((f391_1.ext E393).keep K395 (ninS ne419 nin0))
      have ne422 : es_337 ≠ b393 := Nat.ne_of_lt (Nat.lt_of_lt_of_le V392.lt (Nat.le_of_eq g393.symm))
      have c423 : Arv Z T395.heap es_337 ke_337 (.object "java/lang/Object") (10 : Int32) [(.ref xr_301), (.ref b302), (.ref b315), .null, .null, .null, .null, .null, .null, .null] .null := ((V392.ext E393).keep K395 (ninS ne422 nin0))
      have c424 : Exa Z T395.heap b315 "java/lang/String" := (((c390.keep K391).ext E393).keep K395)
      obtain ⟨cq425, kq425, q425a, q425b, q425c⟩ := isOf hZ rfl c417
      obtain ⟨_, _, ⟨T425, L425, k425, n425⟩, -, X425, ⟨Lc425, hQ425, l425, y425, z425⟩, st425⟩ := X395.virtualBack hx (y := (⟨"com/example/rowscribe/rowscribe/cli/CommandLine", "word", "(I)Ljava/lang/String;"⟩ : MethodName)) (z := (⟨"com/example/rowscribe/rowscribe/cli/CommandLine", "word", "(I)Ljava/lang/String;"⟩ : MethodName)) hown (mvT hZ (hw _ (List.mem_of_getElem? (i := 116) rfl))) (mvT hZ (hw _ (List.mem_of_getElem? (i := 117) rfl))) (notFace_of_selects (args := #[]) (mvT hZ (hw _ (List.mem_of_getElem? (i := 119) rfl)))) (mvT hZ (hw _ (List.mem_of_getElem? (i := 119) rfl))) (mvT hZ (hw _ (List.mem_of_getElem? (i := 118) rfl))) (by decide) (backOf (W := 0) (rm_word l Z a0 hw [] b393 b330 (2 : Int32) es_337 ke_337 (((1 : Int32) + (1 : Int32)) + (1 : Int32)) ([(.ref xr_301), (.ref b302), (.ref b315), .null, .null, .null, .null, .null, .null, .null]) b315 T395.heap n0 (Nat.le_trans Z0 (Nat.le_trans (Nat.le_trans (Nat.le_trans (Nat.le_trans (Nat.le_trans (Nat.le_trans (Nat.le_trans (Nat.le_trans (Nat.le_trans (Nat.le_trans (Nat.le_trans (Nat.le_trans (Nat.le_trans (Nat.le_trans (Nat.le_trans (Nat.le_trans (Nat.le_trans (Nat.le_trans K301.1 E302.1) E303.1) (Keep.of_wr W304).1) (Keep.of_wr W306).1) K307.1) E315.1) E316.1) (Keep.of_wr W317).1) (Keep.of_wr W319).1) (Keep.of_wr W320).1) K321.1) E330.1) K333.1) K337.1) K387.1) K391.1) E393.1) K395.1)) f395_0 c418 c420 c421 c423 (by decide) (by decide) (by decide) (rfl) c424) hZ (hw _ (List.mem_of_getElem? (i := 120) rfl)) (hw _ (List.mem_of_getElem? (i := 102) rfl)) (by decide) (by decide)) q425a q425c (g := (mkF m 195 #[.val (.int i0), .val (.int i1), .val (.int i2), .val (.int i3), .val (.int i4), .val (.ref xr_301), .val (.ref b302), .val (.ref b315), .val (.int (3 : Int32)), .val (.ref b330), .val (.ref b393), .val (.int (2 : Int32)), .val (.ref b315), .unset] [(.int (2 : Int32)), (.ref b393)])) rfl (by rw [hml]; rfl) (Steps.refl _) (argsL := [(.int (2 : Int32))]) (rest := []) (lenOf pd_14 rfl) rfl (by show 2 * 0 + _ ≤ _; exact Nat.le_of_eq rfl) (hb hby at_195) (fun _ _ => ⟨rfl, rfl, (by decide : 11 + 0 ≤ _), (by decide : 38 + 0 ≤ _)⟩)
      dsimp only [Pt.U, Pt.locs, Pt.cells, Pt.slots] at X425 l425 y425 z425 st425 hQ425
      subst l425 y425 z425
      obtain ⟨rfl, Nq425, e425⟩ := hQ425
      have N425 := Fr.app N395 Nq425
      obtain ⟨cq426, kq426, q426a, q426b, q426c⟩ := isOf hZ e425 c424
      obtain ⟨_, _, ⟨T426, L426, k426, n426⟩, -, X426, ⟨Lc426, hQ426, l426, y426, z426⟩, st426⟩ := X425.virtualBack hx (y := (⟨"java/lang/String", "equals", "(Ljava/lang/Object;)Z"⟩ : MethodName)) (z := (⟨"java/lang/String", "equals", "(Ljava/lang/Object;)Z"⟩ : MethodName)) hown (mvT hZ (hw _ (List.mem_of_getElem? (i := 144) rfl))) (mvT hZ (hw _ (List.mem_of_getElem? (i := 145) rfl))) (notFace_of_selects (args := #[]) (mvT hZ (hw _ (List.mem_of_getElem? (i := 147) rfl)))) (mvT hZ (hw _ (List.mem_of_getElem? (i := 147) rfl))) (mvT hZ (hw _ (List.mem_of_getElem? (i := 146) rfl))) (by decide) (backOf (W := 0) (rm_eqS l Z a0 hw [] b315 T395.heap n0 (Nat.le_trans Z0 (Nat.le_trans (Nat.le_trans (Nat.le_trans (Nat.le_trans (Nat.le_trans (Nat.le_trans (Nat.le_trans (Nat.le_trans (Nat.le_trans (Nat.le_trans (Nat.le_trans (Nat.le_trans (Nat.le_trans (Nat.le_trans (Nat.le_trans (Nat.le_trans (Nat.le_trans (Nat.le_trans K301.1 E302.1) E303.1) (Keep.of_wr W304).1) (Keep.of_wr W306).1) K307.1) E315.1) E316.1) (Keep.of_wr W317).1) (Keep.of_wr W319).1) (Keep.of_wr W320).1) K321.1) E330.1) K333.1) K337.1) K387.1) K391.1) E393.1) K395.1)) ) hZ (hw _ (List.mem_of_getElem? (i := 148) rfl)) (hw _ (List.mem_of_getElem? (i := 2) rfl)) (by decide) (by decide)) q426a q426c (g := (mkF m 209 #[.val (.int i0), .val (.int i1), .val (.int i2), .val (.int i3), .val (.int i4), .val (.ref xr_301), .val (.ref b302), .val (.ref b315), .val (.int (3 : Int32)), .val (.ref b330), .val (.ref b393), .val (.int (2 : Int32)), .val (.ref b315), .val (.ref b315)] [(.ref b315), (.ref b315)])) rfl (by rw [hml]; rfl) (Steps.refl _) (argsL := [(.ref b315)]) (rest := []) (lenOf pd_12 rfl) rfl (by show 2 * 0 + _ ≤ _; exact Nat.le_of_eq rfl) (hb hby at_209) (fun _ _ => ⟨rfl, e425, (by decide : 11 + 0 ≤ _), (by decide : 38 + 0 ≤ _)⟩)
      dsimp only [Pt.U, Pt.locs, Pt.cells, Pt.slots] at X426 l426 y426 z426 st426 hQ426
      subst l426 y426 z426
      obtain ⟨rfl, Nq426, e426⟩ := hQ426
      have N426 := Fr.app N425 Nq426
      obtain ⟨fs, hr, hrun, hended, hW, hsame⟩ := X426.leave (v := some (.int (1 : Int32))) (fun h => by rw [Bd.returns] at h; cases h)
      refine ⟨_, _, pre396 _ ?_, hrun, hended, _, _, rfl, ?_, ⟨_, rfl⟩, hW, hsame.mono (by decide) (by decide)⟩
      · refine XS.iload X395.here hx rfl (hb hby at_166) rfl ?_
        show Steps p.tables e below (T395.setTop (mkF m 168 #[.val (.int i0), .val (.int i1), .val (.int i2), .val (.int i3), .val (.int i4), .val (.ref xr_301), .val (.ref b302), .val (.ref b315), .val (.int (3 : Int32)), .val (.ref b330), .val (.ref b393), .val (.int (2 : Int32)), .unset, .unset] [(.int (2 : Int32))])) _
        refine XS.ifYes X395.here hx rfl (pc0 := 168) (pc' := 176) rfl (hb hby at_168) rfl ((if0 _ _).trans (feq ((by decide) : ¬ ((2 : Int32) = (0 : Int32)))).2) (by decide) (by decide) ?_
        show Steps p.tables e below (T395.setTop (mkF m 176 #[.val (.int i0), .val (.int i1), .val (.int i2), .val (.int i3), .val (.int i4), .val (.ref xr_301), .val (.ref b302), .val (.ref b315), .val (.int (3 : Int32)), .val (.ref b330), .val (.ref b393), .val (.int (2 : Int32)), .unset, .unset] [])) _
        refine XS.iload X395.here hx rfl (hb hby at_176) rfl ?_
        show Steps p.tables e below (T395.setTop (mkF m 178 #[.val (.int i0), .val (.int i1), .val (.int i2), .val (.int i3), .val (.int i4), .val (.ref xr_301), .val (.ref b302), .val (.ref b315), .val (.int (3 : Int32)), .val (.ref b330), .val (.ref b393), .val (.int (2 : Int32)), .unset, .unset] [(.int (2 : Int32))])) _
        refine XS.iconst X395.here hx rfl (hb hby at_178) ?_
        show Steps p.tables e below (T395.setTop (mkF m 179 #[.val (.int i0), .val (.int i1), .val (.int i2), .val (.int i3), .val (.int i4), .val (.ref xr_301), .val (.ref b302), .val (.ref b315), .val (.int (3 : Int32)), .val (.ref b330), .val (.ref b393), .val (.int (2 : Int32)), .unset, .unset] [(.int (1 : Int32)), (.int (2 : Int32))])) _
        refine XS.icmpYes X395.here hx rfl (pc0 := 179) (pc' := 187) rfl (hb hby at_179) rfl (feq ((by decide) : ¬ ((2 : Int32) = (1 : Int32)))).2 (by decide) (by decide) ?_
        show Steps p.tables e below (T395.setTop (mkF m 187 #[.val (.int i0), .val (.int i1), .val (.int i2), .val (.int i3), .val (.int i4), .val (.ref xr_301), .val (.ref b302), .val (.ref b315), .val (.int (3 : Int32)), .val (.ref b330), .val (.ref b393), .val (.int (2 : Int32)), .unset, .unset] [])) _
        refine XS.aload X395.here hx rfl (hb hby at_187) rfl rfl ?_
        show Steps p.tables e below (T395.setTop (mkF m 189 #[.val (.int i0), .val (.int i1), .val (.int i2), .val (.int i3), .val (.int i4), .val (.ref xr_301), .val (.ref b302), .val (.ref b315), .val (.int (3 : Int32)), .val (.ref b330), .val (.ref b393), .val (.int (2 : Int32)), .unset, .unset] [(.ref b315)])) _
        refine XS.astore X395.here hx rfl (hb hby at_189) rfl rfl (l' := #[.val (.int i0), .val (.int i1), .val (.int i2), .val (.int i3), .val (.int i4), .val (.ref xr_301), .val (.ref b302), .val (.ref b315), .val (.int (3 : Int32)), .val (.ref b330), .val (.ref b393), .val (.int (2 : Int32)), .val (.ref b315), .unset]) rfl ?_
        show Steps p.tables e below (T395.setTop (mkF m 191 #[.val (.int i0), .val (.int i1), .val (.int i2), .val (.int i3), .val (.int i4), .val (.ref xr_301), .val (.ref b302), .val (.ref b315), .val (.int (3 : Int32)), .val (.ref b330), .val (.ref b393), .val (.int (2 : Int32)), .val (.ref b315), .unset] [])) _
        refine XS.aload X395.here hx rfl (hb hby at_191) rfl rfl ?_
        show Steps p.tables e below (T395.setTop (mkF m 193 #[.val (.int i0), .val (.int i1), .val (.int i2), .val (.int i3), .val (.int i4), .val (.ref xr_301), .val (.ref b302), .val (.ref b315), .val (.int (3 : Int32)), .val (.ref b330), .val (.ref b393), .val (.int (2 : Int32)), .val (.ref b315), .unset] [(.ref b393)])) _
        refine XS.iload X395.here hx rfl (hb hby at_193) rfl ?_
        show Steps p.tables e below (T395.setTop (mkF m 195 #[.val (.int i0), .val (.int i1), .val (.int i2), .val (.int i3), .val (.int i4), .val (.ref xr_301), .val (.ref b302), .val (.ref b315), .val (.int (3 : Int32)), .val (.ref b330), .val (.ref b393), .val (.int (2 : Int32)), .val (.ref b315), .unset] [(.int (2 : Int32)), (.ref b393)])) _
        refine st425.trans ?_
        show Steps p.tables e below (T425.setTop (mkF m 198 #[.val (.int i0), .val (.int i1), .val (.int i2), .val (.int i3), .val (.int i4), .val (.ref xr_301), .val (.ref b302), .val (.ref b315), .val (.int (3 : Int32)), .val (.ref b330), .val (.ref b393), .val (.int (2 : Int32)), .val (.ref b315), .unset] [(.ref b315)])) _
        refine XS.astore X425.here hx rfl (hb hby at_198) rfl rfl (l' := #[.val (.int i0), .val (.int i1), .val (.int i2), .val (.int i3), .val (.int i4), .val (.ref xr_301), .val (.ref b302), .val (.ref b315), .val (.int (3 : Int32)), .val (.ref b330), .val (.ref b393), .val (.int (2 : Int32)), .val (.ref b315), .val (.ref b315)]) rfl ?_
        show Steps p.tables e below (T425.setTop (mkF m 200 #[.val (.int i0), .val (.int i1), .val (.int i2), .val (.int i3), .val (.int i4), .val (.ref xr_301), .val (.ref b302), .val (.ref b315), .val (.int (3 : Int32)), .val (.ref b330), .val (.ref b393), .val (.int (2 : Int32)), .val (.ref b315), .val (.ref b315)] [])) _
        refine XS.aload X425.here hx rfl (hb hby at_200) rfl rfl ?_
        show Steps p.tables e below (T425.setTop (mkF m 202 #[.val (.int i0), .val (.int i1), .val (.int i2), .val (.int i3), .val (.int i4), .val (.ref xr_301), .val (.ref b302), .val (.ref b315), .val (.int (3 : Int32)), .val (.ref b330), .val (.ref b393), .val (.int (2 : Int32)), .val (.ref b315), .val (.ref b315)] [(.ref b315)])) _
        refine XS.ifnullNo X425.here hx rfl (hb hby at_202) rfl ?_
        show Steps p.tables e below (T425.setTop (mkF m 205 #[.val (.int i0), .val (.int i1), .val (.int i2), .val (.int i3), .val (.int i4), .val (.ref xr_301), .val (.ref b302), .val (.ref b315), .val (.int (3 : Int32)), .val (.ref b330), .val (.ref b393), .val (.int (2 : Int32)), .val (.ref b315), .val (.ref b315)] [])) _
        refine XS.aload X425.here hx rfl (hb hby at_205) rfl rfl ?_
        show Steps p.tables e below (T425.setTop (mkF m 207 #[.val (.int i0), .val (.int i1), .val (.int i2), .val (.int i3), .val (.int i4), .val (.ref xr_301), .val (.ref b302), .val (.ref b315), .val (.int (3 : Int32)), .val (.ref b330), .val (.ref b393), .val (.int (2 : Int32)), .val (.ref b315), .val (.ref b315)] [(.ref b315)])) _
        refine XS.aload X425.here hx rfl (hb hby at_207) rfl rfl ?_
        show Steps p.tables e below (T425.setTop (mkF m 209 #[.val (.int i0), .val (.int i1), .val (.int i2), .val (.int i3), .val (.int i4), .val (.ref xr_301), .val (.ref b302), .val (.ref b315), .val (.int (3 : Int32)), .val (.ref b330), .val (.ref b393), .val (.int (2 : Int32)), .val (.ref b315), .val (.ref b315)] [(.ref b315), (.ref b315)])) _
        refine st426.trans ?_
        show Steps p.tables e below (T426.setTop (mkF m 212 #[.val (.int i0), .val (.int i1), .val (.int i2), .val (.int i3), .val (.int i4), .val (.ref xr_301), .val (.ref b302), .val (.ref b315), .val (.int (3 : Int32)), .val (.ref b330), .val (.ref b393), .val (.int (2 : Int32)), .val (.ref b315), .val (.ref b315)] [(.int (1 : Int32))])) _
        refine XS.ifNo X426.here hx rfl (hb hby at_212) rfl ((if0 _ _).trans (feq ((by decide) : ¬ ((1 : Int32) = (0 : Int32)))).1) ?_
        show Steps p.tables e below (T426.setTop (mkF m 215 #[.val (.int i0), .val (.int i1), .val (.int i2), .val (.int i3), .val (.int i4), .val (.ref xr_301), .val (.ref b302), .val (.ref b315), .val (.int (3 : Int32)), .val (.ref b330), .val (.ref b393), .val (.int (2 : Int32)), .val (.ref b315), .val (.ref b315)] [])) _
        refine XS.iconst X426.here hx rfl (hb hby at_215) ?_
        show Steps p.tables e below (T426.setTop (mkF m 216 #[.val (.int i0), .val (.int i1), .val (.int i2), .val (.int i3), .val (.int i4), .val (.ref xr_301), .val (.ref b302), .val (.ref b315), .val (.int (3 : Int32)), .val (.ref b330), .val (.ref b393), .val (.int (2 : Int32)), .val (.ref b315), .val (.ref b315)] [(.int (1 : Int32))])) _
        refine XS.goto X426.here hx rfl (pc0 := 216) (pc' := 220) rfl (hb hby at_216) (by decide) (by decide) ?_
        show Steps p.tables e below (T426.setTop (mkF m 220 #[.val (.int i0), .val (.int i1), .val (.int i2), .val (.int i3), .val (.int i4), .val (.ref xr_301), .val (.ref b302), .val (.ref b315), .val (.int (3 : Int32)), .val (.ref b330), .val (.ref b393), .val (.int (2 : Int32)), .val (.ref b315), .val (.ref b315)] [(.int (1 : Int32))])) _
        exact retN X426 hx (t := .boolean) Bd.returns (by simp) (hb hby at_220) hr
      · show Q_law Z i0 i1 i2 i3 i4 G dd kd h0 n0 _ T426.heap _
        rw [e426]
        exact ⟨rfl, N426⟩
set_option maxRecDepth 65536 in
set_option maxHeartbeats 40000000 in
theorem comes_1 {Post : Tables → Env → Array Value → State → Outcome → State → Prop} (hpost : ∀ tb e args s v u, (limb_1_1.after args s (.returned v) u = true ∧ limb_1_2.after args s (.returned v) u = true ∧ True) → FrameEnd s (.returned v) u (Jvm.fieldLocs frame_1_writes args s ++ Jvm.arrayLocs frame_1_arrays args s ++ Jvm.staticLocs frame_1_statics s) 32 192 → Post tb e args s (.returned v) u) :
    ArmFor flags0 classFile x code maxLocals ret World_1 tables_1 room_1 Calls_1 rest_1 Pre_1 Post := by
  intro l hfl _ _ p e ha hc hk s m args below hf hA hF happ hP
  obtain ⟨hcalls, hrest, hpre⟩ := hP
  obtain ⟨-, -, -, hnamed, -, -, -, hat⟩ := (Spec.applies_iff hf).mp happ
  obtain ⟨hg, hn⟩ := and_e (Cond.before_iff.mp (show (Jvm.Cond.and given_1 narrow_1).before args s = true from hpre))
  obtain ⟨hcount, hg0⟩ := and_e hg
  obtain ⟨ha0, hg1⟩ := and_e hg0
  obtain ⟨ha1, hg2⟩ := and_e hg1
  obtain ⟨ha2, hg3⟩ := and_e hg2
  obtain ⟨ha3, hg4⟩ := and_e hg3
  obtain ⟨w0, w1, w2, w3, w4, rfl⟩ : ∃ w0 w1 w2 w3 w4 : Value, args = #[w0, w1, w2, w3, w4] := by
    have hs : args.size = 5 := by simpa [Cond.value, given_1] using hcount
    obtain ⟨L⟩ := args
    match L, hs with
    | [w0, w1, w2, w3, w4], _ => exact ⟨w0, w1, w2, w3, w4, rfl⟩
  have hw := fun d (hd : d ∈ tables_1) => atoms_spec (ws := Jvm.Cond.code x code maxLocals ret :: tables_1) hat d (List.mem_cons_of_mem _ hd)
  obtain ⟨hsets, hown0⟩ := atoms_of _ (rest_1_c_eq ▸ (show rest_1_c.before _ s = true from hrest))
  have hfit : Fit s := fun {y c} hc i hi => by
    obtain ⟨ha, rfl⟩ := Array.getElem?_eq_some_iff.mp hc
    have q := List.all_eq_true.mp ((Array.all_eq_true_iff_forall_mem.mp hF) _ (Array.getElem_mem ha)) i (List.mem_range.mpr hi)
    simpa [Array.getElem?_eq_getElem hi] using q
  obtain ⟨i0, ei0⟩ := is_v ha0
  obtain rfl : w0 = (.int i0) := Option.some.inj ei0
  obtain ⟨i1, ei1⟩ := is_v ha1
  obtain rfl : w1 = (.int i1) := Option.some.inj ei1
  obtain ⟨i2, ei2⟩ := is_v ha2
  obtain rfl : w2 = (.int i2) := Option.some.inj ei2
  obtain ⟨i3, ei3⟩ := is_v ha3
  obtain rfl : w3 = (.int i3) := Option.some.inj ei3
  obtain ⟨i4, ei4⟩ := is_v hg4
  obtain rfl : w4 = (.int i4) := Option.some.inj ei4
  have nz0 := not_v (Cond.before_iff.mp (hsets _ (List.mem_of_getElem? (i := 2) rfl)))
  obtain ⟨G, eG⟩ := is_v (Cond.before_iff.mp (hsets _ (List.mem_of_getElem? (i := 1) rfl)))
  have SG : Sta s s.heap "java/lang/String" "COMPACT_STRINGS" "Z" (.int G) := Sta.start eG (Or.inl (hsets _ (List.mem_of_getElem? (i := 0) rfl)))
  have nz : ¬ (G = (0 : Int32)) := gotF (Cond.eq_ints eG (Term.int_eval (0))) nz0
  obtain ⟨dd, ed⟩ := arr_v (Cond.before_iff.mp (hsets _ (List.mem_of_getElem? (i := 15) rfl)))
  have SD : Sta s s.heap "java/util/ArrayList" "DEFAULTCAPACITY_EMPTY_ELEMENTDATA" "[Ljava/lang/Object;" (.ref dd) := Sta.start ed (Or.inr ⟨hw _ (List.mem_of_getElem? (i := 47) rfl), (hsets _ (List.mem_of_getElem? (i := 11) rfl))⟩)
  obtain ⟨cd, Ad⟩ := Arr.start ed (Cond.before_iff.mp (hsets _ (List.mem_of_getElem? (i := 15) rfl)))
  have el := eqv_i (Term.int_eval (0)) (Cond.before_iff.mp (hsets _ (List.mem_of_getElem? (i := 17) rfl)))
  obtain ⟨l1, l2⟩ := own_len ed Ad el
  have VD : Arv s s.heap dd cd.cls (.object "java/lang/Object") (0 : Int32) [] .null := Arv.start hfit Ad l1 l2 (by decide) rfl trivial
  obtain ⟨n, o, h1, h2, h3, _, L, rfl, ⟨rfl, N⟩, hq⟩ := rm_law l s _ hw tables_1 i0 i1 i2 i3 i4 G dd cd.cls s.heap s.heap.size (Nat.le_refl _) SG nz SD VD (Old.start s) p e ha hc hk s m _ below hf ((Spec.applies_iff_loose hf).mp happ).1 ⟨rfl, State.Warmed39.refl s, rfl⟩ trivial
  refine ⟨n, _, h1, h2, h3, hpost _ _ _ _ _ _ ⟨Cond.after_iff.mpr rfl, Cond.after_iff.mpr (eq_i res_at (Term.int_eval (1)) rfl), trivial⟩ ⟨hq.1, hq.2.1, (hq.2.2.sift fun y hy => Or.inr (N y hy)).mono (by decide) (by decide)⟩⟩
theorem main_1_1 : Claimed_1_1 := comes_1 fun _ _ _ _ _ _ h hF => ⟨h.1, hF⟩
theorem main_1_2 : Claimed_1_2 := comes_1 fun _ _ _ _ _ _ h hF => ⟨h.2.1, hF⟩
end Jvm.Pilot.@@N@@
namespace Jvm.Pilot.@@N@@
open Jvm Jvm.ClassFile Sem Op Lib Jvm.Free Jvm.Stand Jvm.Pilot.@@N@@.Jvm.D
/-! MADE BY PROGRAM (witnessworld.py) out of the Statement's table words and the real class files: 30 classes; the members and pool entries that the words name. The judged class is class 1, her method 1. -/
namespace start1
open Jvm.ClassFile
def u (s : String) : CpInfo := .utf8 (stringToUtf16 s)
/-- a pool by its gaps: so many unusable entries, then the entry; so many at the end -/
def gap : Nat → List CpInfo → List CpInfo
  | 0, r => r
  | n + 1, r => .unusable :: gap n r
def poolList (es : List (Nat × CpInfo)) (last : Nat) : List CpInfo := es.foldr (fun e r => gap e.1 (e.2 :: r)) (gap last [])
def pool (es : List (Nat × CpInfo)) (last : Nat) : Array CpInfo := ⟨poolList es last⟩
def fileOf (pool : Array CpInfo) (this : Nat) (attrs : Array Attribute := #[]) (ms : Array MethodInfo := #[]) (fl : Nat := 33) (sup : Nat := 0) (ifs : Array Nat := #[]) (fds : Array FieldInfo := #[]) : ClassFile where
  minorVersion := 0
  majorVersion := 65
  constantPool := pool
  accessFlags := fl
  thisClass := this
  superClass := sup
  interfaces := ifs
  fields := fds
  methods := ms
  attributes := attrs
def plain (name : String) (sup : Option ClassId) : Class where
  name := name
  kind := .ordinary
  loader := none
  accessFlags := 33
  super := sup
  interfaces := #[]
  cf := none
  fields := #[]
  methods := #[]
  instanceTypes := #[]
  staticTypes := #[]
  resolved := #[]
  callSites := []
  init := .initialized
  statics := none
  mirror := none

def pool0 : Array CpInfo := pool [(5, u "<init>"), (0, u "()V"), (1, .class_ 10), (1, u "java/lang/Object")] 113

def k0c0 : Code := { maxStack := 0, maxLocals := 1, code := object_method_1_code, exceptionTable := #[], attributes := #[] }
def k0m0 : Method := { name := "<init>", desc := "()V", sig := { parameters := [], returnType := none }, accessFlags := 1, code := some k0c0 }
/-- java/lang/Object -/
def k0 : Class := { plain "java/lang/Object" none with
  accessFlags := 33
  interfaces := #[]
  cf := some (fileOf pool0 8 #[] #[{ accessFlags := 1, nameIndex := 5, descriptorIndex := 6, attributes := #[] }] 33 0 #[] #[])
  fields := #[]
  methods := #[k0m0]
  instanceTypes := #[]
  staticTypes := #[]
  resolved := Array.replicate 124 none
  statics := none }

def pool1 : Array CpInfo := pool [(2, .class_ 4), (0, .nameAndType 5 6), (0, u "java/lang/Object"), (0, u "<init>"), (0, u "()V"), (0, .methodref 8 9), (0, .class_ 10), (0, .nameAndType 11 12), (0, u "java/lang/String"), (0, u "valueOf"), (0, u "(C)Ljava/lang/String;"), (0, .methodref 8 14), (0, .nameAndType 5 15), (0, u "([C)V"), (0, .integer 2147483647), (0, .class_ 18), (0, u "java/util/ArrayList"), (0, .methodref 17 3), (0, .methodref 17 21), (0, .nameAndType 22 23), (0, u "add"), (0, u "(Ljava/lang/Object;)Z"), (0, .class_ 25), (0, u "com/example/rowscribe/rowscribe/cli/CommandLine"), (0, .methodref 24 27), (0, .nameAndType 5 28), (0, u "(Ljava/util/List;Ljava/util/Map;)V"), (0, .methodref 24 30), (0, .nameAndType 31 32), (0, u "word"), (0, u "(I)Ljava/lang/String;"), (0, .methodref 8 34), (0, .nameAndType 35 23), (0, u "equals"), (0, .class_ 37), (0, u "com/example/rowscribe/rowscribe/cli/CommandLineWordPinLaw"), (2, u "law"), (0, u "(IIIII)Z")] 3

def k1m0 : Method := { name := "<init>", desc := "()V", sig := { parameters := [], returnType := none }, accessFlags := 1, code := none }
def k1c1 : Code := { maxStack := 7, maxLocals := 14, code := code, exceptionTable := #[], attributes := #[] }
def k1m1 : Method := { name := "law", desc := "(IIIII)Z", sig := { parameters := [.int, .int, .int, .int, .int], returnType := some .boolean }, accessFlags := 9, code := some k1c1 }
/-- com/example/rowscribe/rowscribe/cli/CommandLineWordPinLaw -/
def k1 : Class := { plain "com/example/rowscribe/rowscribe/cli/CommandLineWordPinLaw" (some 0) with
  accessFlags := 49
  interfaces := #[]
  cf := some (fileOf pool1 36 #[] #[{ accessFlags := 1, nameIndex := 5, descriptorIndex := 6, attributes := #[] }, { accessFlags := 9, nameIndex := 40, descriptorIndex := 41, attributes := #[] }] 49 2 #[] #[])
  fields := #[]
  methods := #[k1m0, k1m1]
  instanceTypes := #[]
  staticTypes := #[]
  resolved := Array.replicate 45 none
  statics := none }

def pool2 : Array CpInfo := pool [(1, .class_ 2), (0, u "java/io/Serializable"), (0, .class_ 4), (0, u "java/lang/Object")] 2

/-- java/io/Serializable -/
def k2 : Class := { plain "java/io/Serializable" (some 0) with
  accessFlags := 1537
  interfaces := #[]
  cf := some (fileOf pool2 1 #[] #[] 1537 3 #[] #[])
  fields := #[]
  methods := #[]
  instanceTypes := #[]
  staticTypes := #[]
  resolved := Array.replicate 7 none
  statics := none }

def pool3 : Array CpInfo := pool [(1, .class_ 2), (0, u "java/lang/Comparable"), (0, .class_ 4), (0, u "java/lang/Object")] 7

/-- java/lang/Comparable -/
def k3 : Class := { plain "java/lang/Comparable" (some 0) with
  accessFlags := 1537
  interfaces := #[]
  cf := some (fileOf pool3 1 #[] #[] 1537 3 #[] #[])
  fields := #[]
  methods := #[]
  instanceTypes := #[]
  staticTypes := #[]
  resolved := Array.replicate 12 none
  statics := none }

def pool4 : Array CpInfo := pool [(2, .class_ 4), (1, u "java/lang/CharSequence"), (42, .class_ 48), (0, u "java/lang/CharSequence$1CodePointIterator"), (10, .class_ 60), (0, u "java/lang/CharSequence$1CharIterator"), (5, .class_ 67), (0, u "java/lang/Object")] 63

/-- java/lang/CharSequence -/
def k4 : Class := { plain "java/lang/CharSequence" (some 0) with
  accessFlags := 1537
  interfaces := #[]
  cf := some (fileOf pool4 2 #[.nestMembers #[47, 59]] #[] 1537 66 #[] #[])
  fields := #[]
  methods := #[]
  instanceTypes := #[]
  staticTypes := #[]
  resolved := Array.replicate 131 none
  statics := none }

def pool5 : Array CpInfo := pool [(1, .class_ 2), (0, u "java/lang/constant/Constable"), (0, .class_ 4), (0, u "java/lang/Object")] 6

/-- java/lang/constant/Constable -/
def k5 : Class := { plain "java/lang/constant/Constable" (some 0) with
  accessFlags := 1537
  interfaces := #[]
  cf := some (fileOf pool5 1 #[] #[] 1537 3 #[] #[])
  fields := #[]
  methods := #[]
  instanceTypes := #[]
  staticTypes := #[]
  resolved := Array.replicate 11 none
  statics := none }

def pool6 : Array CpInfo := pool [(1, .class_ 2), (0, u "java/lang/constant/ConstantDesc"), (0, .class_ 4), (0, u "java/lang/Object")] 32

/-- java/lang/constant/ConstantDesc -/
def k6 : Class := { plain "java/lang/constant/ConstantDesc" (some 0) with
  accessFlags := 1537
  interfaces := #[]
  cf := some (fileOf pool6 1 #[] #[] 1537 3 #[] #[])
  fields := #[]
  methods := #[]
  instanceTypes := #[]
  staticTypes := #[]
  resolved := Array.replicate 37 none
  statics := none }

def pool7 : Array CpInfo := pool [(1, .methodref 2 3), (0, .class_ 4), (0, .nameAndType 5 6), (0, u "java/lang/Object"), (0, u "<init>"), (0, u "()V"), (2, .fieldref 10 11), (0, .class_ 12), (0, .nameAndType 13 14), (0, u "java/lang/String"), (0, u "value"), (0, u "[B"), (0, .fieldref 10 16), (0, .nameAndType 17 18), (0, u "coder"), (0, u "B"), (2, u "hash"), (0, u "I"), (2, u "hashIsZero"), (0, u "Z"), (0, .methodref 10 28), (0, .nameAndType 5 29), (0, u "([CIILjava/lang/Void;)V"), (8, .fieldref 10 39), (0, .nameAndType 40 26), (0, u "COMPACT_STRINGS"), (1, .class_ 44), (1, u "java/lang/StringUTF16"), (0, u "compress"), (1, .methodref 42 48), (0, .nameAndType 49 50), (0, u "coderFromArrayLen"), (0, u "([BI)B"), (2, u "toBytes"), (53, .class_ 109), (1, u "java/lang/StringLatin1"), (67, .methodref 42 178), (0, .nameAndType 45 179), (0, u "([CII)[B"), (29, .methodref 10 210), (0, .nameAndType 5 211), (0, u "([BB)V"), (157, u "(C)Z"), (173, u "equals"), (29, u "(Ljava/lang/Object;)Z"), (1, .class_ 576), (0, u "java/lang/CharSequence"), (22, u "CASE_INSENSITIVE_ORDER"), (0, u "Ljava/util/Comparator;"), (181, u "valueOf"), (0, u "(C)Ljava/lang/String;"), (226, u "([C)V"), (4, .methodref 107 1016), (0, .nameAndType 1017 369), (0, u "canEncode"), (0, .methodref 107 1019), (0, .nameAndType 53 1020), (0, u "(C)[B"), (80, u "serialPersistentFields"), (0, u "[Ljava/io/ObjectStreamField;"), (0, .class_ 1104), (0, u "java/lang/String$CaseInsensitiveComparator"), (1, .class_ 1107), (0, u "java/io/Serializable"), (0, .class_ 1109), (0, u "java/lang/Comparable"), (0, .class_ 1111), (0, u "java/lang/constant/Constable"), (0, .class_ 1113), (0, u "java/lang/constant/ConstantDesc"), (2, u "serialVersionUID"), (0, u "J"), (3, u "REPL"), (0, u "C"), (2, u "LATIN1"), (1, u "UTF16")] 323

def k7m0 : Method := { name := "<init>", desc := "()V", sig := { parameters := [], returnType := none }, accessFlags := 1, code := none }
def k7c1 : Code := { maxStack := 5, maxLocals := 2, code := jdk_42_method_3_code, exceptionTable := #[], attributes := #[] }
def k7m1 : Method := { name := "<init>", desc := "([C)V", sig := { parameters := [(.array .char)], returnType := none }, accessFlags := 1, code := some k7c1 }
def k7c2 : Code := { maxStack := 2, maxLocals := 3, code := jdk_42_method_66_code, exceptionTable := #[], attributes := #[] }
def k7m2 : Method := { name := "equals", desc := "(Ljava/lang/Object;)Z", sig := { parameters := [(.object "java/lang/Object")], returnType := some .boolean }, accessFlags := 1, code := some k7c2 }
def k7c3 : Code := { maxStack := 4, maxLocals := 1, code := jdk_42_method_139_code, exceptionTable := #[], attributes := #[] }
def k7m3 : Method := { name := "valueOf", desc := "(C)Ljava/lang/String;", sig := { parameters := [.char], returnType := some (.object "java/lang/String") }, accessFlags := 9, code := some k7c3 }
def k7c4 : Code := { maxStack := 4, maxLocals := 6, code := jdk_42_method_149_code, exceptionTable := #[], attributes := #[] }
def k7m4 : Method := { name := "<init>", desc := "([CIILjava/lang/Void;)V", sig := { parameters := [(.array .char), .int, .int, (.object "java/lang/Void")], returnType := none }, accessFlags := 2, code := some k7c4 }
def k7c5 : Code := { maxStack := 2, maxLocals := 3, code := jdk_42_method_151_code, exceptionTable := #[], attributes := #[] }
def k7m5 : Method := { name := "<init>", desc := "([BB)V", sig := { parameters := [(.array .byte), .byte], returnType := none }, accessFlags := 0, code := some k7c5 }
/-- java/lang/String -/
def k7 : Class := { plain "java/lang/String" (some 0) with
  accessFlags := 49
  interfaces := #[2, 3, 4, 5, 6]
  cf := some (fileOf pool7 10 #[.nestMembers #[1103]] #[{ accessFlags := 1, nameIndex := 5, descriptorIndex := 6, attributes := #[] }, { accessFlags := 1, nameIndex := 5, descriptorIndex := 1010, attributes := #[] }, { accessFlags := 1, nameIndex := 543, descriptorIndex := 573, attributes := #[] }, { accessFlags := 9, nameIndex := 782, descriptorIndex := 783, attributes := #[] }, { accessFlags := 2, nameIndex := 5, descriptorIndex := 29, attributes := #[] }, { accessFlags := 0, nameIndex := 5, descriptorIndex := 211, attributes := #[] }] 49 2 #[1106, 1108, 575, 1110, 1112] #[{ accessFlags := 18, nameIndex := 13, descriptorIndex := 14, attributes := #[] }, { accessFlags := 18, nameIndex := 17, descriptorIndex := 18, attributes := #[] }, { accessFlags := 2, nameIndex := 21, descriptorIndex := 22, attributes := #[] }, { accessFlags := 2, nameIndex := 25, descriptorIndex := 26, attributes := #[] }, { accessFlags := 26, nameIndex := 1116, descriptorIndex := 1117, attributes := #[] }, { accessFlags := 24, nameIndex := 40, descriptorIndex := 26, attributes := #[] }, { accessFlags := 26, nameIndex := 1101, descriptorIndex := 1102, attributes := #[] }, { accessFlags := 26, nameIndex := 1121, descriptorIndex := 1122, attributes := #[] }, { accessFlags := 25, nameIndex := 599, descriptorIndex := 600, attributes := #[] }, { accessFlags := 24, nameIndex := 1125, descriptorIndex := 18, attributes := #[] }, { accessFlags := 24, nameIndex := 1127, descriptorIndex := 18, attributes := #[] }])
  fields := #[{ name := "value", type := (.array .byte), accessFlags := 18, slot := 0, constantValue := 0 }, { name := "coder", type := .byte, accessFlags := 18, slot := 1, constantValue := 0 }, { name := "hash", type := .int, accessFlags := 2, slot := 2, constantValue := 0 }, { name := "hashIsZero", type := .boolean, accessFlags := 2, slot := 3, constantValue := 0 }, { name := "serialVersionUID", type := .long, accessFlags := 26, slot := 0, constantValue := 0 }, { name := "COMPACT_STRINGS", type := .boolean, accessFlags := 24, slot := 1, constantValue := 0 }, { name := "serialPersistentFields", type := (.array (.object "java/io/ObjectStreamField")), accessFlags := 26, slot := 2, constantValue := 0 }, { name := "REPL", type := .char, accessFlags := 26, slot := 3, constantValue := 0 }, { name := "CASE_INSENSITIVE_ORDER", type := (.object "java/util/Comparator"), accessFlags := 25, slot := 4, constantValue := 0 }, { name := "LATIN1", type := .byte, accessFlags := 24, slot := 5, constantValue := 0 }, { name := "UTF16", type := .byte, accessFlags := 24, slot := 6, constantValue := 0 }]
  methods := #[k7m0, k7m1, k7m2, k7m3, k7m4, k7m5]
  instanceTypes := #[(.array .byte), .byte, .int, .boolean]
  staticTypes := #[.long, .boolean, (.array (.object "java/io/ObjectStreamField")), .char, (.object "java/util/Comparator"), .byte, .byte]
  resolved := Array.replicate 1451 none
  statics := some 0 }

def pool8 : Array CpInfo := pool [(4, .class_ 6), (1, u "java/lang/Object"), (0, u "<init>"), (0, u "()V"), (5, .class_ 16), (1, u "java/lang/StringLatin1"), (73, u "canEncode"), (14, u "(C)Z"), (15, u "$assertionsDisabled"), (0, u "Z"), (98, .class_ 223), (1, u "java/lang/StringLatin1$LinesSpliterator"), (156, u "toBytes"), (1, u "(C)[B"), (7, .class_ 391), (0, u "java/lang/StringLatin1$CharsSpliterator")] 3

def k8m0 : Method := { name := "<init>", desc := "()V", sig := { parameters := [], returnType := none }, accessFlags := 0, code := none }
def k8c1 : Code := { maxStack := 2, maxLocals := 1, code := jdk_43_method_3_code, exceptionTable := #[], attributes := #[] }
def k8m1 : Method := { name := "canEncode", desc := "(C)Z", sig := { parameters := [.char], returnType := some .boolean }, accessFlags := 9, code := some k8c1 }
def k8c2 : Code := { maxStack := 4, maxLocals := 1, code := jdk_43_method_46_code, exceptionTable := #[], attributes := #[] }
def k8m2 : Method := { name := "toBytes", desc := "(C)[B", sig := { parameters := [.char], returnType := some (.array .byte) }, accessFlags := 9, code := some k8c2 }
/-- java/lang/StringLatin1 -/
def k8 : Class := { plain "java/lang/StringLatin1" (some 0) with
  accessFlags := 48
  interfaces := #[]
  cf := some (fileOf pool8 14 #[.nestMembers #[390, 221]] #[{ accessFlags := 0, nameIndex := 7, descriptorIndex := 8, attributes := #[] }, { accessFlags := 9, nameIndex := 90, descriptorIndex := 105, attributes := #[] }, { accessFlags := 9, nameIndex := 380, descriptorIndex := 382, attributes := #[] }] 48 4 #[] #[{ accessFlags := 4120, nameIndex := 121, descriptorIndex := 122, attributes := #[] }])
  fields := #[{ name := "$assertionsDisabled", type := .boolean, accessFlags := 4120, slot := 0, constantValue := 0 }]
  methods := #[k8m0, k8m1, k8m2]
  instanceTypes := #[]
  staticTypes := #[.boolean]
  resolved := Array.replicate 395 none
  statics := none }

def pool9 : Array CpInfo := pool [(6, .class_ 8), (1, u "java/lang/Object"), (0, u "<init>"), (0, u "()V"), (1, .class_ 14), (1, u "java/lang/StringUTF16"), (31, u "$assertionsDisabled"), (0, u "Z"), (13, u "HI_BYTE_SHIFT"), (0, u "I"), (2, u "LO_BYTE_SHIFT"), (49, .methodref 12 116), (0, .nameAndType 117 118), (0, u "compress"), (0, u "([CI[BII)I"), (3, u "([CII)[B"), (138, u "coderFromArrayLen"), (0, u "([BI)B"), (106, .class_ 371), (1, u "java/lang/StringUTF16$LinesSpliterator"), (58, u "MAX_LENGTH"), (196, .class_ 628), (0, u "java/lang/StringUTF16$CodePointsSpliterator"), (0, .class_ 630), (0, u "java/lang/StringUTF16$CharsSpliterator")] 4

def k9m0 : Method := { name := "<init>", desc := "()V", sig := { parameters := [], returnType := none }, accessFlags := 0, code := none }
def k9c1 : Code := { maxStack := 2, maxLocals := 2, code := jdk_52_method_15_code, exceptionTable := #[], attributes := #[] }
def k9m1 : Method := { name := "coderFromArrayLen", desc := "([BI)B", sig := { parameters := [(.array .byte), .int], returnType := some .byte }, accessFlags := 8, code := some k9c1 }
def k9c2 : Code := { maxStack := 5, maxLocals := 6, code := jdk_52_method_16_code, exceptionTable := #[], attributes := #[] }
def k9m2 : Method := { name := "compress", desc := "([CII)[B", sig := { parameters := [(.array .char), .int, .int], returnType := some (.array .byte) }, accessFlags := 9, code := some k9c2 }
def k9c3 : Code := { maxStack := 3, maxLocals := 7, code := jdk_52_method_21_code, exceptionTable := #[], attributes := #[] }
def k9m3 : Method := { name := "compress", desc := "([CI[BII)I", sig := { parameters := [(.array .char), .int, (.array .byte), .int, .int], returnType := some .int }, accessFlags := 9, code := some k9c3 }
/-- java/lang/StringUTF16 -/
def k9 : Class := { plain "java/lang/StringUTF16" (some 0) with
  accessFlags := 48
  interfaces := #[]
  cf := some (fileOf pool9 12 #[.nestMembers #[627, 629, 369]] #[{ accessFlags := 0, nameIndex := 9, descriptorIndex := 10, attributes := #[] }, { accessFlags := 8, nameIndex := 261, descriptorIndex := 262, attributes := #[] }, { accessFlags := 9, nameIndex := 117, descriptorIndex := 122, attributes := #[] }, { accessFlags := 9, nameIndex := 117, descriptorIndex := 118, attributes := #[] }] 48 6 #[] #[{ accessFlags := 26, nameIndex := 61, descriptorIndex := 62, attributes := #[] }, { accessFlags := 26, nameIndex := 65, descriptorIndex := 62, attributes := #[] }, { accessFlags := 24, nameIndex := 430, descriptorIndex := 62, attributes := #[] }, { accessFlags := 4120, nameIndex := 46, descriptorIndex := 47, attributes := #[] }])
  fields := #[{ name := "HI_BYTE_SHIFT", type := .int, accessFlags := 26, slot := 0, constantValue := 0 }, { name := "LO_BYTE_SHIFT", type := .int, accessFlags := 26, slot := 1, constantValue := 0 }, { name := "MAX_LENGTH", type := .int, accessFlags := 24, slot := 2, constantValue := 0 }, { name := "$assertionsDisabled", type := .boolean, accessFlags := 4120, slot := 3, constantValue := 0 }]
  methods := #[k9m0, k9m1, k9m2, k9m3]
  instanceTypes := #[]
  staticTypes := #[.int, .int, .int, .boolean]
  resolved := Array.replicate 635 none
  statics := none }

def pool10 : Array CpInfo := pool [(8, .class_ 10), (1, u "java/lang/Iterable"), (24, .class_ 36), (0, u "java/lang/Object")] 25

/-- java/lang/Iterable -/
def k10 : Class := { plain "java/lang/Iterable" (some 0) with
  accessFlags := 1537
  interfaces := #[]
  cf := some (fileOf pool10 8 #[] #[] 1537 35 #[] #[])
  fields := #[]
  methods := #[]
  instanceTypes := #[]
  staticTypes := #[]
  resolved := Array.replicate 62 none
  statics := none }

def pool11 : Array CpInfo := pool [(10, .class_ 12), (1, u "java/util/Collection"), (47, .class_ 61), (0, u "java/lang/Object"), (0, .class_ 63), (0, u "java/lang/Iterable")] 51

/-- java/util/Collection -/
def k11 : Class := { plain "java/util/Collection" (some 0) with
  accessFlags := 1537
  interfaces := #[10]
  cf := some (fileOf pool11 10 #[] #[] 1537 60 #[62] #[])
  fields := #[]
  methods := #[]
  instanceTypes := #[]
  staticTypes := #[]
  resolved := Array.replicate 115 none
  statics := none }

def pool12 : Array CpInfo := pool [(1, .methodref 2 3), (0, .class_ 4), (0, .nameAndType 5 6), (0, u "java/lang/Object"), (0, u "<init>"), (0, u "()V"), (1, .class_ 10), (1, u "java/util/AbstractCollection"), (66, .class_ 78), (0, u "java/util/Collection")] 81

def k12c0 : Code := { maxStack := 1, maxLocals := 1, code := jdk_22_method_1_code, exceptionTable := #[], attributes := #[] }
def k12m0 : Method := { name := "<init>", desc := "()V", sig := { parameters := [], returnType := none }, accessFlags := 4, code := some k12c0 }
/-- java/util/AbstractCollection -/
def k12 : Class := { plain "java/util/AbstractCollection" (some 0) with
  accessFlags := 1057
  interfaces := #[11]
  cf := some (fileOf pool12 8 #[] #[{ accessFlags := 4, nameIndex := 5, descriptorIndex := 6, attributes := #[] }] 1057 2 #[77] #[])
  fields := #[]
  methods := #[k12m0]
  instanceTypes := #[]
  staticTypes := #[]
  resolved := Array.replicate 160 none
  statics := none }

def pool13 : Array CpInfo := pool [(8, .class_ 10), (1, u "java/util/SequencedCollection"), (15, .class_ 27), (0, u "java/lang/Object"), (0, .class_ 29), (0, u "java/util/Collection")] 27

/-- java/util/SequencedCollection -/
def k13 : Class := { plain "java/util/SequencedCollection" (some 0) with
  accessFlags := 1537
  interfaces := #[11]
  cf := some (fileOf pool13 8 #[] #[] 1537 26 #[28] #[])
  fields := #[]
  methods := #[]
  instanceTypes := #[]
  staticTypes := #[]
  resolved := Array.replicate 57 none
  statics := none }

def pool14 : Array CpInfo := pool [(8, .class_ 10), (1, u "java/util/List"), (64, u "get"), (0, u "(I)Ljava/lang/Object;"), (26, .class_ 104), (0, u "java/lang/Object"), (15, .class_ 121), (0, u "java/util/SequencedCollection")] 129

def k14m0 : Method := { name := "get", desc := "(I)Ljava/lang/Object;", sig := { parameters := [.int], returnType := some (.object "java/lang/Object") }, accessFlags := 1025, code := none }
/-- java/util/List -/
def k14 : Class := { plain "java/util/List" (some 0) with
  accessFlags := 1537
  interfaces := #[13]
  cf := some (fileOf pool14 8 #[] #[{ accessFlags := 1025, nameIndex := 75, descriptorIndex := 76, attributes := #[] }] 1537 103 #[120] #[])
  fields := #[]
  methods := #[k14m0]
  instanceTypes := #[]
  staticTypes := #[]
  resolved := Array.replicate 251 none
  statics := none }

def pool15 : Array CpInfo := pool [(1, .methodref 2 3), (0, .class_ 4), (0, .nameAndType 5 6), (0, u "java/util/AbstractCollection"), (0, u "<init>"), (0, u "()V"), (0, .fieldref 8 9), (0, .class_ 10), (0, .nameAndType 11 12), (0, u "java/util/AbstractList"), (0, u "modCount"), (0, u "I"), (64, .class_ 78), (0, u "java/util/AbstractList$Itr"), (3, .class_ 83), (0, u "java/util/AbstractList$ListItr"), (9, .class_ 94), (0, u "java/util/AbstractList$RandomAccessSubList"), (3, .class_ 99), (0, u "java/util/AbstractList$SubList"), (33, .class_ 134), (0, u "java/util/List"), (73, .class_ 209), (0, u "java/util/AbstractList$SubList$1"), (0, .class_ 211), (0, u "java/util/AbstractList$RandomAccessSpliterator")] 6

def k15c0 : Code := { maxStack := 2, maxLocals := 1, code := jdk_39_method_1_code, exceptionTable := #[], attributes := #[] }
def k15m0 : Method := { name := "<init>", desc := "()V", sig := { parameters := [], returnType := none }, accessFlags := 4, code := some k15c0 }
/-- java/util/AbstractList -/
def k15 : Class := { plain "java/util/AbstractList" (some 12) with
  accessFlags := 1057
  interfaces := #[14]
  cf := some (fileOf pool15 8 #[.nestMembers #[93, 98, 208, 210, 82, 77]] #[{ accessFlags := 4, nameIndex := 5, descriptorIndex := 6, attributes := #[] }] 1057 2 #[133] #[{ accessFlags := 132, nameIndex := 11, descriptorIndex := 12, attributes := #[] }])
  fields := #[{ name := "modCount", type := .int, accessFlags := 132, slot := 0, constantValue := 0 }]
  methods := #[k15m0]
  instanceTypes := #[.int]
  staticTypes := #[]
  resolved := Array.replicate 218 none
  statics := none }

def pool16 : Array CpInfo := pool [(1, .class_ 2), (0, u "java/util/RandomAccess"), (0, .class_ 4), (0, u "java/lang/Object")] 2

/-- java/util/RandomAccess -/
def k16 : Class := { plain "java/util/RandomAccess" (some 0) with
  accessFlags := 1537
  interfaces := #[]
  cf := some (fileOf pool16 1 #[] #[] 1537 3 #[] #[])
  fields := #[]
  methods := #[]
  instanceTypes := #[]
  staticTypes := #[]
  resolved := Array.replicate 7 none
  statics := none }

def pool17 : Array CpInfo := pool [(1, .class_ 2), (0, u "java/lang/Cloneable"), (0, .class_ 4), (0, u "java/lang/Object")] 2

/-- java/lang/Cloneable -/
def k17 : Class := { plain "java/lang/Cloneable" (some 0) with
  accessFlags := 1537
  interfaces := #[]
  cf := some (fileOf pool17 1 #[] #[] 1537 3 #[] #[])
  fields := #[]
  methods := #[]
  instanceTypes := #[]
  staticTypes := #[]
  resolved := Array.replicate 7 none
  statics := none }

def pool18 : Array CpInfo := pool [(1, .methodref 2 3), (0, .class_ 4), (0, .nameAndType 5 6), (0, u "java/util/AbstractList"), (0, u "<init>"), (0, u "()V"), (0, .class_ 8), (0, u "java/lang/Object"), (0, .fieldref 10 11), (0, .class_ 12), (0, .nameAndType 13 14), (0, u "java/util/ArrayList"), (0, u "elementData"), (0, u "[Ljava/lang/Object;"), (2, u "EMPTY_ELEMENTDATA"), (21, .fieldref 10 40), (0, .nameAndType 41 14), (0, u "DEFAULTCAPACITY_EMPTY_ELEMENTDATA"), (5, u "()[Ljava/lang/Object;"), (0, .fieldref 10 49), (0, .nameAndType 50 51), (0, u "size"), (0, u "I"), (11, .fieldref 10 64), (0, .nameAndType 65 51), (0, u "modCount"), (3, .methodref 10 70), (0, .nameAndType 71 72), (0, u "grow"), (0, u "(I)[Ljava/lang/Object;"), (6, .methodref 80 81), (0, .class_ 82), (0, .nameAndType 83 84), (0, u "java/lang/Math"), (0, u "max"), (0, u "(II)I"), (11, u "(Ljava/lang/Object;)Z"), (21, .methodref 119 120), (0, .class_ 121), (0, .nameAndType 122 84), (0, u "java/util/Objects"), (0, u "checkIndex"), (0, .methodref 10 124), (0, .nameAndType 13 125), (0, u "(I)Ljava/lang/Object;"), (3, .methodref 10 130), (0, .nameAndType 71 47), (0, .methodref 10 132), (0, .nameAndType 133 134), (0, u "add"), (0, u "(Ljava/lang/Object;[Ljava/lang/Object;I)V"), (13, .class_ 149), (0, u "java/util/List"), (112, .class_ 263), (0, u "java/util/ArrayList$ListItr"), (3, .class_ 268), (0, u "java/util/ArrayList$Itr"), (7, .class_ 277), (0, u "java/util/ArrayList$SubList"), (12, .class_ 291), (0, u "java/util/ArrayList$ArrayListSpliterator"), (37, .class_ 330), (0, u "java/util/RandomAccess"), (0, .class_ 332), (0, u "java/lang/Cloneable"), (0, .class_ 334), (0, u "java/io/Serializable"), (0, u "serialVersionUID"), (0, u "J"), (3, u "DEFAULT_CAPACITY"), (40, u "get"), (118, .class_ 501), (0, u "java/util/ArrayList$SubList$2"), (0, .class_ 503), (0, u "java/util/ArrayList$SubList$1")] 5

def k18c0 : Code := { maxStack := 2, maxLocals := 1, code := jdk_38_method_2_code, exceptionTable := #[], attributes := #[] }
def k18m0 : Method := { name := "<init>", desc := "()V", sig := { parameters := [], returnType := none }, accessFlags := 1, code := some k18c0 }
def k18c1 : Code := { maxStack := 4, maxLocals := 4, code := jdk_38_method_6_code, exceptionTable := #[], attributes := #[] }
def k18m1 : Method := { name := "grow", desc := "(I)[Ljava/lang/Object;", sig := { parameters := [.int], returnType := some (.array (.object "java/lang/Object")) }, accessFlags := 2, code := some k18c1 }
def k18c2 : Code := { maxStack := 3, maxLocals := 1, code := jdk_38_method_7_code, exceptionTable := #[], attributes := #[] }
def k18m2 : Method := { name := "grow", desc := "()[Ljava/lang/Object;", sig := { parameters := [], returnType := some (.array (.object "java/lang/Object")) }, accessFlags := 2, code := some k18c2 }
def k18c3 : Code := { maxStack := 2, maxLocals := 2, code := jdk_38_method_18_code, exceptionTable := #[], attributes := #[] }
def k18m3 : Method := { name := "elementData", desc := "(I)Ljava/lang/Object;", sig := { parameters := [.int], returnType := some (.object "java/lang/Object") }, accessFlags := 0, code := some k18c3 }
def k18c4 : Code := { maxStack := 2, maxLocals := 2, code := jdk_38_method_20_code, exceptionTable := #[], attributes := #[] }
def k18m4 : Method := { name := "get", desc := "(I)Ljava/lang/Object;", sig := { parameters := [.int], returnType := some (.object "java/lang/Object") }, accessFlags := 1, code := some k18c4 }
def k18c5 : Code := { maxStack := 3, maxLocals := 4, code := jdk_38_method_24_code, exceptionTable := #[], attributes := #[] }
def k18m5 : Method := { name := "add", desc := "(Ljava/lang/Object;[Ljava/lang/Object;I)V", sig := { parameters := [(.object "java/lang/Object"), (.array (.object "java/lang/Object")), .int], returnType := none }, accessFlags := 2, code := some k18c5 }
def k18c6 : Code := { maxStack := 4, maxLocals := 2, code := jdk_38_method_25_code, exceptionTable := #[], attributes := #[] }
def k18m6 : Method := { name := "add", desc := "(Ljava/lang/Object;)Z", sig := { parameters := [(.object "java/lang/Object")], returnType := some .boolean }, accessFlags := 1, code := some k18c6 }
/-- java/util/ArrayList -/
def k18 : Class := { plain "java/util/ArrayList" (some 15) with
  accessFlags := 33
  interfaces := #[14, 16, 17, 2]
  cf := some (fileOf pool18 10 #[.nestMembers #[290, 276, 500, 502, 262, 267]] #[{ accessFlags := 1, nameIndex := 5, descriptorIndex := 6, attributes := #[] }, { accessFlags := 2, nameIndex := 71, descriptorIndex := 72, attributes := #[] }, { accessFlags := 2, nameIndex := 71, descriptorIndex := 47, attributes := #[] }, { accessFlags := 0, nameIndex := 13, descriptorIndex := 125, attributes := #[] }, { accessFlags := 1, nameIndex := 381, descriptorIndex := 125, attributes := #[] }, { accessFlags := 2, nameIndex := 133, descriptorIndex := 134, attributes := #[] }, { accessFlags := 1, nameIndex := 133, descriptorIndex := 96, attributes := #[] }] 33 2 #[148, 329, 331, 333] #[{ accessFlags := 26, nameIndex := 335, descriptorIndex := 336, attributes := #[] }, { accessFlags := 26, nameIndex := 340, descriptorIndex := 51, attributes := #[] }, { accessFlags := 26, nameIndex := 17, descriptorIndex := 14, attributes := #[] }, { accessFlags := 26, nameIndex := 41, descriptorIndex := 14, attributes := #[] }, { accessFlags := 128, nameIndex := 13, descriptorIndex := 14, attributes := #[] }, { accessFlags := 2, nameIndex := 50, descriptorIndex := 51, attributes := #[] }])
  fields := #[{ name := "serialVersionUID", type := .long, accessFlags := 26, slot := 0, constantValue := 0 }, { name := "DEFAULT_CAPACITY", type := .int, accessFlags := 26, slot := 1, constantValue := 0 }, { name := "EMPTY_ELEMENTDATA", type := (.array (.object "java/lang/Object")), accessFlags := 26, slot := 2, constantValue := 0 }, { name := "DEFAULTCAPACITY_EMPTY_ELEMENTDATA", type := (.array (.object "java/lang/Object")), accessFlags := 26, slot := 3, constantValue := 0 }, { name := "elementData", type := (.array (.object "java/lang/Object")), accessFlags := 128, slot := 1, constantValue := 0 }, { name := "size", type := .int, accessFlags := 2, slot := 2, constantValue := 0 }]
  methods := #[k18m0, k18m1, k18m2, k18m3, k18m4, k18m5, k18m6]
  instanceTypes := #[.int, (.array (.object "java/lang/Object")), .int]
  staticTypes := #[.long, .int, (.array (.object "java/lang/Object")), (.array (.object "java/lang/Object"))]
  resolved := Array.replicate 509 none
  statics := some 1 }

def pool19 : Array CpInfo := pool [(1, .class_ 2), (0, u "java/lang/Math"), (1, .class_ 6), (1, u "java/lang/Object"), (0, u "<init>"), (0, u "()V"), (89, .class_ 100), (1, u "java/lang/Math$RandomNumberGeneratorHolder"), (71, u "negativeZeroFloatBits"), (0, u "J"), (2, u "negativeZeroDoubleBits"), (21, u "max"), (46, u "$assertionsDisabled"), (0, u "Z"), (88, u "(II)I"), (2, u "twoToTheDoubleScaleDown"), (0, u "D"), (4, u "twoToTheDoubleScaleUp"), (9, u "E"), (3, u "PI"), (2, u "TAU"), (2, u "DEGREES_TO_RADIANS"), (0, u "RADIANS_TO_DEGREES")] 94

def k19m0 : Method := { name := "<init>", desc := "()V", sig := { parameters := [], returnType := none }, accessFlags := 2, code := none }
def k19c1 : Code := { maxStack := 2, maxLocals := 2, code := jdk_29_method_65_code, exceptionTable := #[], attributes := #[] }
def k19m1 : Method := { name := "max", desc := "(II)I", sig := { parameters := [.int, .int], returnType := some .int }, accessFlags := 9, code := some k19c1 }
/-- java/lang/Math -/
def k19 : Class := { plain "java/lang/Math" (some 0) with
  accessFlags := 49
  interfaces := #[]
  cf := some (fileOf pool19 1 #[.nestMembers #[98]] #[{ accessFlags := 2, nameIndex := 7, descriptorIndex := 8, attributes := #[] }, { accessFlags := 9, nameIndex := 198, descriptorIndex := 335, attributes := #[] }] 49 4 #[] #[{ accessFlags := 25, nameIndex := 354, descriptorIndex := 339, attributes := #[] }, { accessFlags := 25, nameIndex := 358, descriptorIndex := 339, attributes := #[] }, { accessFlags := 25, nameIndex := 361, descriptorIndex := 339, attributes := #[] }, { accessFlags := 26, nameIndex := 364, descriptorIndex := 339, attributes := #[] }, { accessFlags := 26, nameIndex := 365, descriptorIndex := 339, attributes := #[] }, { accessFlags := 26, nameIndex := 172, descriptorIndex := 173, attributes := #[] }, { accessFlags := 26, nameIndex := 176, descriptorIndex := 173, attributes := #[] }, { accessFlags := 8, nameIndex := 344, descriptorIndex := 339, attributes := #[] }, { accessFlags := 8, nameIndex := 338, descriptorIndex := 339, attributes := #[] }, { accessFlags := 4120, nameIndex := 245, descriptorIndex := 246, attributes := #[] }])
  fields := #[{ name := "E", type := .double, accessFlags := 25, slot := 0, constantValue := 0 }, { name := "PI", type := .double, accessFlags := 25, slot := 1, constantValue := 0 }, { name := "TAU", type := .double, accessFlags := 25, slot := 2, constantValue := 0 }, { name := "DEGREES_TO_RADIANS", type := .double, accessFlags := 26, slot := 3, constantValue := 0 }, { name := "RADIANS_TO_DEGREES", type := .double, accessFlags := 26, slot := 4, constantValue := 0 }, { name := "negativeZeroFloatBits", type := .long, accessFlags := 26, slot := 5, constantValue := 0 }, { name := "negativeZeroDoubleBits", type := .long, accessFlags := 26, slot := 6, constantValue := 0 }, { name := "twoToTheDoubleScaleUp", type := .double, accessFlags := 8, slot := 7, constantValue := 0 }, { name := "twoToTheDoubleScaleDown", type := .double, accessFlags := 8, slot := 8, constantValue := 0 }, { name := "$assertionsDisabled", type := .boolean, accessFlags := 4120, slot := 9, constantValue := 0 }]
  methods := #[k19m0, k19m1]
  instanceTypes := #[]
  staticTypes := #[.double, .double, .double, .double, .double, .long, .long, .double, .double, .boolean]
  resolved := Array.replicate 460 none
  statics := none }

def pool20 : Array CpInfo := pool [(1, .methodref 2 3), (0, .class_ 4), (0, .nameAndType 5 6), (0, u "java/lang/Object"), (0, u "<init>"), (0, u "()V"), (0, .class_ 8), (0, u "java/lang/Record")] 13

def k20c0 : Code := { maxStack := 1, maxLocals := 1, code := jdk_30_method_1_code, exceptionTable := #[], attributes := #[] }
def k20m0 : Method := { name := "<init>", desc := "()V", sig := { parameters := [], returnType := none }, accessFlags := 4, code := some k20c0 }
/-- java/lang/Record -/
def k20 : Class := { plain "java/lang/Record" (some 0) with
  accessFlags := 1057
  interfaces := #[]
  cf := some (fileOf pool20 7 #[] #[{ accessFlags := 4, nameIndex := 5, descriptorIndex := 6, attributes := #[] }] 1057 2 #[] #[])
  fields := #[]
  methods := #[k20m0]
  instanceTypes := #[]
  staticTypes := #[]
  resolved := Array.replicate 22 none
  statics := none }

def pool21 : Array CpInfo := pool [(1, .methodref 2 3), (0, .class_ 4), (0, .nameAndType 5 6), (0, u "java/lang/Record"), (0, u "<init>"), (0, u "()V"), (0, .fieldref 8 9), (0, .class_ 10), (0, .nameAndType 11 12), (0, u "com/example/rowscribe/rowscribe/cli/CommandLine"), (0, u "words"), (0, u "Ljava/util/List;"), (0, .fieldref 8 14), (0, .nameAndType 15 16), (0, u "options"), (0, u "Ljava/util/Map;"), (5, .class_ 23), (0, u "com/example/rowscribe/rowscribe/cli/CommandLine$Option"), (4, .class_ 30), (1, u "java/util/List"), (12, .class_ 44), (0, u "java/lang/String"), (21, u "(Ljava/util/List;Ljava/util/Map;)V"), (26, u "Ljava/lang/String;"), (15, u "FAMILIES"), (0, .interfaceMethodref 28 111), (0, .nameAndType 112 113), (0, u "get"), (0, u "(I)Ljava/lang/Object;"), (72, u "SCHEMA_AND_TABLE"), (0, u "Ljava/util/regex/Pattern;"), (82, u "(I)Ljava/lang/String;"), (6, u "COLUMN"), (24, u "ITEM"), (20, u "NEEDS_QUOTES"), (46, u "SETTINGS_COMMANDS"), (7, u "TIMELINE_COMMANDS"), (4, u "READING_COMMANDS"), (4, u "COVERAGE_COMMANDS"), (23, u "TABLE_LIST"), (10, u "word"), (22, .class_ 447), (0, u "com/example/rowscribe/rowscribe/cli/CommandLine$Setting")] 56

def k21c0 : Code := { maxStack := 2, maxLocals := 3, code := prog_19_method_1_code, exceptionTable := #[], attributes := #[] }
def k21m0 : Method := { name := "<init>", desc := "(Ljava/util/List;Ljava/util/Map;)V", sig := { parameters := [(.object "java/util/List"), (.object "java/util/Map")], returnType := none }, accessFlags := 0, code := some k21c0 }
def k21c1 : Code := { maxStack := 2, maxLocals := 2, code := prog_19_method_4_code, exceptionTable := #[], attributes := #[] }
def k21m1 : Method := { name := "word", desc := "(I)Ljava/lang/String;", sig := { parameters := [.int], returnType := some (.object "java/lang/String") }, accessFlags := 0, code := some k21c1 }
/-- com/example/rowscribe/rowscribe/cli/CommandLine -/
def k21 : Class := { plain "com/example/rowscribe/rowscribe/cli/CommandLine" (some 20) with
  accessFlags := 48
  interfaces := #[]
  cf := some (fileOf pool21 8 #[.nestMembers #[446, 22]] #[{ accessFlags := 0, nameIndex := 5, descriptorIndex := 66, attributes := #[] }, { accessFlags := 0, nameIndex := 423, descriptorIndex := 270, attributes := #[] }] 48 2 #[] #[{ accessFlags := 18, nameIndex := 11, descriptorIndex := 12, attributes := #[] }, { accessFlags := 18, nameIndex := 15, descriptorIndex := 16, attributes := #[] }, { accessFlags := 26, nameIndex := 370, descriptorIndex := 12, attributes := #[] }, { accessFlags := 26, nameIndex := 378, descriptorIndex := 12, attributes := #[] }, { accessFlags := 26, nameIndex := 383, descriptorIndex := 12, attributes := #[] }, { accessFlags := 26, nameIndex := 388, descriptorIndex := 12, attributes := #[] }, { accessFlags := 26, nameIndex := 412, descriptorIndex := 93, attributes := #[] }, { accessFlags := 26, nameIndex := 109, descriptorIndex := 12, attributes := #[] }, { accessFlags := 26, nameIndex := 302, descriptorIndex := 187, attributes := #[] }, { accessFlags := 26, nameIndex := 323, descriptorIndex := 187, attributes := #[] }, { accessFlags := 26, nameIndex := 277, descriptorIndex := 187, attributes := #[] }, { accessFlags := 26, nameIndex := 186, descriptorIndex := 187, attributes := #[] }])
  fields := #[{ name := "words", type := (.object "java/util/List"), accessFlags := 18, slot := 0, constantValue := 0 }, { name := "options", type := (.object "java/util/Map"), accessFlags := 18, slot := 1, constantValue := 0 }, { name := "SETTINGS_COMMANDS", type := (.object "java/util/List"), accessFlags := 26, slot := 0, constantValue := 0 }, { name := "TIMELINE_COMMANDS", type := (.object "java/util/List"), accessFlags := 26, slot := 1, constantValue := 0 }, { name := "READING_COMMANDS", type := (.object "java/util/List"), accessFlags := 26, slot := 2, constantValue := 0 }, { name := "COVERAGE_COMMANDS", type := (.object "java/util/List"), accessFlags := 26, slot := 3, constantValue := 0 }, { name := "TABLE_LIST", type := (.object "java/lang/String"), accessFlags := 26, slot := 4, constantValue := 0 }, { name := "FAMILIES", type := (.object "java/util/List"), accessFlags := 26, slot := 5, constantValue := 0 }, { name := "ITEM", type := (.object "java/util/regex/Pattern"), accessFlags := 26, slot := 6, constantValue := 0 }, { name := "NEEDS_QUOTES", type := (.object "java/util/regex/Pattern"), accessFlags := 26, slot := 7, constantValue := 0 }, { name := "COLUMN", type := (.object "java/util/regex/Pattern"), accessFlags := 26, slot := 8, constantValue := 0 }, { name := "SCHEMA_AND_TABLE", type := (.object "java/util/regex/Pattern"), accessFlags := 26, slot := 9, constantValue := 0 }]
  methods := #[k21m0, k21m1]
  instanceTypes := #[(.object "java/util/List"), (.object "java/util/Map")]
  staticTypes := #[(.object "java/util/List"), (.object "java/util/List"), (.object "java/util/List"), (.object "java/util/List"), (.object "java/lang/String"), (.object "java/util/List"), (.object "java/util/regex/Pattern"), (.object "java/util/regex/Pattern"), (.object "java/util/regex/Pattern"), (.object "java/util/regex/Pattern")]
  resolved := Array.replicate 504 none
  statics := none }

def pool22 : Array CpInfo := pool [(2, .class_ 4), (1, u "java/lang/Object"), (0, u "<init>"), (0, u "()V"), (35, .class_ 44), (1, u "java/util/Objects"), (60, .methodref 106 107), (0, .class_ 108), (0, .nameAndType 109 110), (0, u "jdk/internal/util/Preconditions"), (0, u "checkIndex"), (0, u "(IILjava/util/function/BiFunction;)I"), (60, u "(II)I")] 12

def k22m0 : Method := { name := "<init>", desc := "()V", sig := { parameters := [], returnType := none }, accessFlags := 2, code := none }
def k22c1 : Code := { maxStack := 3, maxLocals := 2, code := jdk_31_method_17_code, exceptionTable := #[], attributes := #[] }
def k22m1 : Method := { name := "checkIndex", desc := "(II)I", sig := { parameters := [.int, .int], returnType := some .int }, accessFlags := 9, code := some k22c1 }
/-- java/util/Objects -/
def k22 : Class := { plain "java/util/Objects" (some 0) with
  accessFlags := 49
  interfaces := #[]
  cf := some (fileOf pool22 42 #[] #[{ accessFlags := 2, nameIndex := 5, descriptorIndex := 6, attributes := #[] }, { accessFlags := 9, nameIndex := 109, descriptorIndex := 171, attributes := #[] }] 49 2 #[] #[])
  fields := #[]
  methods := #[k22m0, k22m1]
  instanceTypes := #[]
  staticTypes := #[]
  resolved := Array.replicate 184 none
  statics := none }

def pool23 : Array CpInfo := pool [(2, .class_ 4), (1, u "java/lang/Object"), (0, u "<init>"), (0, u "()V"), (17, .class_ 26), (1, u "jdk/internal/util/Preconditions"), (6, u "checkIndex"), (21, .class_ 56), (0, u "jdk/internal/util/Preconditions$4"), (57, .class_ 115), (0, u "jdk/internal/util/Preconditions$1"), (7, u "SIOOBE_FORMATTER"), (0, u "Ljava/util/function/BiFunction;"), (0, .class_ 126), (0, u "jdk/internal/util/Preconditions$2"), (3, u "AIOOBE_FORMATTER"), (0, .class_ 132), (0, u "jdk/internal/util/Preconditions$3"), (3, u "IOOBE_FORMATTER"), (41, u "(IILjava/util/function/BiFunction;)I")] 15

def k23m0 : Method := { name := "<init>", desc := "()V", sig := { parameters := [], returnType := none }, accessFlags := 1, code := none }
def k23c1 : Code := { maxStack := 3, maxLocals := 3, code := jdk_41_method_11_code, exceptionTable := #[], attributes := #[] }
def k23m1 : Method := { name := "checkIndex", desc := "(IILjava/util/function/BiFunction;)I", sig := { parameters := [.int, .int, (.object "java/util/function/BiFunction")], returnType := some .int }, accessFlags := 9, code := some k23c1 }
/-- jdk/internal/util/Preconditions -/
def k23 : Class := { plain "jdk/internal/util/Preconditions" (some 0) with
  accessFlags := 33
  interfaces := #[]
  cf := some (fileOf pool23 24 #[.nestMembers #[55, 131, 125, 114]] #[{ accessFlags := 1, nameIndex := 5, descriptorIndex := 6, attributes := #[] }, { accessFlags := 9, nameIndex := 33, descriptorIndex := 178, attributes := #[] }] 33 2 #[] #[{ accessFlags := 25, nameIndex := 123, descriptorIndex := 124, attributes := #[] }, { accessFlags := 25, nameIndex := 130, descriptorIndex := 124, attributes := #[] }, { accessFlags := 25, nameIndex := 136, descriptorIndex := 124, attributes := #[] }])
  fields := #[{ name := "SIOOBE_FORMATTER", type := (.object "java/util/function/BiFunction"), accessFlags := 25, slot := 0, constantValue := 0 }, { name := "AIOOBE_FORMATTER", type := (.object "java/util/function/BiFunction"), accessFlags := 25, slot := 1, constantValue := 0 }, { name := "IOOBE_FORMATTER", type := (.object "java/util/function/BiFunction"), accessFlags := 25, slot := 2, constantValue := 0 }]
  methods := #[k23m0, k23m1]
  instanceTypes := #[]
  staticTypes := #[(.object "java/util/function/BiFunction"), (.object "java/util/function/BiFunction"), (.object "java/util/function/BiFunction")]
  resolved := Array.replicate 194 none
  statics := some 2 }

def pool24 : Array CpInfo := pool [(9, u "<init>"), (6, .class_ 18), (1, u "java/lang/Object"), (0, u "()V"), (1, .class_ 23), (1, u "jdk/internal/util/ArraysSupport"), (0, u "LOG2_ARRAY_LONG_INDEX_SCALE"), (0, u "I"), (2, u "U"), (0, u "Ljdk/internal/misc/Unsafe;"), (8, u "BIG_ENDIAN"), (0, u "Z"), (8, u "LOG2_BYTE_BIT_SIZE"), (4, u "LOG2_ARRAY_INT_INDEX_SCALE"), (54, u "JLA"), (0, u "Ljdk/internal/access/JavaLangAccess;"), (11, u "LOG2_ARRAY_BOOLEAN_INDEX_SCALE"), (9, u "LOG2_ARRAY_BYTE_INDEX_SCALE"), (5, u "LOG2_ARRAY_CHAR_INDEX_SCALE"), (5, u "LOG2_ARRAY_SHORT_INDEX_SCALE"), (18, u "LOG2_ARRAY_FLOAT_INDEX_SCALE"), (24, u "LOG2_ARRAY_DOUBLE_INDEX_SCALE"), (89, u "T_BOOLEAN"), (2, u "T_CHAR"), (1, u "T_FLOAT"), (1, u "T_DOUBLE"), (1, u "T_BYTE"), (1, u "T_SHORT"), (1, u "T_INT"), (1, u "T_LONG"), (1, u "SOFT_MAX_ARRAY_LENGTH")] 83

def k24m0 : Method := { name := "<init>", desc := "()V", sig := { parameters := [], returnType := none }, accessFlags := 2, code := none }
/-- jdk/internal/util/ArraysSupport -/
def k24 : Class := { plain "jdk/internal/util/ArraysSupport" (some 0) with
  accessFlags := 33
  interfaces := #[]
  cf := some (fileOf pool24 21 #[] #[{ accessFlags := 2, nameIndex := 9, descriptorIndex := 19, attributes := #[] }] 33 16 #[] #[{ accessFlags := 24, nameIndex := 28, descriptorIndex := 29, attributes := #[] }, { accessFlags := 26, nameIndex := 38, descriptorIndex := 39, attributes := #[] }, { accessFlags := 25, nameIndex := 121, descriptorIndex := 25, attributes := #[] }, { accessFlags := 25, nameIndex := 131, descriptorIndex := 25, attributes := #[] }, { accessFlags := 25, nameIndex := 137, descriptorIndex := 25, attributes := #[] }, { accessFlags := 25, nameIndex := 143, descriptorIndex := 25, attributes := #[] }, { accessFlags := 25, nameIndex := 53, descriptorIndex := 25, attributes := #[] }, { accessFlags := 25, nameIndex := 24, descriptorIndex := 25, attributes := #[] }, { accessFlags := 25, nameIndex := 162, descriptorIndex := 25, attributes := #[] }, { accessFlags := 25, nameIndex := 187, descriptorIndex := 25, attributes := #[] }, { accessFlags := 26, nameIndex := 48, descriptorIndex := 25, attributes := #[] }, { accessFlags := 25, nameIndex := 277, descriptorIndex := 25, attributes := #[] }, { accessFlags := 25, nameIndex := 280, descriptorIndex := 25, attributes := #[] }, { accessFlags := 25, nameIndex := 282, descriptorIndex := 25, attributes := #[] }, { accessFlags := 25, nameIndex := 284, descriptorIndex := 25, attributes := #[] }, { accessFlags := 25, nameIndex := 286, descriptorIndex := 25, attributes := #[] }, { accessFlags := 25, nameIndex := 288, descriptorIndex := 25, attributes := #[] }, { accessFlags := 25, nameIndex := 290, descriptorIndex := 25, attributes := #[] }, { accessFlags := 25, nameIndex := 292, descriptorIndex := 25, attributes := #[] }, { accessFlags := 26, nameIndex := 108, descriptorIndex := 109, attributes := #[] }, { accessFlags := 25, nameIndex := 294, descriptorIndex := 25, attributes := #[] }])
  fields := #[{ name := "U", type := (.object "jdk/internal/misc/Unsafe"), accessFlags := 24, slot := 0, constantValue := 0 }, { name := "BIG_ENDIAN", type := .boolean, accessFlags := 26, slot := 1, constantValue := 0 }, { name := "LOG2_ARRAY_BOOLEAN_INDEX_SCALE", type := .int, accessFlags := 25, slot := 2, constantValue := 0 }, { name := "LOG2_ARRAY_BYTE_INDEX_SCALE", type := .int, accessFlags := 25, slot := 3, constantValue := 0 }, { name := "LOG2_ARRAY_CHAR_INDEX_SCALE", type := .int, accessFlags := 25, slot := 4, constantValue := 0 }, { name := "LOG2_ARRAY_SHORT_INDEX_SCALE", type := .int, accessFlags := 25, slot := 5, constantValue := 0 }, { name := "LOG2_ARRAY_INT_INDEX_SCALE", type := .int, accessFlags := 25, slot := 6, constantValue := 0 }, { name := "LOG2_ARRAY_LONG_INDEX_SCALE", type := .int, accessFlags := 25, slot := 7, constantValue := 0 }, { name := "LOG2_ARRAY_FLOAT_INDEX_SCALE", type := .int, accessFlags := 25, slot := 8, constantValue := 0 }, { name := "LOG2_ARRAY_DOUBLE_INDEX_SCALE", type := .int, accessFlags := 25, slot := 9, constantValue := 0 }, { name := "LOG2_BYTE_BIT_SIZE", type := .int, accessFlags := 26, slot := 10, constantValue := 0 }, { name := "T_BOOLEAN", type := .int, accessFlags := 25, slot := 11, constantValue := 0 }, { name := "T_CHAR", type := .int, accessFlags := 25, slot := 12, constantValue := 0 }, { name := "T_FLOAT", type := .int, accessFlags := 25, slot := 13, constantValue := 0 }, { name := "T_DOUBLE", type := .int, accessFlags := 25, slot := 14, constantValue := 0 }, { name := "T_BYTE", type := .int, accessFlags := 25, slot := 15, constantValue := 0 }, { name := "T_SHORT", type := .int, accessFlags := 25, slot := 16, constantValue := 0 }, { name := "T_INT", type := .int, accessFlags := 25, slot := 17, constantValue := 0 }, { name := "T_LONG", type := .int, accessFlags := 25, slot := 18, constantValue := 0 }, { name := "JLA", type := (.object "jdk/internal/access/JavaLangAccess"), accessFlags := 26, slot := 19, constantValue := 0 }, { name := "SOFT_MAX_ARRAY_LENGTH", type := .int, accessFlags := 25, slot := 20, constantValue := 0 }]
  methods := #[k24m0]
  instanceTypes := #[]
  staticTypes := #[(.object "jdk/internal/misc/Unsafe"), .boolean, .int, .int, .int, .int, .int, .int, .int, .int, .int, .int, .int, .int, .int, .int, .int, .int, .int, (.object "jdk/internal/access/JavaLangAccess"), .int]
  resolved := Array.replicate 378 none
  statics := none }

/-- the primitive byte -/
def k25 : Class := { plain "byte" none with kind := .primitive 'B', accessFlags := 0x411 }
/-- [B -/
def k26 : Class := { plain "[B" (some 0) with kind := .array 25 .byte, interfaces := #[17, 2], accessFlags := 1041 }

/-- the primitive char -/
def k27 : Class := { plain "char" none with kind := .primitive 'C', accessFlags := 0x411 }
/-- [C -/
def k28 : Class := { plain "[C" (some 0) with kind := .array 27 .char, interfaces := #[17, 2], accessFlags := 1041 }

/-- [Ljava/lang/Object; -/
def k29 : Class := { plain "[Ljava/lang/Object;" (some 0) with kind := .array 0 (.object "java/lang/Object"), interfaces := #[17, 2], accessFlags := 1041 }

def heap : Heap := #[{ cls := 7, slots := #[.long 0, .int 1, .null, .int 0, .null, .int 0, .int 0], vm := .statics 7 },
  { cls := 18, slots := #[.long 0, .int 0, .ref 3, .ref 4], vm := .statics 18 },
  { cls := 23, slots := #[.null, .null, .null], vm := .statics 23 },
  { cls := 29, slots := #[], vm := .none },
  { cls := 29, slots := #[], vm := .none }]
def classes : Array Class := #[k0, k1, k2, k3, k4, k5, k6, k7, k8, k9, k10, k11, k12, k13, k14, k15, k16, k17, k18, k19, k20, k21, k22, k23, k24, k25, k26, k27, k28, k29]
def interned : List (Array UInt16 × Addr) := []
def slotsUsed : Nat := 14
def theMethod : MethodId := ⟨1, 1⟩
def args0 : Array Value := #[.int 5, .int 5, .int 5, .int 5, .int 5]
def aboutOver (below : List Frame) : State where
  vm := { classes := classes, interned := interned.toArray }
  heap := heap
  slotsUsed := slotsUsed
  threads := #[{ frames := .invoking theMethod args0 :: below }]
def below0 : List Frame := [.native { method := ⟨0, 0⟩, args := #[] }]
def about1 : State := aboutOver below0
def p0 : Program := .bare "" "" ""
def e0 : Env := launch0.env 0 0 0
theorem w_frames : about1.frames = Frame.invoking theMethod args0 :: below0 := rfl
set_option maxRecDepth 65536 in
theorem w_args : argsFit about1.vm theMethod args0 = true := by decide +kernel
set_option maxRecDepth 65536 in
theorem w_heap : heapFits about1 = true := by decide +kernel
set_option maxRecDepth 65536 in
theorem w_runnable : about1.curStatus? = some .runnable := by decide +kernel
set_option maxRecDepth 65536 in
theorem w_alone : about1.alone = true := by decide +kernel
set_option maxRecDepth 65536 in
theorem w_named : about1.methodNamed? x = some theMethod := by decide +kernel
set_option maxRecDepth 65536 in
theorem w_hears : about1.hears theMethod below0 = true := by decide +kernel
set_option maxRecDepth 65536 in
theorem w_ripe : about1.ripe theMethod args0 below0 = true := by decide +kernel
theorem w_running : about1.status = .running := rfl
set_option maxRecDepth 65536 in
theorem w_room : about1.hasRoom e0.platform room_1 = true :=
  launch0.hasRoom_least _ room_1 (by decide +kernel) (by decide +kernel) (by decide +kernel) (by decide +kernel) (by decide +kernel) (by decide +kernel)
theorem allAtoms_all (ts : List Jvm.Cond) (a : Array Jvm.Value) (st : Jvm.State) : (allAtoms ts).before a st = ts.all (fun c => c.before a st) := by
  induction ts with
  | nil => rfl
  | cons c t ih =>
    show (Jvm.Cond.and c (allAtoms t)).before a st = _
    rw [Jvm.Cond.before_and, ih, List.all_cons]
def words1 : List Jvm.Cond := Jvm.Cond.code x code maxLocals ret :: tables_1
/-- a 'code' word, met by the world's own term for the bytes: nothing is compared byte by byte -/
theorem code_word {y : MethodName} {bytes : ByteArray} {mx : Nat} {rt : Option FieldType} {a : Array Value} {s : State} {m : MethodId} {meth : Method} {c : Code} (h1 : s.methodNamed? y = some m) (h2 : s.vm.method? m = some meth) (h3 : meth.code = some c) (h4 : c.code = bytes)
    (h5 : (c.maxLocals == mx && c.exceptionTable.isEmpty && decide (c.maxStack ≤ mostOperands) && decide (meth.sig.returnType = rt) && !meth.locks && decide (parseMethodDescriptor y.desc = some meth.sig)) = true) : (Jvm.Cond.code y bytes mx rt).before a s = true := by
  simp only [Bool.and_eq_true, beq_iff_eq, Bool.not_eq_true', decide_eq_true_eq] at h5
  obtain ⟨⟨⟨⟨⟨g1, g2⟩, g3⟩, g4⟩, g5⟩, g6⟩ := h5
  simp [Cond.before, Cond.holds, Cond.value, h1, h2, h3, h4, g1, g2, g3, g4, g5, g6]
def isCode : Jvm.Cond → Bool
  | .code _ _ _ _ => true
  | _ => false
theorem all_split {L : List Jvm.Cond} {P : Jvm.Cond → Bool} (h1 : L.all (fun c => isCode c || P c) = true) (h2 : ∀ c ∈ L.filter isCode, P c = true) : L.all P = true := by
  refine List.all_eq_true.mpr fun c hc => ?_
  have h := List.all_eq_true.mp h1 c hc
  rcases Bool.eq_false_or_eq_true (isCode c) with hi | hi
  · exact h2 c (List.mem_filter.mpr ⟨hc, hi⟩)
  · simpa [hi] using h
set_option maxRecDepth 65536 in
theorem w_c0 : (Jvm.Cond.code x code maxLocals ret).before args0 about1 = true := code_word (m := ⟨1, 1⟩) (meth := k1m1) (c := k1c1) (by decide +kernel) rfl rfl rfl (by decide +kernel)
set_option maxRecDepth 65536 in
theorem w_c1 : (Jvm.Cond.code ({ cls := "java/lang/String", name := "valueOf", desc := "(C)Ljava/lang/String;" } : Jvm.MethodName) jdk_42_method_139_code (1 : Nat) (Option.some (Jvm.ClassFile.FieldType.object "java/lang/String"))).before args0 about1 = true := code_word (m := ⟨7, 3⟩) (meth := k7m3) (c := k7c3) (by decide +kernel) rfl rfl rfl (by decide +kernel)
set_option maxRecDepth 65536 in
theorem w_c2 : (Jvm.Cond.code ({ cls := "java/lang/StringLatin1", name := "canEncode", desc := "(C)Z" } : Jvm.MethodName) jdk_43_method_3_code (1 : Nat) (Option.some Jvm.ClassFile.FieldType.boolean)).before args0 about1 = true := code_word (m := ⟨8, 1⟩) (meth := k8m1) (c := k8c1) (by decide +kernel) rfl rfl rfl (by decide +kernel)
set_option maxRecDepth 65536 in
theorem w_c3 : (Jvm.Cond.code ({ cls := "java/lang/StringLatin1", name := "toBytes", desc := "(C)[B" } : Jvm.MethodName) jdk_43_method_46_code (1 : Nat) (Option.some (Jvm.ClassFile.FieldType.array Jvm.ClassFile.FieldType.byte))).before args0 about1 = true := code_word (m := ⟨8, 2⟩) (meth := k8m2) (c := k8c2) (by decide +kernel) rfl rfl rfl (by decide +kernel)
set_option maxRecDepth 65536 in
theorem w_c4 : (Jvm.Cond.code ({ cls := "java/lang/String", name := "<init>", desc := "([BB)V" } : Jvm.MethodName) jdk_42_method_151_code (3 : Nat) (Option.none : Option Jvm.ClassFile.FieldType)).before args0 about1 = true := code_word (m := ⟨7, 5⟩) (meth := k7m5) (c := k7c5) (by decide +kernel) rfl rfl rfl (by decide +kernel)
set_option maxRecDepth 65536 in
theorem w_c5 : (Jvm.Cond.code ({ cls := "java/lang/Object", name := "<init>", desc := "()V" } : Jvm.MethodName) object_method_1_code (1 : Nat) (Option.none : Option Jvm.ClassFile.FieldType)).before args0 about1 = true := code_word (m := ⟨0, 0⟩) (meth := k0m0) (c := k0c0) (by decide +kernel) rfl rfl rfl (by decide +kernel)
set_option maxRecDepth 65536 in
theorem w_c6 : (Jvm.Cond.code ({ cls := "java/lang/String", name := "<init>", desc := "([C)V" } : Jvm.MethodName) jdk_42_method_3_code (2 : Nat) (Option.none : Option Jvm.ClassFile.FieldType)).before args0 about1 = true := code_word (m := ⟨7, 1⟩) (meth := k7m1) (c := k7c1) (by decide +kernel) rfl rfl rfl (by decide +kernel)
set_option maxRecDepth 65536 in
theorem w_c7 : (Jvm.Cond.code ({ cls := "java/lang/String", name := "<init>", desc := "([CIILjava/lang/Void;)V" } : Jvm.MethodName) jdk_42_method_149_code (6 : Nat) (Option.none : Option Jvm.ClassFile.FieldType)).before args0 about1 = true := code_word (m := ⟨7, 4⟩) (meth := k7m4) (c := k7c4) (by decide +kernel) rfl rfl rfl (by decide +kernel)
set_option maxRecDepth 65536 in
theorem w_c8 : (Jvm.Cond.code ({ cls := "java/lang/StringUTF16", name := "compress", desc := "([CII)[B" } : Jvm.MethodName) jdk_52_method_16_code (6 : Nat) (Option.some (Jvm.ClassFile.FieldType.array Jvm.ClassFile.FieldType.byte))).before args0 about1 = true := code_word (m := ⟨9, 2⟩) (meth := k9m2) (c := k9c2) (by decide +kernel) rfl rfl rfl (by decide +kernel)
set_option maxRecDepth 65536 in
theorem w_c9 : (Jvm.Cond.code ({ cls := "java/lang/StringUTF16", name := "compress", desc := "([CI[BII)I" } : Jvm.MethodName) jdk_52_method_21_code (7 : Nat) (Option.some Jvm.ClassFile.FieldType.int)).before args0 about1 = true := code_word (m := ⟨9, 3⟩) (meth := k9m3) (c := k9c3) (by decide +kernel) rfl rfl rfl (by decide +kernel)
set_option maxRecDepth 65536 in
theorem w_c10 : (Jvm.Cond.code ({ cls := "java/lang/StringUTF16", name := "coderFromArrayLen", desc := "([BI)B" } : Jvm.MethodName) jdk_52_method_15_code (2 : Nat) (Option.some Jvm.ClassFile.FieldType.byte)).before args0 about1 = true := code_word (m := ⟨9, 1⟩) (meth := k9m1) (c := k9c1) (by decide +kernel) rfl rfl rfl (by decide +kernel)
set_option maxRecDepth 65536 in
theorem w_c11 : (Jvm.Cond.code ({ cls := "java/util/ArrayList", name := "<init>", desc := "()V" } : Jvm.MethodName) jdk_38_method_2_code (1 : Nat) (Option.none : Option Jvm.ClassFile.FieldType)).before args0 about1 = true := code_word (m := ⟨18, 0⟩) (meth := k18m0) (c := k18c0) (by decide +kernel) rfl rfl rfl (by decide +kernel)
set_option maxRecDepth 65536 in
theorem w_c12 : (Jvm.Cond.code ({ cls := "java/util/AbstractList", name := "<init>", desc := "()V" } : Jvm.MethodName) jdk_39_method_1_code (1 : Nat) (Option.none : Option Jvm.ClassFile.FieldType)).before args0 about1 = true := code_word (m := ⟨15, 0⟩) (meth := k15m0) (c := k15c0) (by decide +kernel) rfl rfl rfl (by decide +kernel)
set_option maxRecDepth 65536 in
theorem w_c13 : (Jvm.Cond.code ({ cls := "java/util/AbstractCollection", name := "<init>", desc := "()V" } : Jvm.MethodName) jdk_22_method_1_code (1 : Nat) (Option.none : Option Jvm.ClassFile.FieldType)).before args0 about1 = true := code_word (m := ⟨12, 0⟩) (meth := k12m0) (c := k12c0) (by decide +kernel) rfl rfl rfl (by decide +kernel)
set_option maxRecDepth 65536 in
theorem w_c14 : (Jvm.Cond.code ({ cls := "java/util/ArrayList", name := "add", desc := "(Ljava/lang/Object;)Z" } : Jvm.MethodName) jdk_38_method_25_code (2 : Nat) (Option.some Jvm.ClassFile.FieldType.boolean)).before args0 about1 = true := code_word (m := ⟨18, 6⟩) (meth := k18m6) (c := k18c6) (by decide +kernel) rfl rfl rfl (by decide +kernel)
set_option maxRecDepth 65536 in
theorem w_c15 : (Jvm.Cond.code ({ cls := "java/util/ArrayList", name := "add", desc := "(Ljava/lang/Object;[Ljava/lang/Object;I)V" } : Jvm.MethodName) jdk_38_method_24_code (4 : Nat) (Option.none : Option Jvm.ClassFile.FieldType)).before args0 about1 = true := code_word (m := ⟨18, 5⟩) (meth := k18m5) (c := k18c5) (by decide +kernel) rfl rfl rfl (by decide +kernel)
set_option maxRecDepth 65536 in
theorem w_c16 : (Jvm.Cond.code ({ cls := "java/util/ArrayList", name := "grow", desc := "()[Ljava/lang/Object;" } : Jvm.MethodName) jdk_38_method_7_code (1 : Nat) (Option.some (Jvm.ClassFile.FieldType.array (Jvm.ClassFile.FieldType.object "java/lang/Object")))).before args0 about1 = true := code_word (m := ⟨18, 2⟩) (meth := k18m2) (c := k18c2) (by decide +kernel) rfl rfl rfl (by decide +kernel)
set_option maxRecDepth 65536 in
theorem w_c17 : (Jvm.Cond.code ({ cls := "java/util/ArrayList", name := "grow", desc := "(I)[Ljava/lang/Object;" } : Jvm.MethodName) jdk_38_method_6_code (4 : Nat) (Option.some (Jvm.ClassFile.FieldType.array (Jvm.ClassFile.FieldType.object "java/lang/Object")))).before args0 about1 = true := code_word (m := ⟨18, 1⟩) (meth := k18m1) (c := k18c1) (by decide +kernel) rfl rfl rfl (by decide +kernel)
set_option maxRecDepth 65536 in
theorem w_c18 : (Jvm.Cond.code ({ cls := "java/lang/Math", name := "max", desc := "(II)I" } : Jvm.MethodName) jdk_29_method_65_code (2 : Nat) (Option.some Jvm.ClassFile.FieldType.int)).before args0 about1 = true := code_word (m := ⟨19, 1⟩) (meth := k19m1) (c := k19c1) (by decide +kernel) rfl rfl rfl (by decide +kernel)
set_option maxRecDepth 65536 in
theorem w_c19 : (Jvm.Cond.code ({ cls := "com/example/rowscribe/rowscribe/cli/CommandLine", name := "<init>", desc := "(Ljava/util/List;Ljava/util/Map;)V" } : Jvm.MethodName) prog_19_method_1_code (3 : Nat) (Option.none : Option Jvm.ClassFile.FieldType)).before args0 about1 = true := code_word (m := ⟨21, 0⟩) (meth := k21m0) (c := k21c0) (by decide +kernel) rfl rfl rfl (by decide +kernel)
set_option maxRecDepth 65536 in
theorem w_c20 : (Jvm.Cond.code ({ cls := "java/lang/Record", name := "<init>", desc := "()V" } : Jvm.MethodName) jdk_30_method_1_code (1 : Nat) (Option.none : Option Jvm.ClassFile.FieldType)).before args0 about1 = true := code_word (m := ⟨20, 0⟩) (meth := k20m0) (c := k20c0) (by decide +kernel) rfl rfl rfl (by decide +kernel)
set_option maxRecDepth 65536 in
theorem w_c21 : (Jvm.Cond.code ({ cls := "com/example/rowscribe/rowscribe/cli/CommandLine", name := "word", desc := "(I)Ljava/lang/String;" } : Jvm.MethodName) prog_19_method_4_code (2 : Nat) (Option.some (Jvm.ClassFile.FieldType.object "java/lang/String"))).before args0 about1 = true := code_word (m := ⟨21, 1⟩) (meth := k21m1) (c := k21c1) (by decide +kernel) rfl rfl rfl (by decide +kernel)
set_option maxRecDepth 65536 in
theorem w_c22 : (Jvm.Cond.code ({ cls := "java/util/ArrayList", name := "get", desc := "(I)Ljava/lang/Object;" } : Jvm.MethodName) jdk_38_method_20_code (2 : Nat) (Option.some (Jvm.ClassFile.FieldType.object "java/lang/Object"))).before args0 about1 = true := code_word (m := ⟨18, 4⟩) (meth := k18m4) (c := k18c4) (by decide +kernel) rfl rfl rfl (by decide +kernel)
set_option maxRecDepth 65536 in
theorem w_c23 : (Jvm.Cond.code ({ cls := "java/util/Objects", name := "checkIndex", desc := "(II)I" } : Jvm.MethodName) jdk_31_method_17_code (2 : Nat) (Option.some Jvm.ClassFile.FieldType.int)).before args0 about1 = true := code_word (m := ⟨22, 1⟩) (meth := k22m1) (c := k22c1) (by decide +kernel) rfl rfl rfl (by decide +kernel)
set_option maxRecDepth 65536 in
theorem w_c24 : (Jvm.Cond.code ({ cls := "jdk/internal/util/Preconditions", name := "checkIndex", desc := "(IILjava/util/function/BiFunction;)I" } : Jvm.MethodName) jdk_41_method_11_code (3 : Nat) (Option.some Jvm.ClassFile.FieldType.int)).before args0 about1 = true := code_word (m := ⟨23, 1⟩) (meth := k23m1) (c := k23c1) (by decide +kernel) rfl rfl rfl (by decide +kernel)
set_option maxRecDepth 65536 in
theorem w_c25 : (Jvm.Cond.code ({ cls := "java/util/ArrayList", name := "elementData", desc := "(I)Ljava/lang/Object;" } : Jvm.MethodName) jdk_38_method_18_code (2 : Nat) (Option.some (Jvm.ClassFile.FieldType.object "java/lang/Object"))).before args0 about1 = true := code_word (m := ⟨18, 3⟩) (meth := k18m3) (c := k18c3) (by decide +kernel) rfl rfl rfl (by decide +kernel)
set_option maxRecDepth 65536 in
theorem w_c26 : (Jvm.Cond.code ({ cls := "java/lang/String", name := "equals", desc := "(Ljava/lang/Object;)Z" } : Jvm.MethodName) jdk_42_method_66_code (3 : Nat) (Option.some Jvm.ClassFile.FieldType.boolean)).before args0 about1 = true := code_word (m := ⟨7, 2⟩) (meth := k7m2) (c := k7c2) (by decide +kernel) rfl rfl rfl (by decide +kernel)
def codes1 : List Jvm.Cond := [Jvm.Cond.code x code maxLocals ret, Jvm.Cond.code ({ cls := "java/lang/String", name := "valueOf", desc := "(C)Ljava/lang/String;" } : Jvm.MethodName) jdk_42_method_139_code (1 : Nat) (Option.some (Jvm.ClassFile.FieldType.object "java/lang/String")), Jvm.Cond.code ({ cls := "java/lang/StringLatin1", name := "canEncode", desc := "(C)Z" } : Jvm.MethodName) jdk_43_method_3_code (1 : Nat) (Option.some Jvm.ClassFile.FieldType.boolean), Jvm.Cond.code ({ cls := "java/lang/StringLatin1", name := "toBytes", desc := "(C)[B" } : Jvm.MethodName) jdk_43_method_46_code (1 : Nat) (Option.some (Jvm.ClassFile.FieldType.array Jvm.ClassFile.FieldType.byte)), Jvm.Cond.code ({ cls := "java/lang/String", name := "<init>", desc := "([BB)V" } : Jvm.MethodName) jdk_42_method_151_code (3 : Nat) (Option.none : Option Jvm.ClassFile.FieldType), Jvm.Cond.code ({ cls := "java/lang/Object", name := "<init>", desc := "()V" } : Jvm.MethodName) object_method_1_code (1 : Nat) (Option.none : Option Jvm.ClassFile.FieldType), Jvm.Cond.code ({ cls := "java/lang/String", name := "<init>", desc := "([C)V" } : Jvm.MethodName) jdk_42_method_3_code (2 : Nat) (Option.none : Option Jvm.ClassFile.FieldType), Jvm.Cond.code ({ cls := "java/lang/String", name := "<init>", desc := "([CIILjava/lang/Void;)V" } : Jvm.MethodName) jdk_42_method_149_code (6 : Nat) (Option.none : Option Jvm.ClassFile.FieldType), Jvm.Cond.code ({ cls := "java/lang/StringUTF16", name := "compress", desc := "([CII)[B" } : Jvm.MethodName) jdk_52_method_16_code (6 : Nat) (Option.some (Jvm.ClassFile.FieldType.array Jvm.ClassFile.FieldType.byte)), Jvm.Cond.code ({ cls := "java/lang/StringUTF16", name := "compress", desc := "([CI[BII)I" } : Jvm.MethodName) jdk_52_method_21_code (7 : Nat) (Option.some Jvm.ClassFile.FieldType.int), Jvm.Cond.code ({ cls := "java/lang/StringUTF16", name := "coderFromArrayLen", desc := "([BI)B" } : Jvm.MethodName) jdk_52_method_15_code (2 : Nat) (Option.some Jvm.ClassFile.FieldType.byte), Jvm.Cond.code ({ cls := "java/util/ArrayList", name := "<init>", desc := "()V" } : Jvm.MethodName) jdk_38_method_2_code (1 : Nat) (Option.none : Option Jvm.ClassFile.FieldType), Jvm.Cond.code ({ cls := "java/util/AbstractList", name := "<init>", desc := "()V" } : Jvm.MethodName) jdk_39_method_1_code (1 : Nat) (Option.none : Option Jvm.ClassFile.FieldType), Jvm.Cond.code ({ cls := "java/util/AbstractCollection", name := "<init>", desc := "()V" } : Jvm.MethodName) jdk_22_method_1_code (1 : Nat) (Option.none : Option Jvm.ClassFile.FieldType), Jvm.Cond.code ({ cls := "java/util/ArrayList", name := "add", desc := "(Ljava/lang/Object;)Z" } : Jvm.MethodName) jdk_38_method_25_code (2 : Nat) (Option.some Jvm.ClassFile.FieldType.boolean), Jvm.Cond.code ({ cls := "java/util/ArrayList", name := "add", desc := "(Ljava/lang/Object;[Ljava/lang/Object;I)V" } : Jvm.MethodName) jdk_38_method_24_code (4 : Nat) (Option.none : Option Jvm.ClassFile.FieldType), Jvm.Cond.code ({ cls := "java/util/ArrayList", name := "grow", desc := "()[Ljava/lang/Object;" } : Jvm.MethodName) jdk_38_method_7_code (1 : Nat) (Option.some (Jvm.ClassFile.FieldType.array (Jvm.ClassFile.FieldType.object "java/lang/Object"))), Jvm.Cond.code ({ cls := "java/util/ArrayList", name := "grow", desc := "(I)[Ljava/lang/Object;" } : Jvm.MethodName) jdk_38_method_6_code (4 : Nat) (Option.some (Jvm.ClassFile.FieldType.array (Jvm.ClassFile.FieldType.object "java/lang/Object"))), Jvm.Cond.code ({ cls := "java/lang/Math", name := "max", desc := "(II)I" } : Jvm.MethodName) jdk_29_method_65_code (2 : Nat) (Option.some Jvm.ClassFile.FieldType.int), Jvm.Cond.code ({ cls := "com/example/rowscribe/rowscribe/cli/CommandLine", name := "<init>", desc := "(Ljava/util/List;Ljava/util/Map;)V" } : Jvm.MethodName) prog_19_method_1_code (3 : Nat) (Option.none : Option Jvm.ClassFile.FieldType), Jvm.Cond.code ({ cls := "java/lang/Record", name := "<init>", desc := "()V" } : Jvm.MethodName) jdk_30_method_1_code (1 : Nat) (Option.none : Option Jvm.ClassFile.FieldType), Jvm.Cond.code ({ cls := "com/example/rowscribe/rowscribe/cli/CommandLine", name := "word", desc := "(I)Ljava/lang/String;" } : Jvm.MethodName) prog_19_method_4_code (2 : Nat) (Option.some (Jvm.ClassFile.FieldType.object "java/lang/String")), Jvm.Cond.code ({ cls := "java/util/ArrayList", name := "get", desc := "(I)Ljava/lang/Object;" } : Jvm.MethodName) jdk_38_method_20_code (2 : Nat) (Option.some (Jvm.ClassFile.FieldType.object "java/lang/Object")), Jvm.Cond.code ({ cls := "java/util/Objects", name := "checkIndex", desc := "(II)I" } : Jvm.MethodName) jdk_31_method_17_code (2 : Nat) (Option.some Jvm.ClassFile.FieldType.int), Jvm.Cond.code ({ cls := "jdk/internal/util/Preconditions", name := "checkIndex", desc := "(IILjava/util/function/BiFunction;)I" } : Jvm.MethodName) jdk_41_method_11_code (3 : Nat) (Option.some Jvm.ClassFile.FieldType.int), Jvm.Cond.code ({ cls := "java/util/ArrayList", name := "elementData", desc := "(I)Ljava/lang/Object;" } : Jvm.MethodName) jdk_38_method_18_code (2 : Nat) (Option.some (Jvm.ClassFile.FieldType.object "java/lang/Object")), Jvm.Cond.code ({ cls := "java/lang/String", name := "equals", desc := "(Ljava/lang/Object;)Z" } : Jvm.MethodName) jdk_42_method_66_code (3 : Nat) (Option.some Jvm.ClassFile.FieldType.boolean)]
set_option maxRecDepth 65536 in
theorem codes_eq : words1.filter isCode = codes1 := rfl
theorem w_codes : ∀ c ∈ words1.filter isCode, c.before args0 about1 = true := by
  rw [codes_eq]
  intro c hc
  simp only [codes1, List.mem_cons, List.not_mem_nil, or_false] at hc
  rcases hc with rfl | rfl | rfl | rfl | rfl | rfl | rfl | rfl | rfl | rfl | rfl | rfl | rfl | rfl | rfl | rfl | rfl | rfl | rfl | rfl | rfl | rfl | rfl | rfl | rfl | rfl | rfl
  · exact w_c0
  · exact w_c1
  · exact w_c2
  · exact w_c3
  · exact w_c4
  · exact w_c5
  · exact w_c6
  · exact w_c7
  · exact w_c8
  · exact w_c9
  · exact w_c10
  · exact w_c11
  · exact w_c12
  · exact w_c13
  · exact w_c14
  · exact w_c15
  · exact w_c16
  · exact w_c17
  · exact w_c18
  · exact w_c19
  · exact w_c20
  · exact w_c21
  · exact w_c22
  · exact w_c23
  · exact w_c24
  · exact w_c25
  · exact w_c26
set_option maxRecDepth 65536 in
theorem w_t1 : (words1.take 24).all (fun c => isCode c || c.before args0 about1) = true := by decide +kernel
set_option maxRecDepth 65536 in
theorem w_t2 : ((words1.drop 24).take 24).all (fun c => isCode c || c.before args0 about1) = true := by decide +kernel
set_option maxRecDepth 65536 in
theorem w_t3 : (((words1.drop 24).drop 24).take 24).all (fun c => isCode c || c.before args0 about1) = true := by decide +kernel
set_option maxRecDepth 65536 in
theorem w_t4 : ((((words1.drop 24).drop 24).drop 24).take 24).all (fun c => isCode c || c.before args0 about1) = true := by decide +kernel
set_option maxRecDepth 65536 in
theorem w_t5 : (((((words1.drop 24).drop 24).drop 24).drop 24).take 24).all (fun c => isCode c || c.before args0 about1) = true := by decide +kernel
set_option maxRecDepth 65536 in
theorem w_t6 : ((((((words1.drop 24).drop 24).drop 24).drop 24).drop 24).take 24).all (fun c => isCode c || c.before args0 about1) = true := by decide +kernel
set_option maxRecDepth 65536 in
theorem w_t7 : ((((((words1.drop 24).drop 24).drop 24).drop 24).drop 24).drop 24).all (fun c => isCode c || c.before args0 about1) = true := by decide +kernel
theorem w_tables : (allAtoms (Jvm.Cond.code x code maxLocals ret :: tables_1)).before args0 about1 = true := by
  rw [allAtoms_all]
  show words1.all (fun c => c.before args0 about1) = true
  refine all_split ?_ w_codes
  rw [← List.take_append_drop 24 words1, List.all_append, w_t1, ← List.take_append_drop 24 (words1.drop 24), List.all_append, w_t2, ← List.take_append_drop 24 ((words1.drop 24).drop 24), List.all_append, w_t3, ← List.take_append_drop 24 (((words1.drop 24).drop 24).drop 24), List.all_append, w_t4, ← List.take_append_drop 24 ((((words1.drop 24).drop 24).drop 24).drop 24), List.all_append, w_t5, ← List.take_append_drop 24 (((((words1.drop 24).drop 24).drop 24).drop 24).drop 24), List.all_append, w_t6, w_t7]
  rfl
set_option maxRecDepth 65536 in
theorem w_rest : rest_1_c.before args0 about1 = true := by decide +kernel
set_option maxRecDepth 65536 in
theorem w_case : (Jvm.Cond.and given_1 narrow_1).before args0 about1 = true := by decide +kernel
theorem w_applies : (headSpec (Jvm.Cond.code x code maxLocals ret :: tables_1) room_1).applies x e0.platform about1 = true :=
  (Spec.applies_iff w_frames).mpr ⟨w_running, w_runnable, w_alone, w_named, w_hears, w_ripe, w_room, w_tables⟩
theorem atStart : AtStart classFile x code maxLocals ret World_1 tables_1 room_1 Calls_1 rest_1 Pre_1 launch0 p0 e0 about1 theMethod args0 below0 :=
  ⟨lists_1, trivial, launch0.admits_env _ _ _, launch0.least_env, fairChoices_fair.cas, fairChoices_fair.clock, w_frames, w_args, w_heap, w_applies, trivial, w_rest, w_case⟩
end start1
theorem witness_1 : WitnessClaimed_1 := ⟨start1.p0, start1.e0, start1.about1, start1.theMethod, start1.args0, start1.below0, start1.atStart⟩
end Jvm.Pilot.@@N@@
