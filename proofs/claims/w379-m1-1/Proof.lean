import JvmDerived
import JvmDerived.Pilot.@@N@@Statement
import JvmDerived.Pilot.@@N@@Code
set_option linter.unusedVariables false
set_option linter.unusedSimpArgs false
namespace Jvm.RoadKit
open Sem ClassFile Op Lib Jvm.Stand Jvm.Free Jvm.LawKit
section New
variable {p : Program} {l : Launch} {e : Env} {R : Room} {s : State} {m : MethodId} {args : Array Value} {below : List Frame} {meth : Method} {c : Code} {T : State} {locs : List Loc} {cells slots : Nat}
theorem retI (X : Stand p l e R s m args below meth c T locs cells slots) (hx : p.tables.exec = Jvm.exec) {pc : Nat} {Ls : Array Slot} {z : Int32} {rest : List Value} (hret : meth.sig.returnType = some .int) (hd : decode c.code pc = .ok (.ireturn, 1)) {fs : List Frame}
    (hl : ∀ (f : JFrame) (acts : List Action), f.method = m → f.locked = none → f.entered = [] → (doReturn e (T.setTop f) acts (some (.int z))).1 = T.setFrames fs) : Steps p.tables e below (T.setTop (mkF m pc Ls (.int z :: rest))) (T.setFrames fs) := by
  have hm' : T.vm.method? m = some meth := X.method'
  have hn : narrow .int (.int z) = .int z := rfl
  show Steps p.tables e below (T.setTop { method := m, pc := pc, locals := Ls, stack := _ :: rest, locked := none }) _
  jvm_step X.here [X.here.top, hx, hd, hm', hret, hn]
  first | (intro acts; rw [hl _ acts rfl rfl rfl]) | rw [hl _ _ rfl rfl rfl]
  exact Steps.refl _
end New
end Jvm.RoadKit
/- laws to paste: Road.backV, Road.codOf, Road.eqW (cut by pick.py; bodies as the Statement names them) -/
namespace Jvm.Pilot.@@N@@
namespace StrChars
open Jvm Sem ClassFile Op Lib Jvm.Stand Jvm.Free.XT Jvm.Free.ALB Jvm.Free.JM Jvm.Free
open Jvm.Lib.Cold (StaticIs)
/-- a char array whose places are chars -/
def Ch (a : Addr) (A : Cell) (U : State) : Prop := Arr .char a A U ∧ Typed .char A
theorem Ch.mv {a : Addr} {A : Cell} {U U' : State} (h : Ch a A U) (hal : U.vm.Alike U'.vm) (hh : U'.heap = U.heap) : Ch a A U' := ⟨h.1.mv hal hh, h.2⟩
theorem Ch.keep {a : Addr} {A : Cell} {U U' : State} (h : Ch a A U) (hal : U.vm.Alike U'.vm) (hk : U'.heap[a]? = some A) : Ch a A U' := ⟨h.1.keep hal hk, h.2⟩
/-- what place i of a char[]'s cell holds -/
def cv (A : Cell) (i : Nat) : Int32 := match A.slots[i]? with | some (.int x) => x | _ => 0
theorem Ch.get {a : Addr} {A : Cell} {U : State} (h : Ch a A U) {i : Nat} (hi : i < A.slots.size) : A.slots[i]? = some (.int (cv A i)) := by
  have e := Array.getElem?_eq_getElem hi
  have f := h.2 i _ e
  unfold cv; rw [e]
  generalize A.slots[i] = v at f
  cases v <;> simp [fits] at f ⊢
/-- the byte that i2b leaves of a char -/
def lo8 (x : Int32) : Int32 := x.toInt8.toInt32
theorem fits_lo8 (y : Int32) : fits .byte (.int (lo8 y)) = true := by
  have h1 := y.toInt8.le_toInt
  have h2 := y.toInt8.toInt_lt
  simp only [lo8, fits, Bool.and_eq_true, decide_eq_true_eq, Int32.le_iff_toInt_le, Int8.toInt_toInt32, show (-128 : Int32).toInt = -128 from by decide, show (127 : Int32).toInt = 127 from by decide]
  omega
/-- A' is A but that each place j of lo .. hi - 1 holds f j -/
def Laid (A A' : Cell) (lo hi : Nat) (f : Nat → Value) : Prop := A'.cls = A.cls ∧ A'.vm = A.vm ∧ A'.slots.size = A.slots.size ∧ ∀ i, A'.slots[i]? = if lo ≤ i ∧ i < hi then some (f i) else A.slots[i]?
theorem Laid.zero (A : Cell) (lo : Nat) (f : Nat → Value) : Laid A A lo (lo + 0) f := ⟨rfl, rfl, rfl, fun i => by rw [if_neg (by omega)]⟩
theorem Laid.step {A Ak : Cell} {lo k : Nat} {f : Nat → Value} {v : Value} (h : Laid A Ak lo k f) (hlo : lo ≤ k) (hk : k < Ak.slots.size) (hv : v = f k) : Laid A (Ak.setSlot k v) lo (k + 1) f := by
  refine ⟨h.1, h.2.1, by simpa [Cell.setSlot] using h.2.2.1, fun i => ?_⟩
  by_cases e : k = i
  · subst e; rw [Cell.slots_setSlot_self v hk, if_pos (by omega), hv]
  · rw [Cell.slots_setSlot_ne v e, h.2.2.2 i]
    by_cases q : lo ≤ i ∧ i < k
    · rw [if_pos q, if_pos (by omega)]
    · rw [if_neg q, if_neg (by omega)]
def U16 : String := "java/lang/StringUTF16"
namespace Cmp5
def yN : MethodName := ⟨"java/lang/StringUTF16", "compress", "([CI[BII)I"⟩
abbrev yB : ByteArray := jdk_52_method_21_code
theorem d0 : decode yB 0 = .ok (.iconst 0, 1) := by decide +kernel
theorem d1 : decode yB 1 = .ok (.istore 5, 2) := by decide +kernel
theorem d3 : decode yB 3 = .ok (.iload 5, 2) := by decide +kernel
theorem d5 : decode yB 5 = .ok (.iload 4, 2) := by decide +kernel
theorem d7 : decode yB 7 = .ok (.if_icmp (.ge) 37, 3) := by decide +kernel
theorem d10 : decode yB 10 = .ok (.aload_n 0, 1) := by decide +kernel
theorem d11 : decode yB 11 = .ok (.iload_n 1, 1) := by decide +kernel
theorem d12 : decode yB 12 = .ok (.caload, 1) := by decide +kernel
theorem d13 : decode yB 13 = .ok (.istore 6, 2) := by decide +kernel
theorem d15 : decode yB 15 = .ok (.iload 6, 2) := by decide +kernel
theorem d17 : decode yB 17 = .ok (.sipush 255, 3) := by decide +kernel
theorem d20 : decode yB 20 = .ok (.if_icmp (.le) 6, 3) := by decide +kernel
theorem d26 : decode yB 26 = .ok (.aload_n 2, 1) := by decide +kernel
theorem d27 : decode yB 27 = .ok (.iload_n 3, 1) := by decide +kernel
theorem d28 : decode yB 28 = .ok (.iload 6, 2) := by decide +kernel
theorem d30 : decode yB 30 = .ok (.i2b, 1) := by decide +kernel
theorem d31 : decode yB 31 = .ok (.bastore, 1) := by decide +kernel
theorem d32 : decode yB 32 = .ok (.iinc 1 1, 3) := by decide +kernel
theorem d35 : decode yB 35 = .ok (.iinc 3 1, 3) := by decide +kernel
theorem d38 : decode yB 38 = .ok (.iinc 5 1, 3) := by decide +kernel
theorem d41 : decode yB 41 = .ok (.goto (-38), 3) := by decide +kernel
theorem d44 : decode yB 44 = .ok (.iload 4, 2) := by decide +kernel
theorem d46 : decode yB 46 = .ok (.ireturn, 1) := by decide +kernel
def site : List Cond := []
def tab : Cond := tabOf yN yB 7 (some .int) site
def P (b : Addr) (A : Cell) (d : Addr) (B : Cell) (o q len : Nat) (args : Array Value) (s : State) : Prop := args = #[.ref b, .int (Int32.ofNat o), .ref d, .int (Int32.ofNat q), .int (Int32.ofNat len)] ∧ Ch b A s ∧ Arr .byte d B s ∧ b ≠ d ∧ o + len ≤ A.slots.size ∧ q + len ≤ B.slots.size ∧ ∀ i, i < len → ¬ 255 < cv A (o + i)
def E (b : Addr) (A : Cell) (d : Addr) (B : Cell) (o q len : Nat) (r : Option Value) (s u : State) : Prop := r = some (.int (Int32.ofNat len)) ∧ ∃ B', Put d B' s u ∧ Laid B B' q (q + len) (fun j => Value.int (lo8 (cv A (o + (j - q)))))
/-- no char of the range above 255: len; the places written hold each char's low byte -/
theorem law (l : Launch) (b : Addr) (A : Cell) (d : Addr) (B : Cell) (o q len : Nat) : Law l yN 5 5 0 0 yB 7 (some .int) site (P b A d B o q len) (E b A d B o q len) (copyLocs d q len) 0 0 := by
  refine Law.of_walk (plainFor_of_name (by decide +kernel)) (by decide +kernel) (by decide +kernel) (by decide) (fun _ _ h => by rw [h.1]; rfl) (fun _ U U' hal hh h => ⟨h.1, h.2.1.mv hal hh, h.2.2.1.mv hal hh, h.2.2.2⟩) (fun r U U' V V' h1 hal h2 h => ⟨h.1, h.2.elim fun B' q => ⟨B', q.1.mv h1 h2, q.2⟩⟩) ?_
  intro p e s m args below meth c s₁ X0 hexec hbytes hml hret hlk hnm hown hh0 W hP
  obtain ⟨rfl, hA, hB, hne, l1, l2, hp⟩ := hP
  have c1 : Steps p.tables e below (s₁.setTop (entryFrame m #[.ref b, .int (Int32.ofNat o), .ref d, .int (Int32.ofNat q), .int (Int32.ofNat len)] 7)) (s₁.setTop (mkF m 0 #[.val (.ref b), .val (.int (Int32.ofNat o)), .val (.ref d), .val (.int (Int32.ofNat q)), .val (.int (Int32.ofNat len)), .unset, .unset] [])) := entry rfl
  have hA0 := hA.1.mv X0.warmed.alike hh0
  have hB0 := hB.mv X0.warmed.alike hh0
  have a31 := hA.1.2.2.2
  have c2 : Steps p.tables e below (s₁.setTop (entryFrame m #[.ref b, .int (Int32.ofNat o), .ref d, .int (Int32.ofNat q), .int (Int32.ofNat len)] 7)) (s₁.setTop (mkF m 3 #[.val (.ref b), .val (.int (Int32.ofNat o)), .val (.ref d), .val (.int (Int32.ofNat q)), .val (.int (Int32.ofNat len)), .val (.int 0), .unset] [])) := c1.trans (by
    refine iconstV X0.here hexec rfl 0 (hb hbytes d0) (by decide) ?_
    refine XS.istore X0.here hexec rfl (hb hbytes d1) rfl rfl ?_
    exact Steps.refl _)
  have loop : ∀ (r i : Nat), i + r = len → ∀ (z : Slot), (z = .unset ∨ ∃ w, z = .val w ∧ w.category = 1) → ∀ (Tl : State) (Bk : Cell), Stand p l e { frames := 0, locals := 0, cells := 0, slots := 0 } s m #[.ref b, .int (Int32.ofNat o), .ref d, .int (Int32.ofNat q), .int (Int32.ofNat len)] below meth c Tl ([] ++ copyLocs d q i) 0 0 → Put d Bk s₁ Tl → Laid B Bk q (q + i) (fun j => Value.int (lo8 (cv A (o + (j - q))))) →
      Steps p.tables e below (s₁.setTop (entryFrame m #[.ref b, .int (Int32.ofNat o), .ref d, .int (Int32.ofNat q), .int (Int32.ofNat len)] 7)) (Tl.setTop (mkF m 3 #[.val (.ref b), .val (.int (Int32.ofNat (o + i))), .val (.ref d), .val (.int (Int32.ofNat (q + i))), .val (.int (Int32.ofNat len)), .val (.int (Int32.ofNat i)), z] [])) → ∃ (T' : State) (B' : Cell) (z' : Slot), Stand p l e { frames := 0, locals := 0, cells := 0, slots := 0 } s m #[.ref b, .int (Int32.ofNat o), .ref d, .int (Int32.ofNat q), .int (Int32.ofNat len)] below meth c T' ([] ++ copyLocs d q len) 0 0 ∧ Put d B' s₁ T' ∧ Laid B B' q (q + len) (fun j => Value.int (lo8 (cv A (o + (j - q))))) ∧
      Steps p.tables e below (s₁.setTop (entryFrame m #[.ref b, .int (Int32.ofNat o), .ref d, .int (Int32.ofNat q), .int (Int32.ofNat len)] 7)) (T'.setTop (mkF m 3 #[.val (.ref b), .val (.int (Int32.ofNat (o + len))), .val (.ref d), .val (.int (Int32.ofNat (q + len))), .val (.int (Int32.ofNat len)), .val (.int (Int32.ofNat len)), z'] [])) := by
    intro r
    induction r with
    | zero =>
      intro i hi z hz Tl Bk Xl pl fl cl
      have hil : i = len := by omega
      rw [hil] at Xl fl cl
      exact ⟨Tl, Bk, z, Xl, pl, fl, cl⟩
    | succ r ih =>
      intro i hi z hz Tl Bk Xl pl fl cl
      have all := X0.warmed.alike.symm.trans Xl.warmed.alike
      have hAl := hA0.keep all (pl.other hne hA0.1)
      have hBk := hB0.like all pl.1 fl.1 fl.2.1 fl.2.2.1
      have hlt : q + i < Bk.slots.size := by rw [fl.2.2.1]; omega
      have c3 : Steps p.tables e below (s₁.setTop (entryFrame m #[.ref b, .int (Int32.ofNat o), .ref d, .int (Int32.ofNat q), .int (Int32.ofNat len)] 7)) (Tl.setTop (mkF m 12 #[.val (.ref b), .val (.int (Int32.ofNat (o + i))), .val (.ref d), .val (.int (Int32.ofNat (q + i))), .val (.int (Int32.ofNat len)), .val (.int (Int32.ofNat i)), z] [.int (Int32.ofNat (o + i)), .ref b])) := cl.trans (by
        refine XS.iload Xl.here hexec rfl (hb hbytes d3) rfl ?_
        refine XS.iload Xl.here hexec rfl (hb hbytes d5) rfl ?_
        refine XS.icmpNo Xl.here hexec rfl (hb hbytes d7) rfl (ii_ge_f (lt32 (by omega) (by omega))) ?_
        refine XS.aloadN Xl.here hexec rfl (hb hbytes d10) rfl rfl ?_
        refine XS.iloadN Xl.here hexec rfl (hb hbytes d11) rfl ?_
        exact Steps.refl _)
      have c4 : Steps p.tables e below (s₁.setTop (entryFrame m #[.ref b, .int (Int32.ofNat o), .ref d, .int (Int32.ofNat q), .int (Int32.ofNat len)] 7)) (Tl.setTop (mkF m 13 #[.val (.ref b), .val (.int (Int32.ofNat (o + i))), .val (.ref d), .val (.int (Int32.ofNat (q + i))), .val (.int (Int32.ofNat len)), .val (.int (Int32.ofNat i)), z] [.int (cv A (o + i))])) := c3.trans (by
        refine Xl.aget hexec hAl rfl (hA.get (i := o + i) (by omega)) rfl rfl (hb hbytes d12) ?_
        exact Steps.refl _)
      have c5 : Steps p.tables e below (s₁.setTop (entryFrame m #[.ref b, .int (Int32.ofNat o), .ref d, .int (Int32.ofNat q), .int (Int32.ofNat len)] 7)) (Tl.setTop (mkF m 15 #[.val (.ref b), .val (.int (Int32.ofNat (o + i))), .val (.ref d), .val (.int (Int32.ofNat (q + i))), .val (.int (Int32.ofNat len)), .val (.int (Int32.ofNat i)), .val (.int (cv A (o + i)))] [])) := c4.trans (by
        refine XS.istoreS Xl.here hexec rfl (hb hbytes d13) rfl rfl hz ?_
        exact Steps.refl _)
      have c6 : Steps p.tables e below (s₁.setTop (entryFrame m #[.ref b, .int (Int32.ofNat o), .ref d, .int (Int32.ofNat q), .int (Int32.ofNat len)] 7)) (Tl.setTop (mkF m 31 #[.val (.ref b), .val (.int (Int32.ofNat (o + i))), .val (.ref d), .val (.int (Int32.ofNat (q + i))), .val (.int (Int32.ofNat len)), .val (.int (Int32.ofNat i)), .val (.int (cv A (o + i)))] [.int (lo8 (cv A (o + i))), .int (Int32.ofNat (q + i)), .ref d])) := c5.trans (by
        refine XS.iload Xl.here hexec rfl (hb hbytes d15) rfl ?_
        refine sipushV Xl.here hexec rfl 255 (hb hbytes d17) (by decide) ?_
        refine XS.icmpYes Xl.here hexec rfl (pc0 := 20) rfl (hb hbytes d20) rfl (ii_le_t (hp i (by omega))) (by decide) rfl ?_
        refine XS.aloadN Xl.here hexec rfl (hb hbytes d26) rfl rfl ?_
        refine XS.iloadN Xl.here hexec rfl (hb hbytes d27) rfl ?_
        refine XS.iload Xl.here hexec rfl (hb hbytes d28) rfl ?_
        refine i2b Xl.here hexec rfl (hb hbytes d30) rfl ?_
        exact Steps.refl _)
      obtain ⟨T7, X7, p7, st7⟩ := Xl.aput hexec hBk rfl hlt rfl (fits_lo8 (cv A (o + i))) (g := (mkF m 31 #[.val (.ref b), .val (.int (Int32.ofNat (o + i))), .val (.ref d), .val (.int (Int32.ofNat (q + i))), .val (.int (Int32.ofNat len)), .val (.int (Int32.ofNat i)), .val (.int (cv A (o + i)))] [.int (lo8 (cv A (o + i))), .int (Int32.ofNat (q + i)), .ref d])) rfl (rest := []) rfl (hb hbytes d31)
      have c8 : Steps p.tables e below (s₁.setTop (entryFrame m #[.ref b, .int (Int32.ofNat o), .ref d, .int (Int32.ofNat q), .int (Int32.ofNat len)] 7)) (T7.setTop (mkF m 32 #[.val (.ref b), .val (.int (Int32.ofNat (o + i))), .val (.ref d), .val (.int (Int32.ofNat (q + i))), .val (.int (Int32.ofNat len)), .val (.int (Int32.ofNat i)), .val (.int (cv A (o + i)))] [])) := c6.trans (st7 _ (Steps.refl _))
      have c9 : Steps p.tables e below (s₁.setTop (entryFrame m #[.ref b, .int (Int32.ofNat o), .ref d, .int (Int32.ofNat q), .int (Int32.ofNat len)] 7)) (T7.setTop (mkF m 3 #[.val (.ref b), .val (.int (Int32.ofNat (o + i) + 1)), .val (.ref d), .val (.int (Int32.ofNat (q + i) + 1)), .val (.int (Int32.ofNat len)), .val (.int (Int32.ofNat i + 1)), .val (.int (cv A (o + i)))] [])) := c8.trans (by
        refine iincV X7.here hexec rfl 1 (hb hbytes d32) (by decide) rfl rfl ?_
        refine iincV X7.here hexec rfl 1 (hb hbytes d35) (by decide) rfl rfl ?_
        refine iincV X7.here hexec rfl 1 (hb hbytes d38) (by decide) rfl rfl ?_
        refine XS.goto X7.here hexec rfl (pc0 := 41) rfl (hb hbytes d41) (by decide) rfl ?_
        exact Steps.refl _)
      have c10 : Steps p.tables e below (s₁.setTop (entryFrame m #[.ref b, .int (Int32.ofNat o), .ref d, .int (Int32.ofNat q), .int (Int32.ofNat len)] 7)) (T7.setTop (mkF m 3 #[.val (.ref b), .val (.int (Int32.ofNat (o + (i + 1)))), .val (.ref d), .val (.int (Int32.ofNat (q + (i + 1)))), .val (.int (Int32.ofNat len)), .val (.int (Int32.ofNat (i + 1))), .val (.int (cv A (o + i)))] [])) := by
        have := c9
        rw [succ32, succ32, succ32] at this
        exact this
      exact ih (i + 1) (by omega) _ (Or.inr ⟨_, rfl, rfl⟩) T7 _ (by rw [copyLocs_step, ← List.append_assoc]; exact X7) (pl.trans p7) (fl.step (by omega) hlt (by simp)) c10
  obtain ⟨T9, B9, z9, X9, p9, f9, g9⟩ := loop len 0 (by omega) .unset (Or.inl rfl) s₁ B (by simpa [copyLocs] using X0) ⟨hB0.1, fun _ _ => rfl, rfl⟩ (Laid.zero _ _ _) c2
  have c11 : Steps p.tables e below (s₁.setTop (entryFrame m #[.ref b, .int (Int32.ofNat o), .ref d, .int (Int32.ofNat q), .int (Int32.ofNat len)] 7)) (T9.setTop (mkF m 46 #[.val (.ref b), .val (.int (Int32.ofNat (o + len))), .val (.ref d), .val (.int (Int32.ofNat (q + len))), .val (.int (Int32.ofNat len)), .val (.int (Int32.ofNat len)), z9] [.int (Int32.ofNat len)])) := g9.trans (by
    refine XS.iload X9.here hexec rfl (hb hbytes d3) rfl ?_
    refine XS.iload X9.here hexec rfl (hb hbytes d5) rfl ?_
    refine XS.icmpYes X9.here hexec rfl (pc0 := 7) rfl (hb hbytes d7) rfl (ii_ge_t (nlt32 (by omega) (Nat.le_refl _))) (by decide) rfl ?_
    refine XS.iload X9.here hexec rfl (hb hbytes d44) rfl ?_
    exact Steps.refl _)
  exact ⟨T9, some (.int (Int32.ofNat len)), _, _, _, X9, by simp, rfl, rfl, (fun h => by cases h), ⟨rfl, B9, p9.from hh0, f9⟩, fun fs hl => c11.trans (X9.ireturnOut hexec hret rfl (Or.inl rfl) (hb hbytes d46) hl)⟩
end Cmp5
namespace Cmp3
def yN : MethodName := ⟨"java/lang/StringUTF16", "compress", "([CII)[B"⟩
abbrev yB : ByteArray := jdk_52_method_16_code
theorem d0 : decode yB 0 = .ok (.iload_n 2, 1) := by decide +kernel
theorem d1 : decode yB 1 = .ok (.newarray .byte, 2) := by decide +kernel
theorem d3 : decode yB 3 = .ok (.astore_n 3, 1) := by decide +kernel
theorem d4 : decode yB 4 = .ok (.aload_n 0, 1) := by decide +kernel
theorem d5 : decode yB 5 = .ok (.iload_n 1, 1) := by decide +kernel
theorem d6 : decode yB 6 = .ok (.aload_n 3, 1) := by decide +kernel
theorem d7 : decode yB 7 = .ok (.iconst 0, 1) := by decide +kernel
theorem d8 : decode yB 8 = .ok (.iload_n 2, 1) := by decide +kernel
theorem d9 : decode yB 9 = .ok (.invokestatic 115, 3) := by decide +kernel
theorem d12 : decode yB 12 = .ok (.istore 4, 2) := by decide +kernel
theorem d14 : decode yB 14 = .ok (.iload 4, 2) := by decide +kernel
theorem d16 : decode yB 16 = .ok (.iload_n 2, 1) := by decide +kernel
theorem d17 : decode yB 17 = .ok (.if_icmp (.eq) 40, 3) := by decide +kernel
theorem d57 : decode yB 57 = .ok (.aload_n 3, 1) := by decide +kernel
theorem d58 : decode yB 58 = .ok (.areturn, 1) := by decide +kernel
def site : List Cond := [.arrayClass .byte, Cmp5.tab] ++ staticW U16 115 Cmp5.yN
def tab : Cond := tabOf yN yB 6 (some (.array .byte)) site
def P (b : Addr) (A : Cell) (o len : Nat) (args : Array Value) (s : State) : Prop := args = #[.ref b, .int (Int32.ofNat o), .int (Int32.ofNat len)] ∧ Ch b A s ∧ o + len ≤ A.slots.size ∧ len ≤ 536870912 ∧ ∀ i, i < len → ¬ 255 < cv A (o + i)
def E (b : Addr) (A : Cell) (o len : Nat) (r : Option Value) (s u : State) : Prop := NewArr .byte "[B" len (fun j => .int (lo8 (cv A (o + j)))) r s u ∧ u.heap.size = s.heap.size + 1
/-- no char of the range above 255: a new byte[] of their low bytes -/
theorem law (l : Launch) (b : Addr) (A : Cell) (o len : Nat) : Law l yN 3 3 1 18 yB 6 (some (.array .byte)) site (P b A o len) (E b A o len) [] 1 len := by
  refine Law.of_walk (plainFor_of_name (by decide +kernel)) (by decide +kernel) (by decide +kernel) (by decide) (fun _ _ h => by rw [h.1]; rfl) (fun _ U U' hal hh h => ⟨h.1, h.2.1.mv hal hh, h.2.2⟩) (fun r U U' V V' h1 hal h2 h => ⟨NewArr.mv r U U' V V' h1 hal h2 h.1, by rw [h1, h2]; exact h.2⟩) ?_
  intro p e s m args below meth c s₁ X0 hexec hbytes hml hret hlk hnm hown hh0 W hP
  obtain ⟨rfl, hA, l1, l2, hp⟩ := hP
  have a31 := hA.1.2.2.2
  have c1 : Steps p.tables e below (s₁.setTop (entryFrame m #[.ref b, .int (Int32.ofNat o), .int (Int32.ofNat len)] 6)) (s₁.setTop (mkF m 0 #[.val (.ref b), .val (.int (Int32.ofNat o)), .val (.int (Int32.ofNat len)), .unset, .unset, .unset] [])) := entry rfl
  have c2 : Steps p.tables e below (s₁.setTop (entryFrame m #[.ref b, .int (Int32.ofNat o), .int (Int32.ofNat len)] 6)) (s₁.setTop (mkF m 1 #[.val (.ref b), .val (.int (Int32.ofNat o)), .val (.int (Int32.ofNat len)), .unset, .unset, .unset] [.int (Int32.ofNat len)])) := c1.trans (by
    refine XS.iloadN X0.here hexec rfl (hb hbytes d0) rfl ?_
    exact Steps.refl _)
  obtain ⟨T3, B3, X3, ba3, bs3, bv3, bh3, bf3, st3⟩ := X0.anew hexec (atype := .byte) (wk W (.arrayClass .byte)) rfl (by show len * 1 ≤ _; omega) (by omega) (g := (mkF m 1 #[.val (.ref b), .val (.int (Int32.ofNat o)), .val (.int (Int32.ofNat len)), .unset, .unset, .unset] [.int (Int32.ofNat len)])) rfl (hb hbytes d1) (rest := []) rfl (Nat.le_refl _) (by show 0 + len ≤ len; omega)
  rw [hh0] at ba3 st3
  have kp3 : XT.Kept s T3 := (XT.Kept.of_eq hh0).push bh3
  have hA3 := hA.keep X3.warmed.alike (kp3 _ _ hA.1.1)
  have hne : b ≠ s.heap.size := hA.1.ne
  have c4 : Steps p.tables e below (s₁.setTop (entryFrame m #[.ref b, .int (Int32.ofNat o), .int (Int32.ofNat len)] 6)) (T3.setTop (mkF m 3 #[.val (.ref b), .val (.int (Int32.ofNat o)), .val (.int (Int32.ofNat len)), .unset, .unset, .unset] [.ref s.heap.size])) := c2.trans (st3 _ (Steps.refl _))
  have c5 : Steps p.tables e below (s₁.setTop (entryFrame m #[.ref b, .int (Int32.ofNat o), .int (Int32.ofNat len)] 6)) (T3.setTop (mkF m 9 #[.val (.ref b), .val (.int (Int32.ofNat o)), .val (.int (Int32.ofNat len)), .val (.ref s.heap.size), .unset, .unset] [.int (Int32.ofNat len), .int 0, .ref s.heap.size, .int (Int32.ofNat o), .ref b])) := c4.trans (by
    refine XS.astoreN X3.here hexec rfl (hb hbytes d3) rfl rfl rfl ?_
    refine XS.aloadN X3.here hexec rfl (hb hbytes d4) rfl rfl ?_
    refine XS.iloadN X3.here hexec rfl (hb hbytes d5) rfl ?_
    refine XS.aloadN X3.here hexec rfl (hb hbytes d6) rfl rfl ?_
    refine iconstV X3.here hexec rfl 0 (hb hbytes d7) (by decide) ?_
    refine XS.iloadN X3.here hexec rfl (hb hbytes d8) rfl ?_
    exact Steps.refl _)
  obtain ⟨v6, T6, X6, E6, g6⟩ := X3.callS hexec (Cmp5.law l b A s.heap.size B3 o 0 len) hown (wks W (staticW U16 115 Cmp5.yN)) (wk W Cmp5.tab) (W := 0) (Nat.le_of_ble_eq_true rfl) (Nat.le_of_ble_eq_true rfl) (Nat.le_refl _) (by show 0 + len + 0 ≤ len; omega) (g := (mkF m 9 #[.val (.ref b), .val (.int (Int32.ofNat o)), .val (.int (Int32.ofNat len)), .val (.ref s.heap.size), .unset, .unset] [.int (Int32.ofNat len), .int (Int32.ofNat 0), .ref s.heap.size, .int (Int32.ofNat o), .ref b])) rfl (by rw [hml]; rfl) c5 (argsL := [.ref b, .int (Int32.ofNat o), .ref s.heap.size, .int (Int32.ofNat 0), .int (Int32.ofNat len)]) (rest := []) rfl rfl (by show 2 * 0 + 0 ≤ _; decide) (hb hbytes d9) (⟨rfl, hA3, ba3, hne, l1, by rw [bs3]; simp, hp⟩)
  obtain ⟨rfl, B6, p6, f6⟩ := E6
  have c7 : Steps p.tables e below (s₁.setTop (entryFrame m #[.ref b, .int (Int32.ofNat o), .int (Int32.ofNat len)] 6)) (T6.setTop (mkF m 12 #[.val (.ref b), .val (.int (Int32.ofNat o)), .val (.int (Int32.ofNat len)), .val (.ref s.heap.size), .unset, .unset] [.int (Int32.ofNat len)])) := g6
  have c8 : Steps p.tables e below (s₁.setTop (entryFrame m #[.ref b, .int (Int32.ofNat o), .int (Int32.ofNat len)] 6)) (T6.setTop (mkF m 58 #[.val (.ref b), .val (.int (Int32.ofNat o)), .val (.int (Int32.ofNat len)), .val (.ref s.heap.size), .val (.int (Int32.ofNat len)), .unset] [.ref s.heap.size])) := c7.trans (by
    refine XS.istore X6.here hexec rfl (hb hbytes d12) rfl rfl ?_
    refine XS.iload X6.here hexec rfl (hb hbytes d14) rfl ?_
    refine XS.iloadN X6.here hexec rfl (hb hbytes d16) rfl ?_
    refine XS.icmpYes X6.here hexec rfl (pc0 := 17) rfl (hb hbytes d17) rfl (ii_eq_t rfl) (by decide) rfl ?_
    refine XS.aloadN X6.here hexec rfl (hb hbytes d57) rfl rfl ?_
    exact Steps.refl _)
  have X8 := X6.wide (L' := []) (cells' := 1) (slots' := len) (fun x hx hlt => by
    simp only [List.nil_append, copyLocs, List.mem_map, List.mem_range] at hx
    obtain ⟨i, -, rfl⟩ := hx
    exact absurd hlt (Nat.lt_irrefl _)) (Nat.le_refl _) (by omega)
  exact ⟨T6, some (.ref s.heap.size), _, _, _, X8, rfl, rfl, rfl, (fun h => by cases h), ⟨⟨rfl, B6, ba3.like (X3.warmed.alike.symm.trans X6.warmed.alike) p6.1 f6.1 f6.2.1 f6.2.2.1, f6.2.1.trans bv3, by rw [X6.warmed.alike.findClass, f6.1]; exact bf3, by rw [f6.2.2.1, bs3]; simp, fun j hj => by rw [f6.2.2.2 j, if_pos (by omega)]; rfl, kp3.put p6 (Nat.le_refl _)⟩, by rw [p6.2.2, bh3, hh0]; simp⟩, fun fs hl => c8.trans (X8.areturnOut hexec rfl hret rfl (hb hbytes d58) hl)⟩
end Cmp3
namespace CodL
def yN : MethodName := ⟨"java/lang/StringUTF16", "coderFromArrayLen", "([BI)B"⟩
abbrev yB : ByteArray := jdk_52_method_15_code
theorem d0 : decode yB 0 = .ok (.iload_n 1, 1) := by decide +kernel
theorem d1 : decode yB 1 = .ok (.aload_n 0, 1) := by decide +kernel
theorem d2 : decode yB 2 = .ok (.arraylength, 1) := by decide +kernel
theorem d3 : decode yB 3 = .ok (.isub, 1) := by decide +kernel
theorem d4 : decode yB 4 = .ok (.bipush 31, 2) := by decide +kernel
theorem d6 : decode yB 6 = .ok (.iushr, 1) := by decide +kernel
theorem d7 : decode yB 7 = .ok (.i2b, 1) := by decide +kernel
theorem d8 : decode yB 8 = .ok (.ireturn, 1) := by decide +kernel
def site : List Cond := []
def tab : Cond := tabOf yN yB 2 (some .byte) site
def P (d : Addr) (B : Cell) (args : Array Value) (s : State) : Prop := args = #[.ref d, .int (Int32.ofNat B.slots.size)] ∧ Arr .byte d B s
def E (r : Option Value) (s u : State) : Prop := XT.PureE (some (.int 0)) r s u
/-- an array as long as the number of chars: LATIN1 -/
theorem law (l : Launch) (d : Addr) (B : Cell) : Law l yN 2 2 0 0 yB 2 (some .byte) site (P d B) E [] 0 0 := by
  refine Law.of_walk (plainFor_of_name (by decide +kernel)) (by decide +kernel) (by decide +kernel) (by decide) (fun _ _ h => by rw [h.1]; rfl) (fun _ U U' hal hh h => ⟨h.1, h.2.mv hal hh⟩) (fun r U U' V V' h1 hal h2 h => XT.PureE.mv r U U' V V' h1 hal h2 h) ?_
  intro p e s m args below meth c s₁ X0 hexec hbytes hml hret hlk hnm hown hh0 W hP
  obtain ⟨rfl, hB⟩ := hP
  have hB0 := hB.mv X0.warmed.alike hh0
  have c1 : Steps p.tables e below (s₁.setTop (entryFrame m #[.ref d, .int (Int32.ofNat B.slots.size)] 2)) (s₁.setTop (mkF m 0 #[.val (.ref d), .val (.int (Int32.ofNat B.slots.size))] [])) := entry rfl
  have c2 : Steps p.tables e below (s₁.setTop (entryFrame m #[.ref d, .int (Int32.ofNat B.slots.size)] 2)) (s₁.setTop (mkF m 2 #[.val (.ref d), .val (.int (Int32.ofNat B.slots.size))] [.ref d, .int (Int32.ofNat B.slots.size)])) := c1.trans (by
    refine XS.iloadN X0.here hexec rfl (hb hbytes d0) rfl ?_
    refine XS.aloadN X0.here hexec rfl (hb hbytes d1) rfl rfl ?_
    exact Steps.refl _)
  have c3 : Steps p.tables e below (s₁.setTop (entryFrame m #[.ref d, .int (Int32.ofNat B.slots.size)] 2)) (s₁.setTop (mkF m 8 #[.val (.ref d), .val (.int (Int32.ofNat B.slots.size))] [.int (lo8 (ushr (Int32.ofNat B.slots.size - Int32.ofNat B.slots.size) 31))])) := c2.trans (by
    refine X0.alen hexec hB0 rfl rfl (hb hbytes d2) ?_
    refine XS.isub X0.here hexec rfl (hb hbytes d3) rfl ?_
    refine bipushV X0.here hexec rfl 31 (hb hbytes d4) (by decide) ?_
    refine iushr X0.here hexec rfl (hb hbytes d6) rfl ?_
    refine i2b X0.here hexec rfl (hb hbytes d7) rfl ?_
    exact Steps.refl _)
  have e0 : lo8 (ushr (Int32.ofNat B.slots.size - Int32.ofNat B.slots.size) 31) = 0 := by rw [Int32.sub_self]; decide
  rw [e0] at c3
  exact ⟨s₁, some (.int 0), _, _, _, X0, rfl, rfl, rfl, (fun h => by cases h), ⟨rfl, hh0⟩, fun fs hl => c3.trans (X0.ireturnOut hexec hret rfl (Or.inr (Or.inr (Or.inl rfl))) (hb hbytes d8) hl)⟩
end CodL
/-- the String at a is Latin-1 over a new byte[] (the heap's one new cell): the low bytes of the len chars of A from o on; every cell but a is kept -/
def Got (a : Addr) (D : Cell) (fV fC : Field) (A : Cell) (o len : Nat) (r : Option Value) (s u : State) : Prop := r = none ∧ ∃ D' V : Cell, Blank "java/lang/String" a D' u ∧ Same D D' [fV.slot, fC.slot] ∧ D'.slots[fV.slot]? = some (.ref s.heap.size) ∧ D'.slots[fC.slot]? = some (.int 0) ∧ Arr .byte s.heap.size V u ∧ V.vm = .none ∧ u.vm.findClass "[B" = some V.cls ∧ V.slots.size = len ∧ (∀ j, j < len → V.slots[j]? = some (.int (lo8 (cv A (o + j))))) ∧ (∀ (y : Addr) (c : Cell), y ≠ a → s.heap[y]? = some c → u.heap[y]? = some c) ∧ u.heap.size = s.heap.size + 1
theorem Got.mv {a : Addr} {D A : Cell} {fV fC : Field} {o len : Nat} : ∀ r (U U' V V' : State), U'.heap = U.heap → V.vm.Alike V'.vm → V'.heap = V.heap → Got a D fV fC A o len r U V → Got a D fV fC A o len r U' V' :=
  fun r U U' V V' h1 hal h2 ⟨e0, D', X, a1, a2, a3, a4, a5, a6, a7, a8, a9, a10, a11⟩ => ⟨e0, D', X, a1.mv hal h2, a2, by rw [h1]; exact a3, a4, by rw [h1]; exact a5.mv hal h2, a6, by rw [hal.findClass]; exact a7, a8, a9, by rw [h1, h2]; exact a10, by rw [h1, h2]; exact a11⟩
namespace New4
def yN : MethodName := ⟨"java/lang/String", "<init>", "([CIILjava/lang/Void;)V"⟩
abbrev yB : ByteArray := jdk_42_method_149_code
theorem d0 : decode yB 0 = .ok (.aload_n 0, 1) := by decide +kernel
theorem d1 : decode yB 1 = .ok (.invokespecial 1, 3) := by decide +kernel
theorem d4 : decode yB 4 = .ok (.iload_n 3, 1) := by decide +kernel
theorem d5 : decode yB 5 = .ok (.ifCond (.ne) 22, 3) := by decide +kernel
theorem d27 : decode yB 27 = .ok (.getstatic 38, 3) := by decide +kernel
theorem d30 : decode yB 30 = .ok (.ifCond (.eq) 28, 3) := by decide +kernel
theorem d33 : decode yB 33 = .ok (.aload_n 1, 1) := by decide +kernel
theorem d34 : decode yB 34 = .ok (.iload_n 2, 1) := by decide +kernel
theorem d35 : decode yB 35 = .ok (.iload_n 3, 1) := by decide +kernel
theorem d36 : decode yB 36 = .ok (.invokestatic 177, 3) := by decide +kernel
theorem d39 : decode yB 39 = .ok (.astore 5, 2) := by decide +kernel
theorem d41 : decode yB 41 = .ok (.aload_n 0, 1) := by decide +kernel
theorem d42 : decode yB 42 = .ok (.aload 5, 2) := by decide +kernel
theorem d44 : decode yB 44 = .ok (.iload_n 3, 1) := by decide +kernel
theorem d45 : decode yB 45 = .ok (.invokestatic 47, 3) := by decide +kernel
theorem d48 : decode yB 48 = .ok (.putfield 15, 3) := by decide +kernel
theorem d51 : decode yB 51 = .ok (.aload_n 0, 1) := by decide +kernel
theorem d52 : decode yB 52 = .ok (.aload 5, 2) := by decide +kernel
theorem d54 : decode yB 54 = .ok (.putfield 9, 3) := by decide +kernel
theorem d57 : decode yB 57 = .ok (.return_, 1) := by decide +kernel
def site : List Cond := [.fieldLink "java/lang/String" 38 "java/lang/String" "COMPACT_STRINGS" "Z", Cmp3.tab, CodL.tab, .laysFinal "java/lang/String" "java/lang/String" "value" "[B", .fieldLink "java/lang/String" 9 "java/lang/String" "value" "[B", .laysFinal "java/lang/String" "java/lang/String" "coder" "B", .fieldLink "java/lang/String" 15 "java/lang/String" "coder" "B"] ++ objW "java/lang/String" 1 ++ staticW "java/lang/String" 177 Cmp3.yN ++ staticW "java/lang/String" 47 CodL.yN
def tab : Cond := tabOf yN yB 6 none site
def P (a : Addr) (D : Cell) (fV fC : Field) (b : Addr) (A : Cell) (z : Int32) (o len : Nat) (args : Array Value) (s : State) : Prop := args = #[.ref a, .ref b, .int (Int32.ofNat o), .int (Int32.ofNat len), .null] ∧ Blank "java/lang/String" a D s ∧ Found "java/lang/String" "value" "[B" fV s ∧ Found "java/lang/String" "coder" "B" fC s ∧ Ch b A s ∧ StaticIs s "java/lang/String" "COMPACT_STRINGS" "Z" (.int z) ∧ ¬ z = 0 ∧ 0 < len ∧ o + len ≤ A.slots.size ∧ len ≤ 536870912 ∧ ∀ i, i < len → ¬ 255 < cv A (o + i)
def E (a : Addr) (D : Cell) (fV fC : Field) (A : Cell) (o len : Nat) (r : Option Value) (s u : State) : Prop := Got a D fV fC A o len r s u
/-- len > 0, no char of the range above 255: a Latin-1 String of their low bytes -/
theorem law (l : Launch) (a : Addr) (D : Cell) (fV fC : Field) (b : Addr) (A : Cell) (z : Int32) (o len : Nat) : Law l yN 5 4 2 35 yB 6 none site (P a D fV fC b A z o len) (E a D fV fC A o len) [⟨a, fC.slot⟩, ⟨a, fV.slot⟩] 1 len := by
  refine Law.of_walk (plainFor_of_name (by decide +kernel)) (by decide +kernel) (by decide +kernel) (by decide) (fun _ _ h => by rw [h.1]; rfl) (fun _ U U' hal hh h => ⟨h.1, h.2.1.mv hal hh, h.2.2.1.al hal, h.2.2.2.1.al hal, h.2.2.2.2.1.mv hal hh, h.2.2.2.2.2.1.there hal hh, h.2.2.2.2.2.2⟩) (fun r U U' V V' h1 hal h2 h => Got.mv r U U' V V' h1 hal h2 h) ?_
  intro p e s m args below meth c s₁ X0 hexec hbytes hml hret hlk hnm hown hh0 W hP
  obtain ⟨rfl, hB, f1, f2, hA, s1, hz, l0, l1, l2, hp⟩ := hP
  have a31 := hA.1.2.2.2
  have c1 : Steps p.tables e below (s₁.setTop (entryFrame m #[.ref a, .ref b, .int (Int32.ofNat o), .int (Int32.ofNat len), .null] 6)) (s₁.setTop (mkF m 0 #[.val (.ref a), .val (.ref b), .val (.int (Int32.ofNat o)), .val (.int (Int32.ofNat len)), .val .null, .unset] [])) := entry rfl
  have c2 : Steps p.tables e below (s₁.setTop (entryFrame m #[.ref a, .ref b, .int (Int32.ofNat o), .int (Int32.ofNat len), .null] 6)) (s₁.setTop (mkF m 1 #[.val (.ref a), .val (.ref b), .val (.int (Int32.ofNat o)), .val (.int (Int32.ofNat len)), .val .null, .unset] [.ref a])) := c1.trans (by
    refine XS.aloadN X0.here hexec rfl (hb hbytes d0) rfl rfl ?_
    exact Steps.refl _)
  obtain ⟨T3, X3, q3, st3⟩ := X0.oinit hexec hown (wks W (objW "java/lang/String" 1)) (g := (mkF m 1 #[.val (.ref a), .val (.ref b), .val (.int (Int32.ofNat o)), .val (.int (Int32.ofNat len)), .val .null, .unset] [.ref a])) rfl (by rw [hml]; rfl) (rest := []) rfl (hb hbytes d1) (W := 0) (by show 2 * 0 + 0 ≤ _; decide) (Nat.le_of_ble_eq_true rfl) (Nat.le_of_ble_eq_true rfl)
  have hh3 := q3.trans hh0
  have c4 : Steps p.tables e below (s₁.setTop (entryFrame m #[.ref a, .ref b, .int (Int32.ofNat o), .int (Int32.ofNat len), .null] 6)) (T3.setTop (mkF m 27 #[.val (.ref a), .val (.ref b), .val (.int (Int32.ofNat o)), .val (.int (Int32.ofNat len)), .val .null, .unset] [])) := (c2.trans (st3 _ (Steps.refl _))).trans (by
    refine XS.iloadN X3.here hexec rfl (hb hbytes d4) rfl ?_
    refine XS.ifYes X3.here hexec rfl (pc0 := 5) rfl (hb hbytes d5) rfl (i0_ne_t (nz32 (by omega) l0)) (by decide) rfl ?_
    exact Steps.refl _)
  obtain ⟨T5, X5, q5, st5⟩ := X3.sget hexec hown (wk W (.fieldLink "java/lang/String" 38 "java/lang/String" "COMPACT_STRINGS" "Z")) s1 (fun _ _ h => by rw [hh3]; exact h) (g := (mkF m 27 #[.val (.ref a), .val (.ref b), .val (.int (Int32.ofNat o)), .val (.int (Int32.ofNat len)), .val .null, .unset] [])) rfl (hb hbytes d27)
  have hh5 := q5.trans hh3
  have c6 : Steps p.tables e below (s₁.setTop (entryFrame m #[.ref a, .ref b, .int (Int32.ofNat o), .int (Int32.ofNat len), .null] 6)) (T5.setTop (mkF m 30 #[.val (.ref a), .val (.ref b), .val (.int (Int32.ofNat o)), .val (.int (Int32.ofNat len)), .val .null, .unset] [.int z])) := c4.trans (st5 _ (Steps.refl _))
  have c7 : Steps p.tables e below (s₁.setTop (entryFrame m #[.ref a, .ref b, .int (Int32.ofNat o), .int (Int32.ofNat len), .null] 6)) (T5.setTop (mkF m 36 #[.val (.ref a), .val (.ref b), .val (.int (Int32.ofNat o)), .val (.int (Int32.ofNat len)), .val .null, .unset] [.int (Int32.ofNat len), .int (Int32.ofNat o), .ref b])) := c6.trans (by
    refine XS.ifNo X5.here hexec rfl (hb hbytes d30) rfl (i0_eq_f hz) ?_
    refine XS.aloadN X5.here hexec rfl (hb hbytes d33) rfl rfl ?_
    refine XS.iloadN X5.here hexec rfl (hb hbytes d34) rfl ?_
    refine XS.iloadN X5.here hexec rfl (hb hbytes d35) rfl ?_
    exact Steps.refl _)
  obtain ⟨v8, T8, X8, E8, g8⟩ := X5.callS hexec (Cmp3.law l b A o len) hown (wks W (staticW "java/lang/String" 177 Cmp3.yN)) (wk W Cmp3.tab) (W := 0) (Nat.le_of_ble_eq_true rfl) (Nat.le_of_ble_eq_true rfl) (Nat.le_refl _) (by show 0 + len ≤ len; omega) (g := (mkF m 36 #[.val (.ref a), .val (.ref b), .val (.int (Int32.ofNat o)), .val (.int (Int32.ofNat len)), .val .null, .unset] [.int (Int32.ofNat len), .int (Int32.ofNat o), .ref b])) rfl (by rw [hml]; rfl) c7 (argsL := [.ref b, .int (Int32.ofNat o), .int (Int32.ofNat len)]) (rest := []) rfl rfl (by show 2 * 0 + 0 ≤ _; decide) (hb hbytes d36) (⟨rfl, hA.mv X5.warmed.alike hh5, l1, l2, hp⟩)
  obtain ⟨e8, z8⟩ := E8
  obtain ⟨rfl, N, n1, n2, n3, n4, n5, n6⟩ := NewArr.mv _ T5 s _ _ hh5.symm (Vm.Alike.refl _) rfl e8
  rw [hh5] at z8
  have hB1 := hB.keep X8.warmed.alike (n6 _ _ hB.1)
  have hne : s.heap.size ≠ a := (Nat.ne_of_lt (Array.getElem?_eq_some_iff.mp hB.1).1).symm
  have c9 : Steps p.tables e below (s₁.setTop (entryFrame m #[.ref a, .ref b, .int (Int32.ofNat o), .int (Int32.ofNat len), .null] 6)) (T8.setTop (mkF m 39 #[.val (.ref a), .val (.ref b), .val (.int (Int32.ofNat o)), .val (.int (Int32.ofNat len)), .val .null, .unset] [.ref s.heap.size])) := g8
  have c10 : Steps p.tables e below (s₁.setTop (entryFrame m #[.ref a, .ref b, .int (Int32.ofNat o), .int (Int32.ofNat len), .null] 6)) (T8.setTop (mkF m 45 #[.val (.ref a), .val (.ref b), .val (.int (Int32.ofNat o)), .val (.int (Int32.ofNat len)), .val .null, .val (.ref s.heap.size)] [.int (Int32.ofNat N.slots.size), .ref s.heap.size, .ref a])) := by
    have hc : Steps p.tables e below (s₁.setTop (entryFrame m #[.ref a, .ref b, .int (Int32.ofNat o), .int (Int32.ofNat len), .null] 6)) (T8.setTop (mkF m 45 #[.val (.ref a), .val (.ref b), .val (.int (Int32.ofNat o)), .val (.int (Int32.ofNat len)), .val .null, .val (.ref s.heap.size)] [.int (Int32.ofNat len), .ref s.heap.size, .ref a])) := c9.trans (by
      refine XS.astore X8.here hexec rfl (hb hbytes d39) rfl rfl rfl ?_
      refine XS.aloadN X8.here hexec rfl (hb hbytes d41) rfl rfl ?_
      refine XS.aload X8.here hexec rfl (hb hbytes d42) rfl rfl ?_
      refine XS.iloadN X8.here hexec rfl (hb hbytes d44) rfl ?_
      exact Steps.refl _)
    rw [n4]; exact hc
  obtain ⟨v11, T11, X11, E11, g11⟩ := X8.callS hexec (CodL.law l s.heap.size N) hown (wks W (staticW "java/lang/String" 47 CodL.yN)) (wk W CodL.tab) (W := 1) (Nat.le_of_ble_eq_true rfl) (Nat.le_of_ble_eq_true rfl) (Nat.le_refl _) (by show 0 + len + 0 ≤ len; omega) (g := (mkF m 45 #[.val (.ref a), .val (.ref b), .val (.int (Int32.ofNat o)), .val (.int (Int32.ofNat len)), .val .null, .val (.ref s.heap.size)] [.int (Int32.ofNat N.slots.size), .ref s.heap.size, .ref a])) rfl (by rw [hml]; rfl) c10 (argsL := [.ref s.heap.size, .int (Int32.ofNat N.slots.size)]) (rest := [.ref a]) rfl rfl (by show 2 * 0 + (1 + 0) ≤ _; decide) (hb hbytes d45) (⟨rfl, n1⟩)
  obtain ⟨rfl, q11⟩ := E11
  have hB11 := hB1.mv (X8.warmed.alike.symm.trans X11.warmed.alike) q11
  have c12 : Steps p.tables e below (s₁.setTop (entryFrame m #[.ref a, .ref b, .int (Int32.ofNat o), .int (Int32.ofNat len), .null] 6)) (T11.setTop (mkF m 48 #[.val (.ref a), .val (.ref b), .val (.int (Int32.ofNat o)), .val (.int (Int32.ofNat len)), .val .null, .val (.ref s.heap.size)] [.int 0, .ref a])) := g11
  obtain ⟨T13, X13, p13, bl13, sl13, st13⟩ := X11.finit hexec hown (wk W (.fieldLink "java/lang/String" 15 "java/lang/String" "coder" "B")) (Or.inr ⟨_, (wk W (.laysFinal "java/lang/String" "java/lang/String" "coder" "B"))⟩) (Or.inl ⟨rfl, hnm⟩) f2 (Or.inl rfl) hB11 (t := .byte) (by decide +kernel) rfl (g := (mkF m 48 #[.val (.ref a), .val (.ref b), .val (.int (Int32.ofNat o)), .val (.int (Int32.ofNat len)), .val .null, .val (.ref s.heap.size)] [.int 0, .ref a])) rfl (rest := []) rfl (hb hbytes d48)
  have c14 : Steps p.tables e below (s₁.setTop (entryFrame m #[.ref a, .ref b, .int (Int32.ofNat o), .int (Int32.ofNat len), .null] 6)) (T13.setTop (mkF m 54 #[.val (.ref a), .val (.ref b), .val (.int (Int32.ofNat o)), .val (.int (Int32.ofNat len)), .val .null, .val (.ref s.heap.size)] [.ref s.heap.size, .ref a])) := (c12.trans (st13 _ (Steps.refl _))).trans (by
    refine XS.aloadN X13.here hexec rfl (hb hbytes d51) rfl rfl ?_
    refine XS.aload X13.here hexec rfl (hb hbytes d52) rfl rfl ?_
    exact Steps.refl _)
  obtain ⟨T15, X15, p15, bl15, sl15, st15⟩ := X13.finit hexec hown (wk W (.fieldLink "java/lang/String" 9 "java/lang/String" "value" "[B")) (Or.inr ⟨_, (wk W (.laysFinal "java/lang/String" "java/lang/String" "value" "[B"))⟩) (Or.inl ⟨rfl, hnm⟩) f1 (Or.inl rfl) bl13 (t := (.array .byte)) (by decide +kernel) rfl (g := (mkF m 54 #[.val (.ref a), .val (.ref b), .val (.int (Int32.ofNat o)), .val (.int (Int32.ofNat len)), .val .null, .val (.ref s.heap.size)] [.ref s.heap.size, .ref a])) rfl (rest := []) rfl (hb hbytes d54)
  have c16 : Steps p.tables e below (s₁.setTop (entryFrame m #[.ref a, .ref b, .int (Int32.ofNat o), .int (Int32.ofNat len), .null] 6)) (T15.setTop (mkF m 57 #[.val (.ref a), .val (.ref b), .val (.int (Int32.ofNat o)), .val (.int (Int32.ofNat len)), .val .null, .val (.ref s.heap.size)] [])) := c14.trans (st15 _ (Steps.refl _))
  have ap := apart (Or.inr ⟨_, (wk W (.laysFinal "java/lang/String" "java/lang/String" "value" "[B"))⟩) (Or.inr ⟨_, (wk W (.laysFinal "java/lang/String" "java/lang/String" "coder" "B"))⟩) f1 f2 (t₁ := .array .byte) (t₂ := .byte) (by decide +kernel) (by decide +kernel) (by decide)
  have al := X8.warmed.alike.symm.trans X15.warmed.alike
  have n7 : T11.heap[s.heap.size]? = some N := by rw [q11]; exact n1.1
  exact ⟨T15, none, _, _, _, X15, by simp, rfl, by omega, (fun _ => rfl), ⟨rfl, _, N, bl15, ((Same.refl D _).set _ (by simp)).set _ (by simp), sl15, (Cell.slots_setSlot_ne _ ap).trans sl13, n1.keep al (p15.other hne (p13.other hne n7)), n2, by rw [al.findClass]; exact n3, n4, n5, fun y c h1 h2 => p15.other h1 (p13.other h1 (by rw [q11]; exact n6 y c h2)), by rw [p15.2.2, p13.2.2, q11]; exact z8⟩, fun fs hl => c16.trans (X15.returnOut hexec hret (hb hbytes d57) hl)⟩
end New4
namespace New1
def yN : MethodName := ⟨"java/lang/String", "<init>", "([C)V"⟩
abbrev yB : ByteArray := jdk_42_method_3_code
theorem d0 : decode yB 0 = .ok (.aload_n 0, 1) := by decide +kernel
theorem d1 : decode yB 1 = .ok (.aload_n 1, 1) := by decide +kernel
theorem d2 : decode yB 2 = .ok (.iconst 0, 1) := by decide +kernel
theorem d3 : decode yB 3 = .ok (.aload_n 1, 1) := by decide +kernel
theorem d4 : decode yB 4 = .ok (.arraylength, 1) := by decide +kernel
theorem d5 : decode yB 5 = .ok (.aconst_null, 1) := by decide +kernel
theorem d6 : decode yB 6 = .ok (.invokespecial 27, 3) := by decide +kernel
theorem d9 : decode yB 9 = .ok (.return_, 1) := by decide +kernel
def site : List Cond := [New4.tab] ++ initW "java/lang/String" 27 New4.yN
def tab : Cond := tabOf yN yB 2 none site
def P (a : Addr) (D : Cell) (fV fC : Field) (b : Addr) (A : Cell) (z : Int32) (args : Array Value) (s : State) : Prop := args = #[.ref a, .ref b] ∧ Blank "java/lang/String" a D s ∧ Found "java/lang/String" "value" "[B" fV s ∧ Found "java/lang/String" "coder" "B" fC s ∧ Ch b A s ∧ StaticIs s "java/lang/String" "COMPACT_STRINGS" "Z" (.int z) ∧ ¬ z = 0 ∧ 0 < A.slots.size ∧ A.slots.size ≤ 536870912 ∧ ∀ i, i < A.slots.size → ¬ 255 < cv A i
def E (a : Addr) (D : Cell) (fV fC : Field) (A : Cell) (r : Option Value) (s u : State) : Prop := Got a D fV fC A 0 A.slots.size r s u
/-- new String(chars), not empty, no char above 255: a Latin-1 String of their low bytes -/
theorem law (l : Launch) (a : Addr) (D : Cell) (fV fC : Field) (b : Addr) (A : Cell) (z : Int32) : Law l yN 2 1 3 52 yB 2 none site (P a D fV fC b A z) (E a D fV fC A) [⟨a, fC.slot⟩, ⟨a, fV.slot⟩] 1 A.slots.size := by
  refine Law.of_walk (plainFor_of_name (by decide +kernel)) (by decide +kernel) (by decide +kernel) (by decide) (fun _ _ h => by rw [h.1]; rfl) (fun _ U U' hal hh h => ⟨h.1, h.2.1.mv hal hh, h.2.2.1.al hal, h.2.2.2.1.al hal, h.2.2.2.2.1.mv hal hh, h.2.2.2.2.2.1.there hal hh, h.2.2.2.2.2.2⟩) (fun r U U' V V' h1 hal h2 h => Got.mv r U U' V V' h1 hal h2 h) ?_
  intro p e s m args below meth c s₁ X0 hexec hbytes hml hret hlk hnm hown hh0 W hP
  obtain ⟨rfl, hB, f1, f2, hA, s1, hz, l0, l2, hp⟩ := hP
  have c1 : Steps p.tables e below (s₁.setTop (entryFrame m #[.ref a, .ref b] 2)) (s₁.setTop (mkF m 0 #[.val (.ref a), .val (.ref b)] [])) := entry rfl
  have c2 : Steps p.tables e below (s₁.setTop (entryFrame m #[.ref a, .ref b] 2)) (s₁.setTop (mkF m 6 #[.val (.ref a), .val (.ref b)] [.null, .int (Int32.ofNat A.slots.size), .int 0, .ref b, .ref a])) := c1.trans (by
    refine XS.aloadN X0.here hexec rfl (hb hbytes d0) rfl rfl ?_
    refine XS.aloadN X0.here hexec rfl (hb hbytes d1) rfl rfl ?_
    refine iconstV X0.here hexec rfl 0 (hb hbytes d2) (by decide) ?_
    refine XS.aloadN X0.here hexec rfl (hb hbytes d3) rfl rfl ?_
    refine X0.alen hexec (hA.1.mv X0.warmed.alike hh0) rfl rfl (hb hbytes d4) ?_
    refine XS.aconstNull X0.here hexec rfl (hb hbytes d5) ?_
    exact Steps.refl _)
  obtain ⟨v3, T3, X3, E3, g3⟩ := X0.callN hexec (New4.law l a D fV fC b A z 0 A.slots.size) rfl hown (wks W (initW "java/lang/String" 27 New4.yN)) (W New4.tab (by simp only [site, List.mem_cons, List.mem_append, true_or, or_true])) (W := 0) (Nat.le_of_ble_eq_true rfl) (Nat.le_of_ble_eq_true rfl) (Nat.le_refl _) (by show 0 + A.slots.size ≤ A.slots.size; omega) (g := (mkF m 6 #[.val (.ref a), .val (.ref b)] [.null, .int (Int32.ofNat A.slots.size), .int (Int32.ofNat 0), .ref b, .ref a])) rfl (by rw [hml]; rfl) c2 (argsL := [.ref b, .int (Int32.ofNat 0), .int (Int32.ofNat A.slots.size), .null]) (rest := []) rfl rfl (by show 2 * 0 + 0 ≤ _; decide) (hb hbytes d6) (⟨rfl, hB.mv X0.warmed.alike hh0, f1.al X0.warmed.alike, f2.al X0.warmed.alike, hA.mv X0.warmed.alike hh0, s1.there X0.warmed.alike hh0, hz, l0, by omega, l2, fun i hi => by rw [Nat.zero_add]; exact hp i hi⟩)
  have e0 := Got.mv _ s₁ s _ _ hh0.symm (Vm.Alike.refl _) rfl E3
  obtain rfl := e0.1
  have c4 : Steps p.tables e below (s₁.setTop (entryFrame m #[.ref a, .ref b] 2)) (T3.setTop (mkF m 9 #[.val (.ref a), .val (.ref b)] [])) := g3
  exact ⟨T3, none, _, _, _, X3, by simp, rfl, by omega, (fun _ => rfl), e0, fun fs hl => c4.trans (X3.returnOut hexec hret (hb hbytes d9) hl)⟩
theorem pays {l : Launch} {R : Room} {p : Program} {e : Env} {below : List Frame} {s : State} {sargs : Array Value} {len W : Nat} (a : Addr) (D : Cell) (fV fC : Field) (b : Addr) (A : Cell) (z : Int32) (htab : tab.before sargs s = true) (hfr : 4 ≤ R.frames) (hlo : W + 65 ≤ R.locals) :
    Back l R p e below s sargs yN len W (fun A₁ a₁ => A₁.cells + 1 ≤ R.cells ∧ A₁.slots + A.slots.size ≤ R.slots ∧ P a D fV fC b A z a₁ A₁.U) (fun A₁ _ v₁ B₁ => E a D fV fC A v₁ A₁.U B₁.U ∧ B₁.locs = A₁.locs ++ [⟨a, fC.slot⟩, ⟨a, fV.slot⟩] ∧ B₁.cells = A₁.cells + 1 ∧ B₁.slots = A₁.slots + A.slots.size) :=
  (law l a D fV fC b A z).pays htab hfr (by omega)
end New1
/-- the byte, read back as charAt reads it, is the char -/
theorem lo8_mask {x : Int32} (h0 : ¬ x < 0) (h1 : ¬ 255 < x) : lo8 x &&& 255 = x := by
  have t : ∀ k : Fin 256, lo8 (Int32.ofNat k.val) &&& 255 = Int32.ofNat k.val := by decide +kernel
  rw [Int32.lt_iff_toInt_lt] at h0 h1
  have e0 : (0 : Int32).toInt = 0 := rfl
  have e1 : (255 : Int32).toInt = 255 := rfl
  obtain ⟨k, hk⟩ : ∃ k : Nat, x.toInt = k := ⟨x.toInt.toNat, by omega⟩
  have hx : x = Int32.ofNat k := Int32.toInt_inj.mp (by rw [hk, Int32.toInt_ofNat_small (by omega)])
  rw [hx]
  exact t ⟨k, by omega⟩
end StrChars
namespace StrChars.Road
open Jvm Sem ClassFile Op Lib Jvm.Stand Jvm.Free Jvm.Free.XT
open Jvm.Lib.Cold (StaticIs)
abbrev ST : String := "java/lang/String"
/-- every table word that New1's law asks, flat -/
abbrev words : List Jvm.Cond := [.code New1.yN New1.yB 2 none, .initialized ST, .methodLink ST 27 New4.yN, .instanceMethod New4.yN,
  .code New4.yN New4.yB 6 none, .fieldLink ST 38 ST "COMPACT_STRINGS" "Z", .laysFinal ST ST "value" "[B", .fieldLink ST 9 ST "value" "[B", .laysFinal ST ST "coder" "B", .fieldLink ST 15 ST "coder" "B",
  .methodLink ST 1 Lib.objectInit, .instanceMethod Lib.objectInit, .code Lib.objectInit ⟨#[0xb1]⟩ 1 none, .methodLink ST 177 Cmp3.yN, .static Cmp3.yN, .methodLink ST 47 CodL.yN, .static CodL.yN,
  .code Cmp3.yN Cmp3.yB 6 (some (.array .byte)), .initialized U16, .arrayClass .byte, .methodLink U16 115 Cmp5.yN, .static Cmp5.yN, .code Cmp5.yN Cmp5.yB 7 (some .int), .code CodL.yN CodL.yB 2 (some .byte)]
theorem tab_of {a : Array Value} {s : State} (h : ∀ w ∈ words, w.before a s = true) : New1.tab.before a s = true := by
  have h5 : Cmp5.tab.before a s = true := unparts (wk h (.code Cmp5.yN Cmp5.yB 7 (some .int))) (wks h (.initialized Cmp5.yN.cls :: Cmp5.site))
  have hc : CodL.tab.before a s = true := unparts (wk h (.code CodL.yN CodL.yB 2 (some .byte))) (wks h (.initialized CodL.yN.cls :: CodL.site))
  have q5 : ∀ w ∈ Cmp5.tab :: words, w.before a s = true := fun w hw => (List.mem_cons.mp hw).elim (fun e => e ▸ h5) (h w)
  have h3 : Cmp3.tab.before a s = true := unparts (wk q5 (.code Cmp3.yN Cmp3.yB 6 (some (.array .byte)))) (wks q5 (.initialized Cmp3.yN.cls :: Cmp3.site))
  have q3 : ∀ w ∈ Cmp3.tab :: CodL.tab :: words, w.before a s = true := fun w hw => (List.mem_cons.mp hw).elim (fun e => e ▸ h3) fun hw => (List.mem_cons.mp hw).elim (fun e => e ▸ hc) (h w)
  have h4 : New4.tab.before a s = true := unparts (wk q3 (.code New4.yN New4.yB 6 none)) (wks q3 (.initialized New4.yN.cls :: New4.site))
  have q4 : ∀ w ∈ New4.tab :: words, w.before a s = true := fun w hw => (List.mem_cons.mp hw).elim (fun e => e ▸ h4) (h w)
  exact unparts (wk q4 (.code New1.yN New1.yB 2 none)) (wks q4 (.initialized New1.yN.cls :: New1.site))
/-- the words ride from the start Z to the walk's own state -/
theorem moved {Z s : State} {a0 args : Array Value} (hZ : Z.Warmed39 s.vm) (hw : ∀ d ∈ words, d.before a0 Z = true) : ∀ d ∈ words, d.before args s = true := fun d hd => by
  have q := hw d hd
  have t : ∀ d ∈ words, d = .arrayClass .byte ∨ (d.onTables && d.keepsFace) = true := by decide +kernel
  rcases t d hd with rfl | t
  · exact RoadKit.mvA hZ q
  · exact RoadKit.mv hZ q t
/-- WHAT COMES BACK, over the tables of the start Z: h the heap at the call, h' behind it -/
def Q (Z : State) (x : Addr) (A : Cell) (h : Heap) (v : Option Value) (h' : Heap) (L : List Loc) : Prop := v = none ∧ (∀ y ∈ L, y.base = x) ∧ RoadKit.Keep h h' [x] ∧ h'.size = h.size + 1 ∧ RoadKit.Exa Z h' x ST ∧ RoadKit.Fld Z h' x ST "value" "[B" (.ref h.size) ∧ RoadKit.Fld Z h' x ST "coder" "B" (.int 0) ∧
  (∃ V : Cell, RoadKit.Arr Z h' h.size V .byte ∧ V.vm = .none ∧ Z.vm.findClass "[B" = some V.cls ∧ V.slots.size = A.slots.size ∧ ∀ j, j < A.slots.size → V.slots[j]? = some (.int (lo8 (cv A j)))) ∧
  ∀ (O n d : String) (w : Value), RoadKit.Fld Z h x O n d w → RoadKit.slotOf Z O n d ≠ RoadKit.slotOf Z ST "value" "[B" → RoadKit.slotOf Z O n d ≠ RoadKit.slotOf Z ST "coder" "B" → RoadKit.Fld Z h' x O n d w
/-- **new String(chars) AT A CALL, IN THE ROAD'S FORM**: for specialBack behind newO: x the fresh String, b the char[] with the cell A -/
theorem back {p : Program} {l : Launch} {e : Env} {R : Room} {s : State} {args : Array Value} {below : List Frame} {len W : Nat} {Z : State} {a0 : Array Value} {h : Heap} (hZ : Z.Warmed39 s.vm) (hw : ∀ d ∈ words, d.before a0 Z = true) {kI : Nat} (wi : (Jvm.Cond.instantiable ST kI).before a0 Z = true)
    {x b : Addr} {A : Cell} {z : Int32} {v0 c0 : Value} (E : RoadKit.Exa Z h x ST) (V : RoadKit.Fld Z h x ST "value" "[B" v0) (C : RoadKit.Fld Z h x ST "coder" "B" c0) (K : RoadKit.Arr Z h b A .char) (hty : Typed .char A) (S : RoadKit.Sta Z h ST "COMPACT_STRINGS" "Z" (.int z)) (hz : ¬ z = 0)
    (l0 : 0 < A.slots.size) (l2 : A.slots.size ≤ 536870912) (hp : ∀ i, i < A.slots.size → ¬ 255 < cv A i) (hfr : 4 ≤ R.frames) (hlo : W + 65 ≤ R.locals) :
    Back l R p e below s args New1.yN len W (fun P a => a = #[.ref x, .ref b] ∧ P.U.heap = h ∧ P.cells + 1 ≤ R.cells ∧ P.slots + A.slots.size ≤ R.slots)
      (fun P _ v B => ∃ L, Q Z x A h v B.U.heap L ∧ B.locs = P.locs ++ L ∧ B.cells = P.cells + 1 ∧ B.slots = P.slots + A.slots.size) := by
  intro m meth c P g ig mk a X hg hsize hdg hW hn hp'
  obtain ⟨rfl, rfl, r1, r2⟩ := hp'
  have al : Z.vm.Alike P.U.vm := hZ.alike.trans X.warmed.alike
  obtain ⟨D, cfV, kV, iV, fV, hD, gV, stV, knV, obV, asV, slV⟩ := id V
  obtain ⟨D', cfC, kC, iC, fC, hD', gC, stC, -, -, asC, slC⟩ := id C
  cases hD.symm.trans hD'
  obtain ⟨D2, kD, e1, e2, e3, e4, e5⟩ := id E
  cases hD.symm.trans e1
  obtain ⟨c2, k2, i1, i2, i3, -⟩ := Cond.instantiable_spec wi
  cases e2.symm.trans i1
  cases e3.symm.trans i2
  obtain ⟨kU, u1, u2⟩ := al.2.2 _ _ e3
  have hB : Blank ST x D P.U := ⟨hD, ⟨knV, fun q hq => by rw [hq] at obV; cases obV⟩, by rw [al.findClass]; exact e2, kU, u1, by rw [u2]; exact i3, by rw [u2]; exact e5 i3⟩
  have F1 : Found ST "value" "[B" fV P.U := ⟨SBG.found_only al ⟨cfV, kV, iV, gV⟩, stV⟩
  have F2 : Found ST "coder" "B" fC P.U := ⟨SBG.found_only al ⟨cfC, kC, iC, gC⟩, stC⟩
  have hA : Ch b A P.U := ⟨⟨K.1, State.isArrayOf_alike al K.2.1, K.2.2, by omega⟩, hty⟩
  have hS : StaticIs P.U ST "COMPACT_STRINGS" "Z" (.int z) := by
    obtain ⟨cfS, iS, kS, fS, st, cS, t1, t2, t3, t4, t5, t6, t7⟩ := S
    exact StaticIs.there (s := { Z with heap := P.U.heap }) ⟨cfS, iS, kS, fS, st, cS, t1, t2, t3, t4, t5, (fun q => by rw [q] at t6; cases t6), t7⟩ al rfl
  obtain ⟨v, B, X', ⟨⟨hv, E', V', q1, q2, q3, q4, q5, q6, q7, q8, q9, q10, q11⟩, hl, hc, hs⟩, st⟩ := New1.pays x D fV fC b A z (tab_of (moved hZ hw)) hfr hlo m meth c P g ig mk _ X hg hsize hdg hW hn ⟨r1, r2, rfl, hB, F1, F2, hA, hS, hz, l0, l2, hp⟩
  have al' : Z.vm.Alike B.U.vm := hZ.alike.trans X'.warmed.alike
  have hsz : E'.slots.size = D.slots.size := by
    obtain ⟨-, -, -, kB, w1, w2, w3⟩ := q1
    obtain ⟨kB', y1, y2⟩ := al'.2.2 _ _ e3
    rw [q2.2.1] at w1
    cases w1.symm.trans y1
    rw [w3, e5 i3, y2]
  refine ⟨v, B, X', ⟨_, ⟨hv, ?_, ⟨by omega, fun y cy hy hn' => q10 y cy (by simpa using hn') hy, fun y cy hy => ?_⟩, q11, ⟨E', _, q1.1, by rw [q2.2.1]; exact e2, by rw [q2.2.1]; exact e3, by rw [q2.1]; exact obV, fun _ => by rw [hsz]; exact e5 i3⟩,
    ⟨E', cfV, kV, iV, fV, q1.1, gV, stV, by rw [q2.1]; exact knV, by rw [q2.1]; exact obV, by rw [q2.2.1]; exact asV, q3⟩, ⟨E', cfC, kC, iC, fC, q1.1, gC, stC, by rw [q2.1]; exact knV, by rw [q2.1]; exact obV, by rw [q2.2.1]; exact asC, q4⟩,
    ⟨V', ⟨q5.1, State.isArrayOf_alike al'.symm q5.2.1, q5.2.2.1⟩, q6, by rw [← al'.findClass]; exact q7, q8, fun j hj => by have := q9 j hj; rwa [Nat.zero_add] at this⟩, fun O n d w F n1 n2 => ?_⟩, hl, hc, hs⟩, st⟩
  · intro y hy
    simp only [List.mem_cons, List.not_mem_nil, or_false] at hy
    rcases hy with rfl | rfl <;> rfl
  · by_cases q : y = x
    · subst q
      cases hD.symm.trans hy
      exact ⟨E', q1.1, q2.2.1, q2.1, hsz⟩
    · exact ⟨cy, q10 y cy q hy, rfl, rfl, rfl⟩
  · obtain ⟨D3, cf, k, i, f, g1, g2, g3, g4, g5, g6, g7⟩ := F
    cases hD.symm.trans g1
    simp only [RoadKit.slotOf, g2, gV, gC, Option.map_some, Option.getD_some] at n1 n2
    exact ⟨E', cf, k, i, f, q1.1, g2, g3, by rw [q2.1]; exact g4, by rw [q2.1]; exact g5, by rw [q2.2.1]; exact g6, by rw [q2.2.2 f.slot (by simp [n1, n2])]; exact g7⟩
end StrChars.Road
namespace StrChars.Road
open Jvm Sem ClassFile Op Lib Jvm.Stand Jvm.Free Jvm.Free.XT
/-- WHAT COMES BACK, the byte[] as a list of values -/
def QA (Z : State) (x : Addr) (zn : Int32) (cs : List Int32) (h : Heap) (v : Option Value) (h' : Heap) (L : List Loc) : Prop := v = none ∧ (∀ y ∈ L, y.base = x) ∧ RoadKit.Keep h h' [x] ∧ h'.size = h.size + 1 ∧ RoadKit.Exa Z h' x ST ∧ RoadKit.Fld Z h' x ST "value" "[B" (.ref h.size) ∧ RoadKit.Fld Z h' x ST "coder" "B" (.int 0) ∧
  (∃ kb, Z.vm.findClass "[B" = some kb ∧ RoadKit.Arv Z h' h.size kb .byte zn (cs.map fun c => .int (lo8 c)) (.int 0)) ∧
  ∀ (O n d : String) (w : Value), RoadKit.Fld Z h x O n d w → RoadKit.slotOf Z O n d ≠ RoadKit.slotOf Z ST "value" "[B" → RoadKit.slotOf Z O n d ≠ RoadKit.slotOf Z ST "coder" "B" → RoadKit.Fld Z h' x O n d w
/-- **new String(chars) AT A CALL, THE ARRAYS AS LISTS**: the char[] at b holds cs, not empty, no char above 255 -/
theorem backArv {p : Program} {l : Launch} {e : Env} {R : Room} {s : State} {args : Array Value} {below : List Frame} {len W : Nat} {Z : State} {a0 : Array Value} {h : Heap} (hZ : Z.Warmed39 s.vm) (hw : ∀ d ∈ words, d.before a0 Z = true) {kI : Nat} (wi : (Jvm.Cond.instantiable ST kI).before a0 Z = true)
    {x b : Addr} {k : ClassId} {zn z : Int32} {cs : List Int32} {dv v0 c0 : Value} (E : RoadKit.Exa Z h x ST) (V : RoadKit.Fld Z h x ST "value" "[B" v0) (C : RoadKit.Fld Z h x ST "coder" "B" c0) (K : RoadKit.Arv Z h b k .char zn (cs.map Value.int) dv) (S : RoadKit.Sta Z h ST "COMPACT_STRINGS" "Z" (.int z)) (hz : ¬ z = 0)
    (hlen : zn.toNatClampNeg = cs.length) (h0 : 0 < cs.length) (hbig : cs.length ≤ 536870912) (hall : ∀ c ∈ cs, ¬ 255 < c) (hfr : 4 ≤ R.frames) (hlo : W + 65 ≤ R.locals) :
    Back l R p e below s args New1.yN len W (fun P a => a = #[.ref x, .ref b] ∧ P.U.heap = h ∧ P.cells + 1 ≤ R.cells ∧ P.slots + cs.length ≤ R.slots)
      (fun P _ v B => ∃ L, QA Z x zn cs h v B.U.heap L ∧ B.locs = P.locs ++ L ∧ B.cells = P.cells + 1 ∧ B.slots = P.slots + cs.length) := by
  obtain ⟨A, K1, K2, K3, K4, K5, K6⟩ := K
  have e : A.slots.size = cs.length := K3.trans hlen
  have hat : ∀ (i : Nat) (hi : i < cs.length), A.slots[i]? = some (.int cs[i]) := fun i hi => by rw [K5 i (by omega)]; simp [List.getD_eq_getElem?_getD, hi]
  have hcv : ∀ (i : Nat) (hi : i < cs.length), cv A i = cs[i] := fun i hi => by unfold cv; rw [hat i hi]
  have hty : Typed .char A := fun i v hv => by
    have hi : i < A.slots.size := (Array.getElem?_eq_some_iff.mp hv).1
    have q := K5 i hi
    rw [hv] at q
    rw [Option.some.inj q]
    exact K6 i hi
  refine Back.mono (back hZ hw wi E V C K1 hty S hz (by omega) (by omega) (fun i hi => by rw [hcv i (by omega)]; exact hall _ (List.getElem_mem _)) hfr hlo) (fun P a hp => ⟨hp.1, hp.2.1, hp.2.2.1, by rw [e]; exact hp.2.2.2⟩) (fun P a v B hp hq => ?_)
  obtain ⟨L, ⟨q1, q2, q3, q4, q5, q6, q7, ⟨V', v1, v2, v3, v4, v5⟩, q9⟩, hl, hc, hs⟩ := hq
  refine ⟨L, ⟨q1, q2, q3, q4, q5, q6, q7, ⟨V'.cls, v3, V', v1, rfl, by rw [v4, e, hlen], K4, fun i hi => ?_, fun i hi => ?_⟩, q9⟩, hl, hc, by rw [hs, e]⟩
  · have hi' : i < cs.length := by omega
    rw [v5 i (by omega), hcv i hi']; simp [List.getD_eq_getElem?_getD, hi']
  · have hi' : i < cs.length := by omega
    simp only [List.getD_eq_getElem?_getD, List.getElem?_map, List.getElem?_eq_getElem hi', Option.map_some, Option.getD_some]
    exact fits_lo8 _
end StrChars.Road
namespace StrChars.Road
open Jvm Sem ClassFile Op Lib Jvm.Stand Jvm.Free Jvm.Free.XT
/-- WHAT COMES BACK, in the writer's own shape -/
def QV (Z : State) (x : Addr) (N : Int32) (bs : List Int32) (h : Heap) (n0 : Nat) (v : Option Value) (h' : Heap) (L : List Loc) : Prop := v = none ∧ RoadKit.Fr n0 L ∧ RoadKit.Keep h h' [x] ∧ RoadKit.Exa Z h' x ST ∧ RoadKit.Fld Z h' x ST "coder" "B" (.int 0) ∧
  ∃ (t : Addr) (kb : ClassId), n0 ≤ t ∧ h.size ≤ t ∧ ¬ t = x ∧ RoadKit.Fld Z h' x ST "value" "[B" (.ref t) ∧ RoadKit.Arv Z h' t kb .byte N (bs.map Value.int) (.int 0)
/-- **new String(chars) AT A CALL, FOR THE WRITER**: a char[] of n known ints, each 0 to 255 -/
theorem backV {p : Program} {l : Launch} {e : Env} {R : Room} {s : State} {args : Array Value} {below : List Frame} {len W : Nat} {Z : State} {a0 : Array Value} {h : Heap} (hZ : Z.Warmed39 s.vm) (hw : ∀ d ∈ words, d.before a0 Z = true) {kI : Nat} (wi : (Jvm.Cond.instantiable ST kI).before a0 Z = true)
    {x b : Addr} {kC : ClassId} {cs bs : List Int32} {d v0 c0 : Value} {z N : Int32} {n n0 : Nat} (hx0 : n0 ≤ x) (hh0 : n0 ≤ h.size) (E : RoadKit.Exa Z h x ST) (V : RoadKit.Fld Z h x ST "value" "[B" v0) (C : RoadKit.Fld Z h x ST "coder" "B" c0) (K : RoadKit.Arv Z h b kC .char N (cs.map Value.int) d) (S : RoadKit.Sta Z h ST "COMPACT_STRINGS" "Z" (.int z)) (hz : ¬ z = 0)
    (hn : cs.length = n) (hN : N = Int32.ofNat n) (l0 : 0 < n) (l2 : n ≤ 4000) (hp : ∀ c ∈ cs, ¬ c < 0 ∧ ¬ (255 : Int32) < c) (hb : bs = cs.map (fun c => c.toInt8.toInt32)) (hfr : 4 ≤ R.frames) (hlo : W + 65 ≤ R.locals) :
    Back l R p e below s args (⟨"java/lang/String", "<init>", "([C)V"⟩ : MethodName) len W (fun P a => a = #[.ref x, .ref b] ∧ P.U.heap = h ∧ P.cells + 1 ≤ R.cells ∧ P.slots + n ≤ R.slots)
      (fun P _ v B => ∃ L, QV Z x N bs h n0 v B.U.heap L ∧ B.locs = P.locs ++ L ∧ B.cells = P.cells + 1 ∧ B.slots = P.slots + n) := by
  subst hn hN hb
  refine Back.mono (backArv hZ hw wi E V C K S hz (n32 (by omega)) l0 (by omega) (fun c hc => (hp c hc).2) hfr hlo) (fun P a hp => hp) (fun P a v B hp hq => ?_)
  obtain ⟨L, ⟨q1, q2, q3, q4, q5, q6, q7, ⟨kb, v1, v2⟩, q9⟩, hl, hc, hs⟩ := hq
  exact ⟨L, ⟨q1, fun y hy => by rw [q2 y hy]; exact hx0, q3, q5, q7, h.size, kb, hh0, Nat.le_refl _, Nat.ne_of_gt E.lt, q6, by rw [List.map_map]; exact v2⟩, hl, hc, hs⟩
end StrChars.Road
namespace StrChars
open Jvm Sem ClassFile Op Lib Jvm.Stand Jvm.Free.XT Jvm.Free.ALB Jvm.Free.JM Jvm.Free
open Jvm.Lib.Cold (StaticIs)
def hi8 (x : Int32) : Int32 := lo8 (x >>> ((8 : Int32) &&& 31))
/-- what StringUTF16.getChar makes of two bytes -/
def pairCh (u v : Int32) : Int32 := (((u &&& 255) <<< ((0 : Int32) &&& 31)) ||| ((v &&& 255) <<< ((8 : Int32) &&& 31))).toUInt32.toUInt16.toUInt32.toInt32
theorem lo8_and (x : Int32) : (lo8 x &&& 255).toBitVec.toNat = x.toBitVec.toNat % 256 := by
  have h : (lo8 x).toBitVec = (x.toBitVec.signExtend 8).signExtend 32 := by rw [lo8, Int8.toBitVec_toInt32, Int32.toBitVec_toInt8]
  rw [Int32.toBitVec_and, BitVec.toNat_and, h]
  have e : ((x.toBitVec.signExtend 8).signExtend 32).toNat % 256 = x.toBitVec.toNat % 256 := by
    rw [BitVec.toNat_signExtend]
    have hlt := x.toBitVec.isLt
    simp only [BitVec.toNat_setWidth, BitVec.toNat_signExtend]
    split <;> split <;> omega
  rw [← e]
  exact Nat.and_two_pow_sub_one_eq_mod _ 8
theorem pair_says {c : Int32} (h0 : ¬ c < 0) (h1 : ¬ 65535 < c) : pairCh (lo8 c) (hi8 c) = c := by
  rw [Int32.lt_iff_toInt_lt] at h0 h1
  have e0 : (0 : Int32).toInt = 0 := rfl
  have e1 : (65535 : Int32).toInt = 65535 := rfl
  have hc : c.toInt = c.toBitVec.toNat := by
    have := c.toBitVec.isLt
    have e : c.toInt = c.toBitVec.toInt := rfl
    rw [e] at h0 h1
    rw [e]
    rw [BitVec.toInt_eq_toNat_cond] at h0 h1 ⊢
    split at h0 <;> split <;> omega
  have hn : c.toBitVec.toNat < 65536 := by omega
  have a1 := lo8_and c
  have a2 : (hi8 c &&& 255).toBitVec.toNat = c.toBitVec.toNat / 256 := by
    rw [hi8, lo8_and]
    have e : ((8 : Int32) &&& 31) = 8 := by decide
    rw [e, Int32.toBitVec_shiftRight]
    have e2 : ((8 : Int32).toBitVec.smod 32) = 8#32 := by decide
    rw [e2, BitVec.sshiftRight_eq', BitVec.toNat_sshiftRight_of_msb_false (by rw [BitVec.msb_eq_false_iff_two_mul_lt]; omega)]
    show c.toBitVec.toNat >>> 8 % 256 = _
    rw [Nat.shiftRight_eq_div_pow]
    omega
  unfold pairCh
  apply Int32.toBitVec_inj.mp
  apply BitVec.eq_of_toNat_eq
  have f0 : ((0 : Int32) &&& 31) = 0 := by decide
  have f8 : ((8 : Int32) &&& 31) = 8 := by decide
  rw [f0, f8]
  have g : (((lo8 c &&& 255) <<< (0 : Int32)) ||| ((hi8 c &&& 255) <<< (8 : Int32))).toBitVec.toNat = c.toBitVec.toNat := by
    rw [Int32.toBitVec_or, Int32.toBitVec_shiftLeft, Int32.toBitVec_shiftLeft]
    have s0 : ((0 : Int32).toBitVec.smod 32) = 0#32 := by decide
    have s8 : ((8 : Int32).toBitVec.smod 32) = 8#32 := by decide
    rw [s0, s8, BitVec.toNat_or]
    simp only [BitVec.shiftLeft_eq', BitVec.toNat_shiftLeft, a1, a2]
    show (c.toBitVec.toNat % 256) <<< 0 % 2 ^ 32 ||| (c.toBitVec.toNat / 256) <<< 8 % 2 ^ 32 = _
    rw [Nat.shiftLeft_zero, Nat.mod_eq_of_lt (show c.toBitVec.toNat % 256 < 2 ^ 32 by omega), Nat.mod_eq_of_lt (show (c.toBitVec.toNat / 256) <<< 8 < 2 ^ 32 by rw [Nat.shiftLeft_eq]; omega), Nat.or_comm, ← Nat.shiftLeft_add_eq_or_of_lt (by omega), Nat.shiftLeft_eq]
    omega
  show BitVec.toNat (((((lo8 c &&& 255) <<< (0 : Int32)) ||| ((hi8 c &&& 255) <<< (8 : Int32))).toBitVec.setWidth 16).setWidth 32) = _
  rw [BitVec.toNat_setWidth, BitVec.toNat_setWidth, g]
  omega
end StrChars
namespace StrChars
open Jvm Sem ClassFile Op Lib Jvm.Stand Jvm.Free.XT Jvm.Free.ALB Jvm.Free.JM Jvm.Free
open Jvm.Lib.Cold (StaticIs)
/-- the array's cell V codes the n chars f 0 .. f (n - 1) by the coder cd, as the JDK does: coder 1 just where some char is above 255 -/
def Cod (cd : Int32) (n : Nat) (f : Nat → Int32) (V : Cell) : Prop := (cd = 0 ∧ V.slots.size = n ∧ ∀ j, j < n → V.slots[j]? = some (.int (lo8 (f j))) ∧ ¬ 255 < f j) ∨ (cd = 1 ∧ V.slots.size = 2 * n ∧ (∀ j, j < n → V.slots[2 * j]? = some (.int (lo8 (f j))) ∧ V.slots[2 * j + 1]? = some (.int (hi8 (f j)))) ∧ ∃ j, j < n ∧ 255 < f j)
/-- **x is a String of the n chars f 0 .. f (n - 1)**, Latin-1 or UTF-16; its array at t has the cell V -/
def Txt (x t : Addr) (V : Cell) (cd : Int32) (n : Nat) (f : Nat → Int32) (U : State) : Prop := Exact "java/lang/String" x U ∧ Has x "java/lang/String" "value" "[B" (.ref t) U ∧ Has x "java/lang/String" "coder" "B" (.int cd) U ∧ XT.Arr .byte t V U ∧ Cod cd n f V ∧ ∀ j, j < n → ¬ f j < 0 ∧ ¬ 65535 < f j
theorem Txt.mv {x t : Addr} {V : Cell} {cd : Int32} {n : Nat} {f : Nat → Int32} {U U' : State} (h : Txt x t V cd n f U) (hal : U.vm.Alike U'.vm) (hh : U'.heap = U.heap) : Txt x t V cd n f U' := ⟨h.1.mv hal hh, h.2.1.mv hal hh, h.2.2.1.mv hal hh, h.2.2.2.1.mv hal hh, h.2.2.2.2⟩
end StrChars
namespace StrChars.Road
open Jvm Sem ClassFile Op Lib Jvm.Stand Jvm.Free Jvm.Free.XT
open Jvm.Lib.Cold (StaticIs)
theorem consq {a : Array Value} {s : State} {c : Jvm.Cond} {L : List Jvm.Cond} (h0 : c.before a s = true) (h : ∀ w ∈ L, w.before a s = true) : ∀ w ∈ c :: L, w.before a s = true := fun w hw => (List.mem_cons.mp hw).elim (fun e => e ▸ h0) (h w)
/-- the bytes of the chars cs, low before high -/
def wideBytes : List Int32 → List Value
  | [] => []
  | c :: cs => .int (lo8 c) :: .int (hi8 c) :: wideBytes cs
theorem wide_lo (d : Value) : ∀ (cs : List Int32) (j : Nat), j < cs.length → (wideBytes cs).getD (2 * j) d = .int (lo8 (cs.getD j 0))
  | [], j, h => absurd h (Nat.not_lt_zero j)
  | c :: cs, 0, _ => rfl
  | c :: cs, j + 1, h => by
    have q := wide_lo d cs j (by simpa using h)
    rw [show 2 * (j + 1) = 2 * j + 1 + 1 from by omega]
    simpa [wideBytes] using q
theorem wide_hi (d : Value) : ∀ (cs : List Int32) (j : Nat), j < cs.length → (wideBytes cs).getD (2 * j + 1) d = .int (hi8 (cs.getD j 0))
  | [], j, h => absurd h (Nat.not_lt_zero j)
  | c :: cs, 0, _ => rfl
  | c :: cs, j + 1, h => by
    have q := wide_hi d cs j (by simpa using h)
    rw [show 2 * (j + 1) + 1 = 2 * j + 1 + 1 + 1 from by omega]
    simpa [wideBytes] using q
theorem low_at (d : Value) (cs : List Int32) (j : Nat) (h : j < cs.length) : (cs.map fun c => Value.int (lo8 c)).getD j d = .int (lo8 (cs.getD j 0)) := by
  simp [List.getD_eq_getElem?_getD, h]
/-- an array of N2 bytes vs codes the chars cs by the coder cd -/
def CodA (cs : List Int32) (cd N2 : Int32) (vs : List Value) : Prop := (cd = 0 ∧ N2 = Int32.ofNat cs.length ∧ vs = (cs.map fun c => Value.int (lo8 c)) ∧ ∀ c ∈ cs, ¬ 255 < c) ∨ (cd = 1 ∧ N2 = Int32.ofNat (2 * cs.length) ∧ vs = wideBytes cs ∧ ∃ c ∈ cs, 255 < c)
theorem CodA.cod {cs : List Int32} {cd N2 : Int32} {vs : List Value} {V : Cell} (h : CodA cs cd N2 vs) (hn : 2 * cs.length < 2 ^ 31) (hs : V.slots.size = N2.toNatClampNeg) (hv : RoadKit.Has V vs (.int 0)) : Cod cd cs.length (fun j => cs.getD j 0) V := by
  rcases h with ⟨rfl, rfl, rfl, h⟩ | ⟨rfl, rfl, rfl, c, hc, hw⟩
  · rw [n32 (by omega)] at hs
    exact Or.inl ⟨rfl, hs, fun j hj => ⟨by rw [hv j (by omega), low_at _ _ _ hj], by
      have e : cs.getD j 0 = cs[j] := by simp [List.getD_eq_getElem?_getD, hj]
      show ¬ 255 < cs.getD j 0
      rw [e]; exact h _ (List.getElem_mem _)⟩⟩
  · rw [n32 (by omega)] at hs
    obtain ⟨j, hj, rfl⟩ := List.getElem_of_mem hc
    exact Or.inr ⟨rfl, hs, fun j hj => ⟨by rw [hv _ (by omega), wide_lo _ _ _ hj], by rw [hv _ (by omega), wide_hi _ _ _ hj]⟩, j, hj, by
      have e : cs.getD j 0 = cs[j] := by simp [List.getD_eq_getElem?_getD, hj]
      show 255 < cs.getD j 0
      rw [e]; exact hw⟩
/-- an object of exactly java/lang/String, its two fields found: as the laws ask it -/
theorem strObj {Z U : State} {a0 : Array Value} {kI : Nat} (wi : (Jvm.Cond.instantiable ST kI).before a0 Z = true) (al : Z.vm.Alike U.vm) {x : Addr} {v0 c0 : Value} (E : RoadKit.Exa Z U.heap x ST) (V : RoadKit.Fld Z U.heap x ST "value" "[B" v0) (C : RoadKit.Fld Z U.heap x ST "coder" "B" c0) :
    ∃ (D : Cell) (fV fC : Field), Blank ST x D U ∧ Found ST "value" "[B" fV U ∧ Found ST "coder" "B" fC U ∧ D.slots[fV.slot]? = some v0 ∧ D.slots[fC.slot]? = some c0 ∧ RoadKit.slotOf Z ST "value" "[B" = fV.slot ∧ RoadKit.slotOf Z ST "coder" "B" = fC.slot := by
  obtain ⟨D, cfV, kV, iV, fV, hD, gV, stV, knV, obV, asV, slV⟩ := V
  obtain ⟨D', cfC, kC, iC, fC, hD', gC, stC, -, -, asC, slC⟩ := C
  cases hD.symm.trans hD'
  obtain ⟨D2, kD, e1, e2, e3, e4, e5⟩ := E
  cases hD.symm.trans e1
  obtain ⟨c2, k2, i1, i2, i3, -⟩ := Cond.instantiable_spec wi
  cases e2.symm.trans i1
  cases e3.symm.trans i2
  obtain ⟨kU, u1, u2⟩ := al.2.2 _ _ e3
  exact ⟨D, fV, fC, ⟨hD, ⟨knV, fun q hq => by rw [hq] at obV; cases obV⟩, by rw [al.findClass]; exact e2, kU, u1, by rw [u2]; exact i3, by rw [u2]; exact e5 i3⟩, ⟨SBG.found_only al ⟨cfV, kV, iV, gV⟩, stV⟩, ⟨SBG.found_only al ⟨cfC, kC, iC, gC⟩, stC⟩, slV, slC, by simp [RoadKit.slotOf, gV], by simp [RoadKit.slotOf, gC]⟩
theorem sta_is {Z U : State} (al : Z.vm.Alike U.vm) {C n d : String} {v : Value} (S : RoadKit.Sta Z U.heap C n d v) : StaticIs U C n d v := by
  obtain ⟨cfS, iS, kS, fS, st, cS, t1, t2, t3, t4, t5, t6, t7⟩ := S
  exact StaticIs.there (s := { Z with heap := U.heap }) ⟨cfS, iS, kS, fS, st, cS, t1, t2, t3, t4, t5, (fun q => by rw [q] at t6; cases t6), t7⟩ al rfl
end StrChars.Road
namespace StrChars
open Jvm Sem ClassFile Op Lib Jvm.Stand Jvm.Free.XT Jvm.Free.ALB Jvm.Free.JM Jvm.Free
open Jvm.Lib.Cold (StaticIs)
/-- what place i of a byte[]'s cell holds -/
def yv (A : Cell) (i : Nat) : Int32 := match A.slots[i]? with | some (.int x) => x | _ => 0
theorem yv_get {a : Addr} {A : Cell} {U : State} (h : XT.Arr .byte a A U) (ht : Typed .byte A) {i : Nat} (hi : i < A.slots.size) : A.slots[i]? = some (.int (yv A i)) := by
  have e := Array.getElem?_eq_getElem hi
  have f := ht i _ e
  unfold yv; rw [e]
  generalize A.slots[i] = v at f
  cases v <;> simp [fits] at f ⊢
/-- the two arrays are equal, place for place -/
def EqC (A B : Cell) : Prop := A.slots.size = B.slots.size ∧ ∀ i, i < A.slots.size → yv A i = yv B i
/-- a boolean that says whether p -/
def Says01 (q : Prop) (r : Option Value) (s u : State) : Prop := ∃ v : Int32, r = some (.int v) ∧ u.heap = s.heap ∧ ((v = 1 ∧ q) ∨ (v = 0 ∧ ¬ q))
theorem Says01.mv {q : Prop} : ∀ r (U U' V V' : State), U'.heap = U.heap → V.vm.Alike V'.vm → V'.heap = V.heap → Says01 q r U V → Says01 q r U' V' :=
  fun r U U' V V' h1 _ h2 ⟨v, a, b, c⟩ => ⟨v, a, by rw [h1, h2]; exact b, c⟩
namespace LEq
def yN : MethodName := ⟨"java/lang/StringLatin1", "equals", "([B[B)Z"⟩
abbrev yB : ByteArray := jdk_43_method_13_code
theorem d0 : decode yB 0 = .ok (.aload_n 0, 1) := by decide +kernel
theorem d1 : decode yB 1 = .ok (.arraylength, 1) := by decide +kernel
theorem d2 : decode yB 2 = .ok (.aload_n 1, 1) := by decide +kernel
theorem d3 : decode yB 3 = .ok (.arraylength, 1) := by decide +kernel
theorem d4 : decode yB 4 = .ok (.if_icmp (.ne) 30, 3) := by decide +kernel
theorem d7 : decode yB 7 = .ok (.iconst 0, 1) := by decide +kernel
theorem d8 : decode yB 8 = .ok (.istore_n 2, 1) := by decide +kernel
theorem d9 : decode yB 9 = .ok (.iload_n 2, 1) := by decide +kernel
theorem d10 : decode yB 10 = .ok (.aload_n 0, 1) := by decide +kernel
theorem d11 : decode yB 11 = .ok (.arraylength, 1) := by decide +kernel
theorem d12 : decode yB 12 = .ok (.if_icmp (.ge) 20, 3) := by decide +kernel
theorem d15 : decode yB 15 = .ok (.aload_n 0, 1) := by decide +kernel
theorem d16 : decode yB 16 = .ok (.iload_n 2, 1) := by decide +kernel
theorem d17 : decode yB 17 = .ok (.baload, 1) := by decide +kernel
theorem d18 : decode yB 18 = .ok (.aload_n 1, 1) := by decide +kernel
theorem d19 : decode yB 19 = .ok (.iload_n 2, 1) := by decide +kernel
theorem d20 : decode yB 20 = .ok (.baload, 1) := by decide +kernel
theorem d21 : decode yB 21 = .ok (.if_icmp (.eq) 5, 3) := by decide +kernel
theorem d24 : decode yB 24 = .ok (.iconst 0, 1) := by decide +kernel
theorem d25 : decode yB 25 = .ok (.ireturn, 1) := by decide +kernel
theorem d26 : decode yB 26 = .ok (.iinc 2 1, 3) := by decide +kernel
theorem d29 : decode yB 29 = .ok (.goto (-20), 3) := by decide +kernel
theorem d32 : decode yB 32 = .ok (.iconst 1, 1) := by decide +kernel
theorem d33 : decode yB 33 = .ok (.ireturn, 1) := by decide +kernel
theorem d34 : decode yB 34 = .ok (.iconst 0, 1) := by decide +kernel
theorem d35 : decode yB 35 = .ok (.ireturn, 1) := by decide +kernel
def site : List Cond := []
def tab : Cond := tabOf yN yB 3 (some .boolean) site
def P (a : Addr) (A : Cell) (b : Addr) (B : Cell) (args : Array Value) (s : State) : Prop := args = #[.ref a, .ref b] ∧ XT.Arr .byte a A s ∧ Typed .byte A ∧ XT.Arr .byte b B s ∧ Typed .byte B
/-- whether two byte[] are equal, place for place -/
theorem law (l : Launch) (a : Addr) (A : Cell) (b : Addr) (B : Cell) : Law l yN 2 2 0 0 yB 3 (some .boolean) site (P a A b B) (Says01 (EqC A B)) [] 0 0 := by
  refine Law.of_walk (plainFor_of_name (by decide +kernel)) (by decide +kernel) (by decide +kernel) (by decide) (fun _ _ h => by rw [h.1]; rfl) (fun _ U U' hal hh h => ⟨h.1, h.2.1.mv hal hh, h.2.2.1, h.2.2.2.1.mv hal hh, h.2.2.2.2⟩) (fun r U U' V V' h1 hal h2 h => Says01.mv r U U' V V' h1 hal h2 h) ?_
  intro p e s m args below meth c s₁ X0 hexec hbytes hml hret hlk hnm hown hh0 W hP
  obtain ⟨rfl, hA, tA, hB, tB⟩ := hP
  have a31 := hA.2.2.2
  have b31 := hB.2.2.2
  have hA0 := hA.mv X0.warmed.alike hh0
  have hB0 := hB.mv X0.warmed.alike hh0
  have c1 : Steps p.tables e below (s₁.setTop (entryFrame m #[.ref a, .ref b] 3)) (s₁.setTop (mkF m 0 #[.val (.ref a), .val (.ref b), .unset] [])) := entry rfl
  have c2 : Steps p.tables e below (s₁.setTop (entryFrame m #[.ref a, .ref b] 3)) (s₁.setTop (mkF m 4 #[.val (.ref a), .val (.ref b), .unset] [.int (Int32.ofNat B.slots.size), .int (Int32.ofNat A.slots.size)])) := c1.trans (by
    refine XS.aloadN X0.here hexec rfl (hb hbytes d0) rfl rfl ?_
    refine X0.alen hexec hA0 rfl rfl (hb hbytes d1) ?_
    refine XS.aloadN X0.here hexec rfl (hb hbytes d2) rfl rfl ?_
    refine X0.alen hexec hB0 rfl rfl (hb hbytes d3) ?_
    exact Steps.refl _)
  by_cases hs : A.slots.size = B.slots.size
  · have c3 : Steps p.tables e below (s₁.setTop (entryFrame m #[.ref a, .ref b] 3)) (s₁.setTop (mkF m 9 #[.val (.ref a), .val (.ref b), .val (.int 0)] [])) := c2.trans (by
      refine XS.icmpNo X0.here hexec rfl (hb hbytes d4) rfl (ii_ne_f (by rw [hs])) ?_
      refine iconstV X0.here hexec rfl 0 (hb hbytes d7) (by decide) ?_
      refine XS.istoreN X0.here hexec rfl (hb hbytes d8) rfl rfl ?_
      exact Steps.refl _)
    have loop : ∀ (r i : Nat), i + r = A.slots.size → (∀ j, j < i → yv A j = yv B j) → Steps p.tables e below (s₁.setTop (entryFrame m #[.ref a, .ref b] 3)) (s₁.setTop (mkF m 9 #[.val (.ref a), .val (.ref b), .val (.int (Int32.ofNat i))] [])) → ∃ (pc : Nat) (Ls : Array Slot) (v : Int32), (pc = 25 ∨ pc = 33) ∧ ((v = 1 ∧ EqC A B) ∨ (v = 0 ∧ ¬ EqC A B)) ∧ Steps p.tables e below (s₁.setTop (entryFrame m #[.ref a, .ref b] 3)) (s₁.setTop (mkF m pc Ls [.int v])) := by
      intro r
      induction r with
      | zero =>
        intro i hi he cl
        exact ⟨33, _, 1, Or.inr rfl, Or.inl ⟨rfl, hs, fun j hj => he j (by omega)⟩, cl.trans (by
          refine XS.iloadN X0.here hexec rfl (hb hbytes d9) rfl ?_
          refine XS.aloadN X0.here hexec rfl (hb hbytes d10) rfl rfl ?_
          refine X0.alen hexec hA0 rfl rfl (hb hbytes d11) ?_
          refine XS.icmpYes X0.here hexec rfl (pc0 := 12) rfl (hb hbytes d12) rfl (ii_ge_t (nlt32 (by omega) (by omega))) (by decide) rfl ?_
          refine iconstV X0.here hexec rfl 1 (hb hbytes d32) (by decide) ?_
          exact Steps.refl _)⟩
      | succ r ih =>
        intro i hi he cl
        have c4 : Steps p.tables e below (s₁.setTop (entryFrame m #[.ref a, .ref b] 3)) (s₁.setTop (mkF m 21 #[.val (.ref a), .val (.ref b), .val (.int (Int32.ofNat i))] [.int (yv B i), .int (yv A i)])) := cl.trans (by
          refine XS.iloadN X0.here hexec rfl (hb hbytes d9) rfl ?_
          refine XS.aloadN X0.here hexec rfl (hb hbytes d10) rfl rfl ?_
          refine X0.alen hexec hA0 rfl rfl (hb hbytes d11) ?_
          refine XS.icmpNo X0.here hexec rfl (hb hbytes d12) rfl (ii_ge_f (lt32 (by omega) (by omega))) ?_
          refine XS.aloadN X0.here hexec rfl (hb hbytes d15) rfl rfl ?_
          refine XS.iloadN X0.here hexec rfl (hb hbytes d16) rfl ?_
          refine X0.aget hexec hA0 rfl (yv_get hA tA (i := i) (by omega)) rfl rfl (hb hbytes d17) ?_
          refine XS.aloadN X0.here hexec rfl (hb hbytes d18) rfl rfl ?_
          refine XS.iloadN X0.here hexec rfl (hb hbytes d19) rfl ?_
          refine X0.aget hexec hB0 rfl (yv_get hB tB (i := i) (by omega)) rfl rfl (hb hbytes d20) ?_
          exact Steps.refl _)
        by_cases hv : yv A i = yv B i
        · have c5 : Steps p.tables e below (s₁.setTop (entryFrame m #[.ref a, .ref b] 3)) (s₁.setTop (mkF m 9 #[.val (.ref a), .val (.ref b), .val (.int (Int32.ofNat i + 1))] [])) := c4.trans (by
            refine XS.icmpYes X0.here hexec rfl (pc0 := 21) rfl (hb hbytes d21) rfl (ii_eq_t hv) (by decide) rfl ?_
            refine iincV X0.here hexec rfl 1 (hb hbytes d26) (by decide) rfl rfl ?_
            refine XS.goto X0.here hexec rfl (pc0 := 29) rfl (hb hbytes d29) (by decide) rfl ?_
            exact Steps.refl _)
          rw [succ32] at c5
          exact ih (i + 1) (by omega) (fun j hj => by
            by_cases e : j = i
            · rw [e]; exact hv
            · exact he j (by omega)) c5
        · exact ⟨25, _, 0, Or.inl rfl, Or.inr ⟨rfl, fun q => hv (q.2 i (by omega))⟩, c4.trans (by
            refine XS.icmpNo X0.here hexec rfl (hb hbytes d21) rfl (ii_eq_f hv) ?_
            refine iconstV X0.here hexec rfl 0 (hb hbytes d24) (by decide) ?_
            exact Steps.refl _)⟩
    obtain ⟨pc, Ls, v, hpc, hv, cz⟩ := loop A.slots.size 0 (by omega) (fun j hj => absurd hj (Nat.not_lt_zero j)) c3
    have nv : narrow .boolean (.int v) = .int v := by rcases hv with ⟨rfl, -⟩ | ⟨rfl, -⟩ <;> rfl
    rcases hpc with rfl | rfl
    · exact ⟨s₁, some (.int v), _, _, _, X0, rfl, rfl, rfl, (fun h => by cases h), ⟨v, rfl, hh0, hv⟩, fun fs hl => cz.trans (X0.ireturnOut hexec hret nv (Or.inr (Or.inl rfl)) (hb hbytes d25) hl)⟩
    · exact ⟨s₁, some (.int v), _, _, _, X0, rfl, rfl, rfl, (fun h => by cases h), ⟨v, rfl, hh0, hv⟩, fun fs hl => cz.trans (X0.ireturnOut hexec hret nv (Or.inr (Or.inl rfl)) (hb hbytes d33) hl)⟩
  · have c3 : Steps p.tables e below (s₁.setTop (entryFrame m #[.ref a, .ref b] 3)) (s₁.setTop (mkF m 35 #[.val (.ref a), .val (.ref b), .unset] [.int 0])) := c2.trans (by
      refine XS.icmpYes X0.here hexec rfl (pc0 := 4) rfl (hb hbytes d4) rfl (ii_ne_t (ne32 a31 b31 hs)) (by decide) rfl ?_
      refine iconstV X0.here hexec rfl 0 (hb hbytes d34) (by decide) ?_
      exact Steps.refl _)
    exact ⟨s₁, some (.int 0), _, _, _, X0, rfl, rfl, rfl, (fun h => by cases h), ⟨0, rfl, hh0, Or.inr ⟨rfl, fun q => hs q.1⟩⟩, fun fs hl => c3.trans (X0.ireturnOut hexec hret rfl (Or.inr (Or.inl rfl)) (hb hbytes d35) hl)⟩
end LEq
theorem Cod.ty {cd : Int32} {n : Nat} {f : Nat → Int32} {V : Cell} (h : Cod cd n f V) : Typed .byte V := fun i v hv => by
  have hi : i < V.slots.size := (Array.getElem?_eq_some_iff.mp hv).1
  rcases h with ⟨-, k1, k2⟩ | ⟨-, k1, k2, -⟩
  · rw [(k2 i (by omega)).1] at hv; cases hv; exact fits_lo8 _
  · rcases Nat.mod_two_eq_zero_or_one i with e | e
    · obtain ⟨j, rfl⟩ : ∃ j, i = 2 * j := ⟨i / 2, by omega⟩
      rw [(k2 j (by omega)).1] at hv; cases hv; exact fits_lo8 _
    · obtain ⟨j, rfl⟩ : ∃ j, i = 2 * j + 1 := ⟨i / 2, by omega⟩
      rw [(k2 j (by omega)).2] at hv; cases hv; exact fits_lo8 _
/-- the same text -/
def SameT (n : Nat) (f : Nat → Int32) (k : Nat) (g : Nat → Int32) : Prop := n = k ∧ ∀ j, j < n → f j = g j
theorem lo8_inj {x y : Int32} (h0 : ¬ x < 0) (h1 : ¬ 255 < x) (k0 : ¬ y < 0) (k1 : ¬ 255 < y) (h : lo8 x = lo8 y) : x = y := by
  rw [← lo8_mask h0 h1, ← lo8_mask k0 k1, h]
/-- arrays coded by one coder are equal just where the texts are -/
theorem Cod.eqv {cd : Int32} {n k : Nat} {f g : Nat → Int32} {V V' : Cell} (h : Cod cd n f V) (h' : Cod cd k g V') (hf : ∀ j, j < n → ¬ f j < 0 ∧ ¬ 65535 < f j) (hg : ∀ j, j < k → ¬ g j < 0 ∧ ¬ 65535 < g j) : EqC V V' ↔ SameT n f k g := by
  have yvv : ∀ {W : Cell} {i : Nat} {x : Int32}, W.slots[i]? = some (.int x) → yv W i = x := fun q => by unfold yv; rw [q]
  rcases h with ⟨rfl, k1, k2⟩ | ⟨rfl, k1, k2, -⟩
  · rcases h' with ⟨-, m1, m2⟩ | ⟨e, -⟩
    · constructor
      · rintro ⟨e1, e2⟩
        refine ⟨by omega, fun j hj => ?_⟩
        have q := e2 j (by omega)
        rw [yvv (k2 j hj).1, yvv (m2 j (by omega)).1] at q
        exact lo8_inj (hf j hj).1 (k2 j hj).2 (hg j (by omega)).1 (m2 j (by omega)).2 q
      · rintro ⟨rfl, e2⟩
        refine ⟨by omega, fun j hj => ?_⟩
        rw [yvv (k2 j (by omega)).1, yvv (m2 j (by omega)).1, e2 j (by omega)]
    · exact absurd e (by decide)
  · rcases h' with ⟨e, -⟩ | ⟨-, m1, m2, -⟩
    · exact absurd e (by decide)
    · constructor
      · rintro ⟨e1, e2⟩
        refine ⟨by omega, fun j hj => ?_⟩
        have q1 := e2 (2 * j) (by omega)
        have q2 := e2 (2 * j + 1) (by omega)
        rw [yvv (k2 j hj).1, yvv (m2 j (by omega)).1] at q1
        rw [yvv (k2 j hj).2, yvv (m2 j (by omega)).2] at q2
        rw [← pair_says (hf j hj).1 (hf j hj).2, ← pair_says (hg j (by omega)).1 (hg j (by omega)).2, q1, q2]
      · rintro ⟨rfl, e2⟩
        refine ⟨by omega, fun i hi => ?_⟩
        rcases Nat.mod_two_eq_zero_or_one i with e | e
        · obtain ⟨j, rfl⟩ : ∃ j, i = 2 * j := ⟨i / 2, by omega⟩
          rw [yvv (k2 j (by omega)).1, yvv (m2 j (by omega)).1, e2 j (by omega)]
        · obtain ⟨j, rfl⟩ : ∃ j, i = 2 * j + 1 := ⟨i / 2, by omega⟩
          rw [yvv (k2 j (by omega)).2, yvv (m2 j (by omega)).2, e2 j (by omega)]
/-- two codings differ: so do the texts -/
theorem Cod.dif {cd cd' : Int32} {n k : Nat} {f g : Nat → Int32} {V V' : Cell} (h : Cod cd n f V) (h' : Cod cd' k g V') (hne : ¬ cd = cd') : ¬ SameT n f k g := by
  rintro ⟨rfl, e⟩
  rcases h with ⟨rfl, -, k2⟩ | ⟨rfl, -, -, j, hj, hw⟩
  · rcases h' with ⟨rfl, -⟩ | ⟨-, -, -, j, hj, hw⟩
    · exact hne rfl
    · exact (k2 j hj).2 (by rw [e j hj]; exact hw)
  · rcases h' with ⟨-, -, m2⟩ | ⟨rfl, -⟩
    · exact (m2 j hj).2 (by rw [← e j hj]; exact hw)
    · exact hne rfl
/-- an object of exactly C is an instance of C -/
theorem cinst {p : Program} {l : Launch} {e : Env} {R : Room} {s : State} {m : MethodId} {args : Array Value} {below : List Frame} {meth : Method} {c : Code} {T : State} {locs : List Loc} {cells slots : Nat} (X : Stand p l e R s m args below meth c T locs cells slots) (hexec : p.tables.exec = Jvm.exec) {own C : String} {index : Nat} (hown : s.vm.findClass own = some m.cls) (hlink : (Cond.classLink own index C).before args s = true) {a : Addr} (hE : Exact C a T)
    {g : JFrame} (hg : g.method = m) {rest : List Value} (hstack : g.stack = .ref a :: rest) (hdg : decode c.code g.pc = .ok (.instanceof index, 3)) :
    ∃ T', Stand p l e R s m args below meth c T' locs cells slots ∧ T'.heap = T.heap ∧ ∀ target, Steps p.tables e below (T'.setTop { g with pc := g.pc + 3, stack := .int 1 :: rest }) target → Steps p.tables e below (T.setTop g) target := by
  obtain ⟨cB, h1, D, h2, h3, h4⟩ := hE
  have h1' : s.vm.findClass C = some cB := by rw [← X.warmed.alike.findClass]; exact h1
  obtain ⟨vm', X', st⟩ := X.instanceofYes hexec hown hlink h2 h4 h1' (by rw [h3]; exact Jvm.Free.SB.assignable_self _ _) hg hstack hdg
  exact ⟨_, X', rfl, st⟩
theorem cself {p : Program} {l : Launch} {e : Env} {R : Room} {s : State} {m : MethodId} {args : Array Value} {below : List Frame} {meth : Method} {c : Code} {T : State} {locs : List Loc} {cells slots : Nat} (X : Stand p l e R s m args below meth c T locs cells slots) (hexec : p.tables.exec = Jvm.exec) {own C : String} {index : Nat} (hown : s.vm.findClass own = some m.cls) (hlink : (Cond.classLink own index C).before args s = true) {a : Addr} (hE : Exact C a T)
    {g : JFrame} (hg : g.method = m) {rest : List Value} (hstack : g.stack = .ref a :: rest) (hdg : decode c.code g.pc = .ok (.checkcast index, 3)) :
    ∃ T', Stand p l e R s m args below meth c T' locs cells slots ∧ T'.heap = T.heap ∧ ∀ target, Steps p.tables e below (T'.setTop { g with pc := g.pc + 3, stack := .ref a :: rest }) target → Steps p.tables e below (T.setTop g) target := by
  obtain ⟨cB, h1, D, h2, h3, h4⟩ := hE
  have h1' : s.vm.findClass C = some cB := by rw [← X.warmed.alike.findClass]; exact h1
  obtain ⟨vm', X', st⟩ := X.checkcastYes hexec hown hlink h2 h4 h1' (by rw [h3]; exact Jvm.Free.SB.assignable_self _ _) hg hstack hdg
  exact ⟨_, X', rfl, fun t h => st t (by rw [← hstack] at h; exact h)⟩
namespace SEq
def yN : MethodName := ⟨"java/lang/String", "equals", "(Ljava/lang/Object;)Z"⟩
abbrev yB : ByteArray := jdk_42_method_66_code
theorem d0 : decode yB 0 = .ok (.aload_n 0, 1) := by decide +kernel
theorem d1 : decode yB 1 = .ok (.aload_n 1, 1) := by decide +kernel
theorem d2 : decode yB 2 = .ok (.if_acmp (.ne) 5, 3) := by decide +kernel
theorem d5 : decode yB 5 = .ok (.iconst 1, 1) := by decide +kernel
theorem d6 : decode yB 6 = .ok (.ireturn, 1) := by decide +kernel
theorem d7 : decode yB 7 = .ok (.aload_n 1, 1) := by decide +kernel
theorem d8 : decode yB 8 = .ok (.instanceof 10, 3) := by decide +kernel
theorem d11 : decode yB 11 = .ok (.ifCond (.eq) 43, 3) := by decide +kernel
theorem d14 : decode yB 14 = .ok (.aload_n 1, 1) := by decide +kernel
theorem d15 : decode yB 15 = .ok (.checkcast 10, 3) := by decide +kernel
theorem d18 : decode yB 18 = .ok (.astore_n 2, 1) := by decide +kernel
theorem d19 : decode yB 19 = .ok (.getstatic 38, 3) := by decide +kernel
theorem d22 : decode yB 22 = .ok (.ifCond (.eq) 14, 3) := by decide +kernel
theorem d25 : decode yB 25 = .ok (.aload_n 0, 1) := by decide +kernel
theorem d26 : decode yB 26 = .ok (.getfield 15, 3) := by decide +kernel
theorem d29 : decode yB 29 = .ok (.aload_n 2, 1) := by decide +kernel
theorem d30 : decode yB 30 = .ok (.getfield 15, 3) := by decide +kernel
theorem d33 : decode yB 33 = .ok (.if_icmp (.ne) 21, 3) := by decide +kernel
theorem d36 : decode yB 36 = .ok (.aload_n 0, 1) := by decide +kernel
theorem d37 : decode yB 37 = .ok (.getfield 9, 3) := by decide +kernel
theorem d40 : decode yB 40 = .ok (.aload_n 2, 1) := by decide +kernel
theorem d41 : decode yB 41 = .ok (.getfield 9, 3) := by decide +kernel
theorem d44 : decode yB 44 = .ok (.invokestatic 541, 3) := by decide +kernel
theorem d47 : decode yB 47 = .ok (.ifCond (.eq) 7, 3) := by decide +kernel
theorem d50 : decode yB 50 = .ok (.iconst 1, 1) := by decide +kernel
theorem d51 : decode yB 51 = .ok (.goto 4, 3) := by decide +kernel
theorem d54 : decode yB 54 = .ok (.iconst 0, 1) := by decide +kernel
theorem d55 : decode yB 55 = .ok (.ireturn, 1) := by decide +kernel
def site : List Cond := [.classLink "java/lang/String" 10 "java/lang/String", .fieldLink "java/lang/String" 38 "java/lang/String" "COMPACT_STRINGS" "Z", .fieldLink "java/lang/String" 15 "java/lang/String" "coder" "B", .fieldLink "java/lang/String" 9 "java/lang/String" "value" "[B", LEq.tab] ++ staticW "java/lang/String" 541 LEq.yN
def tab : Cond := tabOf yN yB 3 (some .boolean) site
def P (x t : Addr) (V : Cell) (cd : Int32) (n : Nat) (f : Nat → Int32) (y t' : Addr) (V' : Cell) (cd' : Int32) (k : Nat) (g : Nat → Int32) (z : Int32) (args : Array Value) (s : State) : Prop := args = #[.ref x, .ref y] ∧ Txt x t V cd n f s ∧ Txt y t' V' cd' k g s ∧ StaticIs s "java/lang/String" "COMPACT_STRINGS" "Z" (.int z) ∧ ¬ z = 0
/-- equals(Object) of two Strings: whether the texts are the same -/
theorem law (l : Launch) (x t : Addr) (V : Cell) (cd : Int32) (n : Nat) (f : Nat → Int32) (y t' : Addr) (V' : Cell) (cd' : Int32) (k : Nat) (g : Nat → Int32) (z : Int32) : Law l yN 2 1 1 14 yB 3 (some .boolean) site (P x t V cd n f y t' V' cd' k g z) (Says01 (SameT n f k g)) [] 0 0 := by
  refine Law.of_walk (plainFor_of_name (by decide +kernel)) (by decide +kernel) (by decide +kernel) (by decide) (fun _ _ h => by rw [h.1]; rfl) (fun _ U U' hal hh h => ⟨h.1, h.2.1.mv hal hh, h.2.2.1.mv hal hh, h.2.2.2.1.there hal hh, h.2.2.2.2⟩) (fun r U U' V V' h1 hal h2 h => Says01.mv r U U' V V' h1 hal h2 h) ?_
  intro p e s m args below meth c s₁ X0 hexec hbytes hml hret hlk hnm hown hh0 W hP
  obtain ⟨rfl, hx, hy, s1, hz⟩ := hP
  have c1 : Steps p.tables e below (s₁.setTop (entryFrame m #[.ref x, .ref y] 3)) (s₁.setTop (mkF m 2 #[.val (.ref x), .val (.ref y), .unset] [.ref y, .ref x])) := Steps.trans (entry rfl) (by
    show Steps p.tables e below (s₁.setTop (mkF m 0 #[.val (.ref x), .val (.ref y), .unset] [])) _
    refine XS.aloadN X0.here hexec rfl (hb hbytes d0) rfl rfl ?_
    refine XS.aloadN X0.here hexec rfl (hb hbytes d1) rfl rfl ?_
    exact Steps.refl _)
  by_cases hxy : x = y
  · have c2 : Steps p.tables e below (s₁.setTop (entryFrame m #[.ref x, .ref y] 3)) (s₁.setTop (mkF m 6 #[.val (.ref x), .val (.ref y), .unset] [.int 1])) := c1.trans (by
      refine acmpNo X0.here hexec rfl (hb hbytes d2) rfl rfl rfl (by simp [acmp, hxy]) ?_
      refine iconstV X0.here hexec rfl 1 (hb hbytes d5) (by decide) ?_
      exact Steps.refl _)
    subst hxy
    have ec : cd = cd' := by
      obtain ⟨D, fd, a1, a2, a3⟩ := hx.2.2.1
      obtain ⟨D', fd', b1, b2, b3⟩ := hy.2.2.1
      cases a1.symm.trans b1
      obtain ⟨q1, q2, q3, q4⟩ := a2.1
      obtain ⟨r1, r2, r3, r4⟩ := b2.1
      cases q4.symm.trans r4
      cases a3.symm.trans b3; rfl
    have et : t = t' := by
      obtain ⟨D, fd, a1, a2, a3⟩ := hx.2.1
      obtain ⟨D', fd', b1, b2, b3⟩ := hy.2.1
      cases a1.symm.trans b1
      obtain ⟨q1, q2, q3, q4⟩ := a2.1
      obtain ⟨r1, r2, r3, r4⟩ := b2.1
      cases q4.symm.trans r4
      cases a3.symm.trans b3; rfl
    subst ec et
    have ev : V = V' := by cases hx.2.2.2.1.1.symm.trans hy.2.2.2.1.1; rfl
    subst ev
    have hs : SameT n f k g := (Cod.eqv hx.2.2.2.2.1 hy.2.2.2.2.1 hx.2.2.2.2.2 hy.2.2.2.2.2).mp ⟨rfl, fun _ _ => rfl⟩
    exact ⟨s₁, some (.int 1), _, _, _, X0, rfl, rfl, rfl, (fun h => by cases h), ⟨1, rfl, hh0, Or.inl ⟨rfl, hs⟩⟩, fun fs hl => c2.trans (X0.ireturnOut hexec hret rfl (Or.inr (Or.inl rfl)) (hb hbytes d6) hl)⟩
  · have c2 : Steps p.tables e below (s₁.setTop (entryFrame m #[.ref x, .ref y] 3)) (s₁.setTop (mkF m 8 #[.val (.ref x), .val (.ref y), .unset] [.ref y])) := c1.trans (by
      refine acmpYes X0.here hexec rfl (pc0 := 2) rfl (hb hbytes d2) rfl rfl rfl (by simp [acmp, hxy]) (by decide) rfl ?_
      refine XS.aloadN X0.here hexec rfl (hb hbytes d7) rfl rfl ?_
      exact Steps.refl _)
    obtain ⟨T3, X3, q3, st3⟩ := cinst X0 hexec hown (wk W (.classLink "java/lang/String" 10 "java/lang/String")) (hy.mv X0.warmed.alike hh0).1 (g := (mkF m 8 #[.val (.ref x), .val (.ref y), .unset] [.ref y])) rfl (rest := []) rfl (hb hbytes d8)
    have hh3 := q3.trans hh0
    have c4 : Steps p.tables e below (s₁.setTop (entryFrame m #[.ref x, .ref y] 3)) (T3.setTop (mkF m 15 #[.val (.ref x), .val (.ref y), .unset] [.ref y])) := (c2.trans (st3 _ (Steps.refl _))).trans (by
      refine XS.ifNo X3.here hexec rfl (hb hbytes d11) rfl (i0_eq_f (by decide)) ?_
      refine XS.aloadN X3.here hexec rfl (hb hbytes d14) rfl rfl ?_
      exact Steps.refl _)
    obtain ⟨T5, X5, q5, st5⟩ := cself X3 hexec hown (wk W (.classLink "java/lang/String" 10 "java/lang/String")) (hy.mv X3.warmed.alike hh3).1 (g := (mkF m 15 #[.val (.ref x), .val (.ref y), .unset] [.ref y])) rfl (rest := []) rfl (hb hbytes d15)
    have hh5 := q5.trans hh3
    have c6 : Steps p.tables e below (s₁.setTop (entryFrame m #[.ref x, .ref y] 3)) (T5.setTop (mkF m 19 #[.val (.ref x), .val (.ref y), .val (.ref y)] [])) := (c4.trans (st5 _ (Steps.refl _))).trans (by
      refine XS.astoreN X5.here hexec rfl (hb hbytes d18) rfl rfl rfl ?_
      exact Steps.refl _)
    obtain ⟨T7, X7, q7, st7⟩ := X5.sget hexec hown (wk W (.fieldLink "java/lang/String" 38 "java/lang/String" "COMPACT_STRINGS" "Z")) s1 (fun _ _ h => by rw [hh5]; exact h) (g := (mkF m 19 #[.val (.ref x), .val (.ref y), .val (.ref y)] [])) rfl (hb hbytes d19)
    have hh7 := q7.trans hh5
    have c8 : Steps p.tables e below (s₁.setTop (entryFrame m #[.ref x, .ref y] 3)) (T7.setTop (mkF m 26 #[.val (.ref x), .val (.ref y), .val (.ref y)] [.ref x])) := (c6.trans (st7 _ (Steps.refl _))).trans (by
      refine XS.ifNo X7.here hexec rfl (hb hbytes d22) rfl (i0_eq_f hz) ?_
      refine XS.aloadN X7.here hexec rfl (hb hbytes d25) rfl rfl ?_
      exact Steps.refl _)
    obtain ⟨T9, X9, q9, st9⟩ := X7.hget hexec hown (wk W (.fieldLink "java/lang/String" 15 "java/lang/String" "coder" "B")) (hx.mv X7.warmed.alike hh7).2.2.1 (g := (mkF m 26 #[.val (.ref x), .val (.ref y), .val (.ref y)] [.ref x])) rfl (rest := []) rfl (hb hbytes d26)
    have hh9 := q9.trans hh7
    have c10 : Steps p.tables e below (s₁.setTop (entryFrame m #[.ref x, .ref y] 3)) (T9.setTop (mkF m 30 #[.val (.ref x), .val (.ref y), .val (.ref y)] [.ref y, .int cd])) := (c8.trans (st9 _ (Steps.refl _))).trans (by
      refine XS.aloadN X9.here hexec rfl (hb hbytes d29) rfl rfl ?_
      exact Steps.refl _)
    obtain ⟨T11, X11, q11, st11⟩ := X9.hget hexec hown (wk W (.fieldLink "java/lang/String" 15 "java/lang/String" "coder" "B")) (hy.mv X9.warmed.alike hh9).2.2.1 (g := (mkF m 30 #[.val (.ref x), .val (.ref y), .val (.ref y)] [.ref y, .int cd])) rfl (rest := [.int cd]) rfl (hb hbytes d30)
    have hh11 := q11.trans hh9
    have c12 : Steps p.tables e below (s₁.setTop (entryFrame m #[.ref x, .ref y] 3)) (T11.setTop (mkF m 33 #[.val (.ref x), .val (.ref y), .val (.ref y)] [.int cd', .int cd])) := c10.trans (st11 _ (Steps.refl _))
    by_cases hcd : cd = cd'
    · subst hcd
      have c13 : Steps p.tables e below (s₁.setTop (entryFrame m #[.ref x, .ref y] 3)) (T11.setTop (mkF m 37 #[.val (.ref x), .val (.ref y), .val (.ref y)] [.ref x])) := c12.trans (by
        refine XS.icmpNo X11.here hexec rfl (hb hbytes d33) rfl (ii_ne_f rfl) ?_
        refine XS.aloadN X11.here hexec rfl (hb hbytes d36) rfl rfl ?_
        exact Steps.refl _)
      obtain ⟨T14, X14, q14, st14⟩ := X11.hget hexec hown (wk W (.fieldLink "java/lang/String" 9 "java/lang/String" "value" "[B")) (hx.mv X11.warmed.alike hh11).2.1 (g := (mkF m 37 #[.val (.ref x), .val (.ref y), .val (.ref y)] [.ref x])) rfl (rest := []) rfl (hb hbytes d37)
      have hh14 := q14.trans hh11
      have c15 : Steps p.tables e below (s₁.setTop (entryFrame m #[.ref x, .ref y] 3)) (T14.setTop (mkF m 41 #[.val (.ref x), .val (.ref y), .val (.ref y)] [.ref y, .ref t])) := (c13.trans (st14 _ (Steps.refl _))).trans (by
        refine XS.aloadN X14.here hexec rfl (hb hbytes d40) rfl rfl ?_
        exact Steps.refl _)
      obtain ⟨T16, X16, q16, st16⟩ := X14.hget hexec hown (wk W (.fieldLink "java/lang/String" 9 "java/lang/String" "value" "[B")) (hy.mv X14.warmed.alike hh14).2.1 (g := (mkF m 41 #[.val (.ref x), .val (.ref y), .val (.ref y)] [.ref y, .ref t])) rfl (rest := [.ref t]) rfl (hb hbytes d41)
      have hh16 := q16.trans hh14
      have c17 : Steps p.tables e below (s₁.setTop (entryFrame m #[.ref x, .ref y] 3)) (T16.setTop (mkF m 44 #[.val (.ref x), .val (.ref y), .val (.ref y)] [.ref t', .ref t])) := c15.trans (st16 _ (Steps.refl _))
      obtain ⟨v18, T18, X18, E18, g18⟩ := X16.callS hexec (LEq.law l t V t' V') hown (wks W (staticW "java/lang/String" 541 LEq.yN)) (wk W LEq.tab) (W := 0) (Nat.le_of_ble_eq_true rfl) (Nat.le_of_ble_eq_true rfl) (Nat.le_refl _) (Nat.le_refl _) (g := (mkF m 44 #[.val (.ref x), .val (.ref y), .val (.ref y)] [.ref t', .ref t])) rfl (by rw [hml]; rfl) c17 (argsL := [.ref t, .ref t']) (rest := []) rfl rfl (by show 2 * 0 + 0 ≤ _; decide) (hb hbytes d44) (⟨rfl, hx.2.2.2.1.mv X16.warmed.alike hh16, hx.2.2.2.2.1.ty, hy.2.2.2.1.mv X16.warmed.alike hh16, hy.2.2.2.2.1.ty⟩)
      obtain ⟨v, rfl, q18, hv⟩ := E18
      have iff := Cod.eqv hx.2.2.2.2.1 hy.2.2.2.2.1 hx.2.2.2.2.2 hy.2.2.2.2.2
      rcases hv with ⟨rfl, he⟩ | ⟨rfl, he⟩
      · have c19 : Steps p.tables e below (s₁.setTop (entryFrame m #[.ref x, .ref y] 3)) (T18.setTop (mkF m 55 #[.val (.ref x), .val (.ref y), .val (.ref y)] [.int 1])) := Steps.trans g18 (by
          refine XS.ifNo X18.here hexec rfl (hb hbytes d47) rfl (i0_eq_f (by decide)) ?_
          refine iconstV X18.here hexec rfl 1 (hb hbytes d50) (by decide) ?_
          refine XS.goto X18.here hexec rfl (pc0 := 51) rfl (hb hbytes d51) (by decide) rfl ?_
          exact Steps.refl _)
        exact ⟨T18, some (.int 1), _, _, _, X18, rfl, rfl, rfl, (fun h => by cases h), ⟨1, rfl, q18.trans hh16, Or.inl ⟨rfl, iff.mp he⟩⟩, fun fs hl => c19.trans (X18.ireturnOut hexec hret rfl (Or.inr (Or.inl rfl)) (hb hbytes d55) hl)⟩
      · have c19 : Steps p.tables e below (s₁.setTop (entryFrame m #[.ref x, .ref y] 3)) (T18.setTop (mkF m 55 #[.val (.ref x), .val (.ref y), .val (.ref y)] [.int 0])) := Steps.trans g18 (by
          refine XS.ifYes X18.here hexec rfl (pc0 := 47) rfl (hb hbytes d47) rfl (i0_eq_t rfl) (by decide) rfl ?_
          refine iconstV X18.here hexec rfl 0 (hb hbytes d54) (by decide) ?_
          exact Steps.refl _)
        exact ⟨T18, some (.int 0), _, _, _, X18, rfl, rfl, rfl, (fun h => by cases h), ⟨0, rfl, q18.trans hh16, Or.inr ⟨rfl, fun q => he (iff.mpr q)⟩⟩, fun fs hl => c19.trans (X18.ireturnOut hexec hret rfl (Or.inr (Or.inl rfl)) (hb hbytes d55) hl)⟩
    · have c13 : Steps p.tables e below (s₁.setTop (entryFrame m #[.ref x, .ref y] 3)) (T11.setTop (mkF m 55 #[.val (.ref x), .val (.ref y), .val (.ref y)] [.int 0])) := c12.trans (by
        refine XS.icmpYes X11.here hexec rfl (pc0 := 33) rfl (hb hbytes d33) rfl (ii_ne_t hcd) (by decide) rfl ?_
        refine iconstV X11.here hexec rfl 0 (hb hbytes d54) (by decide) ?_
        exact Steps.refl _)
      exact ⟨T11, some (.int 0), _, _, _, X11, rfl, rfl, rfl, (fun h => by cases h), ⟨0, rfl, hh11, Or.inr ⟨rfl, Cod.dif hx.2.2.2.2.1 hy.2.2.2.2.1 hcd⟩⟩, fun fs hl => c13.trans (X11.ireturnOut hexec hret rfl (Or.inr (Or.inl rfl)) (hb hbytes d55) hl)⟩
theorem pays {l : Launch} {R : Room} {p : Program} {e : Env} {below : List Frame} {s : State} {sargs : Array Value} {len W : Nat} (x t : Addr) (V : Cell) (cd : Int32) (n : Nat) (f : Nat → Int32) (y t' : Addr) (V' : Cell) (cd' : Int32) (k : Nat) (g : Nat → Int32) (z : Int32) (htab : tab.before sargs s = true) (hfr : 2 ≤ R.frames) (hlo : W + 28 ≤ R.locals) :
    Back l R p e below s sargs yN len W (fun A₁ a₁ => A₁.cells + 0 ≤ R.cells ∧ A₁.slots + 0 ≤ R.slots ∧ P x t V cd n f y t' V' cd' k g z a₁ A₁.U) (fun A₁ _ v₁ B₁ => Says01 (SameT n f k g) v₁ A₁.U B₁.U ∧ B₁.locs = A₁.locs ++ [] ∧ B₁.cells = A₁.cells + 0 ∧ B₁.slots = A₁.slots + 0) :=
  (law l x t V cd n f y t' V' cd' k g z).pays htab hfr (by omega)
end SEq
end StrChars
namespace StrChars.Road
open Jvm Sem ClassFile Op Lib Jvm.Stand Jvm.Free Jvm.Free.XT
open Jvm.Lib.Cold (StaticIs)
/-- the words of String.equals(Object) -/
abbrev wordsEq : List Jvm.Cond := [.code SEq.yN SEq.yB 3 (some .boolean), .initialized ST, .classLink ST 10 ST, .fieldLink ST 38 ST "COMPACT_STRINGS" "Z", .fieldLink ST 15 ST "coder" "B", .fieldLink ST 9 ST "value" "[B", .methodLink ST 541 LEq.yN, .static LEq.yN, .code LEq.yN LEq.yB 3 (some .boolean), .initialized "java/lang/StringLatin1"]
theorem tabEq_of {a : Array Value} {s : State} (h : ∀ w ∈ wordsEq, w.before a s = true) : SEq.tab.before a s = true := by
  have hl : LEq.tab.before a s = true := unparts (wk h (.code LEq.yN LEq.yB 3 (some .boolean))) (wks h (.initialized LEq.yN.cls :: LEq.site))
  have q := consq hl h
  exact unparts (wk q (.code SEq.yN SEq.yB 3 (some .boolean))) (wks q (.initialized SEq.yN.cls :: SEq.site))
theorem movedEq {Z s : State} {a0 args : Array Value} (hZ : Z.Warmed39 s.vm) (hw : ∀ d ∈ wordsEq, d.before a0 Z = true) : ∀ d ∈ wordsEq, d.before args s = true := fun d hd => by
  have t : ∀ d ∈ wordsEq, (d.onTables && d.keepsFace) = true := by decide +kernel
  exact RoadKit.mv hZ (hw d hd) (t d hd)
/-- the road's facts of a String, as the laws ask it -/
theorem txt_of {Z U : State} {a0 : Array Value} {kI : Nat} (wi : (Jvm.Cond.instantiable ST kI).before a0 Z = true) (al : Z.vm.Alike U.vm) {x t : Addr} {kb : ClassId} {cs : List Int32} {cd N2 : Int32} {vs : List Value} (E : RoadKit.Exa Z U.heap x ST) (V : RoadKit.Fld Z U.heap x ST "value" "[B" (.ref t)) (C : RoadKit.Fld Z U.heap x ST "coder" "B" (.int cd)) (K : RoadKit.Arv Z U.heap t kb .byte N2 vs (.int 0)) (hc : CodA cs cd N2 vs) (hb : ∀ c ∈ cs, ¬ c < 0 ∧ ¬ (65535 : Int32) < c) (l2 : cs.length ≤ 4000) :
    ∃ A, Txt x t A cd cs.length (fun j => cs.getD j 0) U := by
  obtain ⟨A, K1, K2, K3, K4, K5, K6⟩ := K
  have hcod := hc.cod (by omega) K3 K5
  obtain ⟨D, fV, fC, hB, F1, F2, g1, g2, -, -⟩ := strObj wi al E V C
  exact ⟨A, ⟨_, hB.2.2.1, D, hB.1, rfl, by cases q : D.vm <;> first | rfl | exact absurd q (hB.2.1.2 _)⟩, Has.of hB F1 g1, Has.of hB F2 g2, ⟨K1.1, State.isArrayOf_alike al K1.2.1, K1.2.2, by rcases hcod with ⟨-, q, -⟩ | ⟨-, q, -⟩ <;> omega⟩, hcod, fun j hj => by
    have e : cs.getD j 0 = cs[j] := by simp [List.getD_eq_getElem?_getD, hj]
    show ¬ cs.getD j 0 < 0 ∧ ¬ 65535 < cs.getD j 0
    rw [e]; exact hb _ (List.getElem_mem _)⟩
theorem same_list (cs ds : List Int32) : SameT cs.length (fun j => cs.getD j 0) ds.length (fun j => ds.getD j 0) ↔ cs = ds := by
  constructor
  · rintro ⟨e, q⟩
    refine List.ext_getElem e fun j h1 h2 => ?_
    have := q j h1
    simpa [List.getD_eq_getElem?_getD, h1, h2] using this
  · rintro rfl
    exact ⟨rfl, fun _ _ => rfl⟩
/-- **equals(Object) OF TWO SUCH STRINGS**: 1 just where the chars are the same -/
theorem eqW {p : Program} {l : Launch} {e : Env} {R : Room} {s : State} {args : Array Value} {below : List Frame} {len W : Nat} {Z : State} {a0 : Array Value} {h : Heap} (hZ : Z.Warmed39 s.vm) (hw : ∀ d ∈ wordsEq, d.before a0 Z = true) {kI : Nat} (wi : (Jvm.Cond.instantiable ST kI).before a0 Z = true)
    {x t : Addr} {kb : ClassId} {cs : List Int32} {cd N2 : Int32} {vs : List Value} (E : RoadKit.Exa Z h x ST) (V : RoadKit.Fld Z h x ST "value" "[B" (.ref t)) (C : RoadKit.Fld Z h x ST "coder" "B" (.int cd)) (K : RoadKit.Arv Z h t kb .byte N2 vs (.int 0)) (hc : CodA cs cd N2 vs) (hb : ∀ c ∈ cs, ¬ c < 0 ∧ ¬ (65535 : Int32) < c) (l2 : cs.length ≤ 4000)
    {y t' : Addr} {kb' : ClassId} {ds : List Int32} {cd' N2' : Int32} {vs' : List Value} (E' : RoadKit.Exa Z h y ST) (V' : RoadKit.Fld Z h y ST "value" "[B" (.ref t')) (C' : RoadKit.Fld Z h y ST "coder" "B" (.int cd')) (K' : RoadKit.Arv Z h t' kb' .byte N2' vs' (.int 0)) (hc' : CodA ds cd' N2' vs') (hb' : ∀ c ∈ ds, ¬ c < 0 ∧ ¬ (65535 : Int32) < c) (l2' : ds.length ≤ 4000)
    {z : Int32} (S : RoadKit.Sta Z h ST "COMPACT_STRINGS" "Z" (.int z)) (hz : ¬ z = 0) (hfr : 2 ≤ R.frames) (hlo : W + 28 ≤ R.locals) :
    Back l R p e below s args (⟨"java/lang/String", "equals", "(Ljava/lang/Object;)Z"⟩ : MethodName) len W (fun P a => a = #[.ref x, .ref y] ∧ P.U.heap = h ∧ P.cells + 0 ≤ R.cells ∧ P.slots + 0 ≤ R.slots)
      (fun P _ v B => ∃ L, (((v = some (.int 1) ∧ cs = ds) ∨ (v = some (.int 0) ∧ ¬ cs = ds)) ∧ L = [] ∧ B.U.heap = h) ∧ B.locs = P.locs ++ L ∧ B.cells = P.cells + 0 ∧ B.slots = P.slots + 0) := by
  intro m meth c P g ig mk a X hg hsize hdg hW hn hp'
  obtain ⟨rfl, rfl, r1, r2⟩ := hp'
  have al : Z.vm.Alike P.U.vm := hZ.alike.trans X.warmed.alike
  obtain ⟨A, hx⟩ := txt_of wi al E V C K hc hb l2
  obtain ⟨A', hy⟩ := txt_of wi al E' V' C' K' hc' hb' l2'
  obtain ⟨v, B, X', ⟨⟨w, hv, hh, hq⟩, hl, hk, hs⟩, st⟩ := SEq.pays x t A cd cs.length (fun j => cs.getD j 0) y t' A' cd' ds.length (fun j => ds.getD j 0) z (tabEq_of (movedEq hZ hw)) hfr hlo m meth c P g ig mk _ X hg hsize hdg hW hn ⟨r1, r2, rfl, hx, hy, sta_is al S, hz⟩
  refine ⟨v, B, X', ⟨[], ⟨?_, rfl, hh⟩, hl, hk, hs⟩, st⟩
  rcases hq with ⟨rfl, q⟩ | ⟨rfl, q⟩
  · exact Or.inl ⟨hv, (same_list cs ds).mp q⟩
  · exact Or.inr ⟨hv, fun e => q ((same_list cs ds).mpr e)⟩
end StrChars.Road
namespace StrChars.Road
open Jvm Sem ClassFile Op Lib Jvm.Stand Jvm.Free Jvm.Free.XT
open Jvm.Lib.Cold (StaticIs)
/-- what backV says of its String, as the contracts of this text ask it: cs's low bytes, coder 0 -/
theorem codOf {cs : List Int32} {n : Nat} (hn : cs.length = n) (hb : ∀ c ∈ cs, ¬ 255 < c) : CodA cs 0 (Int32.ofNat n) ((cs.map lo8).map Value.int) := Or.inl ⟨rfl, by rw [hn], by simp [List.map_map, Function.comp_def], hb⟩
end StrChars.Road
end Jvm.Pilot.@@N@@
namespace Jvm.Pilot.@@N@@
open Jvm Jvm.ClassFile Sem Op Lib Jvm.Free Jvm.Stand Jvm.LawKit Jvm.RoadKit Bundle Jvm.Pilot.@@N@@.Jvm.D
theorem own_up (cs : List Int32) (h : ∀ c ∈ cs, ¬ c < 0 ∧ ¬ (255 : Int32) < c) : ∀ c ∈ cs, ¬ c < 0 ∧ ¬ (65535 : Int32) < c := fun c hc => ⟨(h c hc).1, fun q => (h c hc).2 (by rw [Int32.lt_iff_toInt_lt] at q ⊢; have e1 : (65535 : Int32).toInt = 65535 := rfl; have e2 : (255 : Int32).toInt = 255 := rfl; omega)⟩
theorem own_hw_backV {Z : State} {a0 : Array Value} (hw : ∀ d ∈ tables_1, d.before a0 Z = true) : ∀ d ∈ StrChars.Road.words, d.before a0 Z = true := fun d hd => hw d ((by decide +kernel : ∀ d ∈ StrChars.Road.words, d ∈ tables_1) d hd)
theorem own_hw_eqW {Z : State} {a0 : Array Value} (hw : ∀ d ∈ tables_1, d.before a0 Z = true) : ∀ d ∈ StrChars.Road.wordsEq, d.before a0 Z = true := fun d hd => hw d ((by decide +kernel : ∀ d ∈ StrChars.Road.wordsEq, d ∈ tables_1) d hd)
theorem own_safe_null {Z : State} {EL : List (String × Nat)} {vm : Vm} {h : Heap} {x : Addr} (hal : Z.vm.Alike vm) (E : Exa Z h x "java/lang/String") (F : Fld Z h x "java/lang/String" "value" "[B" .null) : Safe Z EL vm h x := fun B => by
  obtain ⟨cell, cf, k, i, f, h1, h2, h3, -, -, -, h7⟩ := F
  obtain ⟨p, -, u, a, -, q, -, FF, rfl | rfl⟩ := B
  · cases (show h[q.sa]? = some q.sC from FF.ha).symm.trans h1
    obtain ⟨cS, ⟨⟨-, -, -, ⟨c1, k1, i1, f1, -⟩, -, -, -, v1, -⟩, -⟩, -⟩ := FF
    obtain ⟨k3, e3⟩ := ff_back (U := Wst Z vm h) hal f1
    cases h2.symm.trans e3
    rw [v1] at h7
    cases h7
  · cases (show h[q.sd]? = some q.SA from FF.hd).symm.trans h1
    obtain ⟨cS, -, -, fB, -⟩ := FF
    obtain ⟨cell2, kk, e1, e2, e3, -, -⟩ := E
    cases h1.symm.trans e1
    have fB' : vm.findClass "[B" = some q.SA.cls := fB
    rw [hal.findClass] at fB'
    obtain ⟨k1, q1, q2⟩ := Vm.findClass_spec fB'
    obtain ⟨k2, q3, q4⟩ := Vm.findClass_spec e2
    cases q1.symm.trans q3
    exact absurd (q2.symm.trans q4) (by decide)
theorem own_hw_str {Z : State} {a0 : Array Value} (hw : ∀ d ∈ tables_1, d.before a0 Z = true) : ∀ d ∈ Bundle.stringAtoms, d.before a0 Z = true := fun d hd => hw d ((by decide +kernel : ∀ d ∈ Bundle.stringAtoms, d ∈ tables_1) d hd)
theorem own_EW {Z : State} {a0 : Array Value} (hw : ∀ d ∈ tables_1, d.before a0 Z = true) : EW Z a0 [("java/lang/String", 7)] := (EW.cons (hw _ (List.mem_of_getElem? (i := 22) rfl)) (by decide) EW.nil)
theorem own_mod (x y : Int32) (d : Int) (hy : y.toInt = d) (hd : 0 < d) : 0 ≤ ((x &&& (2147483647 : Int32)) % y).toInt ∧ ((x &&& (2147483647 : Int32)) % y).toInt < d := by
  have h1 := c_and x 2147483647 (by decide)
  have h2 := (c_irem (x &&& (2147483647 : Int32)) y d hy).1 h1.1
  rw [h2]
  exact ⟨Int.emod_nonneg _ (by omega), Int.emod_lt_of_pos _ hd⟩
theorem own_i {x : Int32} {k : Int} (y : Int32) (hy : y.toInt = k) (h : x.toInt = k) : x = y := Int32.toInt_inj.mp (h.trans hy.symm)
theorem own_m3 (x : Int32) : ((x &&& (2147483647 : Int32)) % (3 : Int32)) = (0 : Int32) ∨ ((x &&& (2147483647 : Int32)) % (3 : Int32)) = (1 : Int32) ∨ ((x &&& (2147483647 : Int32)) % (3 : Int32)) = (2 : Int32) := by
  have h := own_mod x 3 3 rfl (by decide)
  have hh : ((x &&& (2147483647 : Int32)) % (3 : Int32)).toInt = 0 ∨ ((x &&& (2147483647 : Int32)) % (3 : Int32)).toInt = 1 ∨ ((x &&& (2147483647 : Int32)) % (3 : Int32)).toInt = 2 := by omega
  exact hh.imp (own_i 0 rfl) (fun q => q.imp (own_i 1 rfl) (own_i 2 rfl))
theorem own_m5 (x : Int32) : ((x &&& (2147483647 : Int32)) % (5 : Int32)) = (0 : Int32) ∨ ((x &&& (2147483647 : Int32)) % (5 : Int32)) = (1 : Int32) ∨ ((x &&& (2147483647 : Int32)) % (5 : Int32)) = (2 : Int32) ∨ ((x &&& (2147483647 : Int32)) % (5 : Int32)) = (3 : Int32) ∨ ((x &&& (2147483647 : Int32)) % (5 : Int32)) = (4 : Int32) := by
  have h := own_mod x 5 5 rfl (by decide)
  generalize ((x &&& (2147483647 : Int32)) % (5 : Int32)) = y at h ⊢
  have hh : y.toInt = 0 ∨ y.toInt = 1 ∨ y.toInt = 2 ∨ y.toInt = 3 ∨ y.toInt = 4 := by omega
  rcases hh with q | q | q | q | q
  · exact Or.inl (own_i 0 rfl q)
  · exact Or.inr (Or.inl (own_i 1 rfl q))
  · exact Or.inr (Or.inr (Or.inl (own_i 2 rfl q)))
  · exact Or.inr (Or.inr (Or.inr (Or.inl (own_i 3 rfl q))))
  · exact Or.inr (Or.inr (Or.inr (Or.inr (own_i 4 rfl q))))
theorem own_a3 (x : Int32) : ((x &&& (255 : Int32)) % (3 : Int32)) = (0 : Int32) ∨ ((x &&& (255 : Int32)) % (3 : Int32)) = (1 : Int32) ∨ ((x &&& (255 : Int32)) % (3 : Int32)) = (2 : Int32) := by
  have h1 := c_and x 255 (by decide)
  have h2 := (c_irem (x &&& (255 : Int32)) 3 3 rfl).1 h1.1
  generalize ((x &&& (255 : Int32)) % (3 : Int32)) = y at h2 ⊢
  have hh : y.toInt = 0 ∨ y.toInt = 1 ∨ y.toInt = 2 := by omega
  exact hh.imp (own_i 0 rfl) (fun q => q.imp (own_i 1 rfl) (own_i 2 rfl))
/-- a char below 256 -/
def own_L (x : Int32) : Prop := nar .char x = x ∧ ¬ x < 0 ∧ ¬ (255 : Int32) < x
theorem own_Lall : ∀ k : Fin 256, own_L (Int32.ofNat k.val) := by
  have tt : ∀ k : Fin 256, nar .char (Int32.ofNat k.val) = Int32.ofNat k.val ∧ ¬ Int32.ofNat k.val < 0 ∧ ¬ (255 : Int32) < Int32.ofNat k.val := by decide +kernel
  exact tt
theorem own_Lof {x : Int32} (h : x.toBitVec.toNat < 256) : own_L x := by
  have e : x = Int32.ofNat x.toBitVec.toNat := by
    apply Int32.toBitVec_inj.mp
    show _ = BitVec.ofNat 32 _
    rw [BitVec.ofNat_toNat]; simp
  rw [e]
  exact own_Lall ⟨_, h⟩
theorem own_and255 (x : Int32) : (x &&& 255).toBitVec.toNat < 256 := by
  simp only [Int32.toBitVec_and, BitVec.toNat_and]
  exact Nat.lt_succ_of_le Nat.and_le_right
theorem own_lat8 (x : Int32) : own_L ((x &&& (255 : Int32)).toUInt32.toUInt16.toUInt32.toInt32) := by
  rw [i2c_mask]
  exact own_Lof (own_and255 x)
theorem own_Lnat {x : Int32} (h : own_L x) : x.toBitVec.toNat < 256 := by
  obtain ⟨-, h0, h1⟩ := h
  rw [Int32.lt_iff_toInt_lt] at h0 h1
  have e0 : (0 : Int32).toInt = 0 := rfl
  have e1 : (255 : Int32).toInt = 255 := rfl
  have hb : x.toInt = x.toBitVec.toInt := rfl
  rw [hb, BitVec.toInt_eq_toNat_cond] at h0 h1
  have := x.toBitVec.isLt
  split at h0 <;> omega
theorem own_i2c_small {x : Int32} (h : own_L x) : x.toUInt32.toUInt16.toUInt32.toInt32 = x := h.1
theorem own_latx (x y : Int32) (h : own_L x) : own_L ((x ^^^ (y &&& (33 : Int32))).toUInt32.toUInt16.toUInt32.toInt32) := by
  have q : own_L (x ^^^ (y &&& (33 : Int32))) := own_Lof (by
    simp only [Int32.toBitVec_xor, Int32.toBitVec_and, BitVec.toNat_xor, BitVec.toNat_and]
    have h1 := own_Lnat h
    have h2 : y.toBitVec.toNat &&& (33 : Int32).toBitVec.toNat < 2 ^ 8 := Nat.lt_of_le_of_lt Nat.and_le_right (by decide)
    exact Nat.xor_lt_two_pow (n := 8) h1 h2)
  rw [own_i2c_small q]
  exact q
def own_cs (n c0 c1 : Int32) : List Int32 := if n = 0 then [] else if n = 1 then [c0] else [c0, c1]
theorem own_cs0 (c0 c1 : Int32) : own_cs 0 c0 c1 = [] := by simp [own_cs]
theorem own_cs1 (c0 c1 : Int32) : own_cs 1 c0 c1 = [c0] := by simp [own_cs]
theorem own_cs2 (c0 c1 : Int32) : own_cs 2 c0 c1 = [c0, c1] := by simp [own_cs]
theorem own_csl (n c0 c1 : Int32) : (own_cs n c0 c1).length ≤ 4000 := by
  unfold own_cs
  split
  · simp
  · split <;> simp
theorem own_csm (n c0 c1 : Int32) (h0 : own_L c0) (h1 : own_L c1) : ∀ c ∈ own_cs n c0 c1, ¬ c < 0 ∧ ¬ (255 : Int32) < c := by
  intro c hc
  unfold own_cs at hc
  split at hc
  · simp at hc
  · split at hc
    · simp at hc; subst hc; exact h0.2
    · simp at hc; rcases hc with rfl | rfl
      · exact h0.2
      · exact h1.2
theorem own_csb (n c0 c1 : Int32) (h0 : own_L c0) (h1 : own_L c1) : ∀ c ∈ own_cs n c0 c1, ¬ c < 0 ∧ ¬ (65535 : Int32) < c := own_up _ (own_csm n c0 c1 h0 h1)
theorem own_lt12 {x : Int32} (h : x < (1 : Int32)) : x < (2 : Int32) := by
  rw [Int32.lt_iff_toInt_lt] at h ⊢
  have e1 : (1 : Int32).toInt = 1 := rfl
  have e2 : (2 : Int32).toInt = 2 := rfl
  omega
theorem own_cseq (tl sl t0 t1 s0 s1 : Int32) (htl : tl = (0 : Int32) ∨ tl = (1 : Int32) ∨ tl = (2 : Int32)) (hsl : sl = (0 : Int32) ∨ sl = (1 : Int32) ∨ sl = (2 : Int32)) : own_cs tl t0 t1 = own_cs sl s0 s1 ↔ (tl = sl ∧ (tl < (1 : Int32) ∨ t0 = s0) ∧ (tl < (2 : Int32) ∨ t1 = s1)) := by
  rcases htl with rfl | rfl | rfl <;> rcases hsl with rfl | rfl | rfl <;> simp only [own_cs0, own_cs1, own_cs2] <;> simp +decide
theorem own_exp (sl la lb t0 t1 s0 s1 rv : Int32) (kr k0 k3 : Addr) (hk : (kr = k0 ∨ kr = k3) ↔ (sl = (0 : Int32) ∨ sl = (3 : Int32))) (htl : la = (0 : Int32) ∨ la = (1 : Int32) ∨ la = (2 : Int32)) (hsl : lb = (0 : Int32) ∨ lb = (1 : Int32) ∨ lb = (2 : Int32)) (hr : (rv = (1 : Int32) ∧ (kr = k0 ∨ kr = k3) ∧ own_cs la t0 t1 = own_cs lb s0 s1) ∨ (rv = (0 : Int32) ∧ ¬ ((kr = k0 ∨ kr = k3) ∧ own_cs la t0 t1 = own_cs lb s0 s1))) :
    rv = if (sl = (0 : Int32) ∨ sl = (3 : Int32)) ∧ la = lb ∧ (la < (1 : Int32) ∨ t0 = s0) ∧ (la < (2 : Int32) ∨ t1 = s1) then (1 : Int32) else (0 : Int32) := by
  rw [hk, own_cseq la lb t0 t1 s0 s1 htl hsl] at hr
  rcases hr with ⟨h1, h2⟩ | ⟨h1, h2⟩
  · rw [if_pos h2]; exact h1
  · rw [if_neg h2]; exact h1

theorem d_jdk_42_method_149_code_0 : decode jdk_42_method_149_code 0 = .ok (.aload_n 0, 1) := by decide +kernel
theorem d_jdk_42_method_149_code_1 : decode jdk_42_method_149_code 1 = .ok (.invokespecial 1, 3) := by decide +kernel
theorem d_jdk_42_method_149_code_4 : decode jdk_42_method_149_code 4 = .ok (.iload_n 3, 1) := by decide +kernel
theorem d_jdk_42_method_149_code_5 : decode jdk_42_method_149_code 5 = .ok (.ifCond .ne 22, 3) := by decide +kernel
theorem d_jdk_42_method_149_code_8 : decode jdk_42_method_149_code 8 = .ok (.aload_n 0, 1) := by decide +kernel
theorem d_jdk_42_method_149_code_9 : decode jdk_42_method_149_code 9 = .ok (.ldc 7, 2) := by decide +kernel
theorem d_jdk_42_method_149_code_11 : decode jdk_42_method_149_code 11 = .ok (.getfield 9, 3) := by decide +kernel
theorem d_jdk_42_method_149_code_14 : decode jdk_42_method_149_code 14 = .ok (.putfield 9, 3) := by decide +kernel
theorem d_jdk_42_method_149_code_17 : decode jdk_42_method_149_code 17 = .ok (.aload_n 0, 1) := by decide +kernel
theorem d_jdk_42_method_149_code_18 : decode jdk_42_method_149_code 18 = .ok (.ldc 7, 2) := by decide +kernel
theorem d_jdk_42_method_149_code_20 : decode jdk_42_method_149_code 20 = .ok (.getfield 15, 3) := by decide +kernel
theorem d_jdk_42_method_149_code_23 : decode jdk_42_method_149_code 23 = .ok (.putfield 15, 3) := by decide +kernel
theorem d_jdk_42_method_149_code_26 : decode jdk_42_method_149_code 26 = .ok (.return_, 1) := by decide +kernel
theorem ef_0 (m : MethodId) (x0 : Addr) (x1 : Addr) (x2 : Int32) (x3 : Int32) : entryFrame m #[(.ref x0), (.ref x1), (.int x2), (.int x3), .null] 6 = mkF m 0 #[.val (.ref x0), .val (.ref x1), .val (.int x2), .val (.int x3), .val .null, .unset] [] := by first | (simp [entryFrame, mkF, argsToLocals, Value.category]; done) | rfl
theorem pn_0 : plainName "java/lang/String" = true := by first | (simp [plainName, overriddenIn]; done) | decide +kernel
def Q_newE4 (Z : State) (xs : Addr) (ca : Addr) (h0 : Heap) (n0 : Nat) (v : Option Value) (h : Heap) (L : List Loc) : Prop := ∃ (tt : Addr) (kt : ClassId), (v = none) ∧ (Fr n0 L) ∧ (Keep h0 h ([xs] : List Addr)) ∧ (Fld Z h xs "java/lang/String" "value" "[B" (.ref tt)) ∧ (Fld Z h xs "java/lang/String" "coder" "B" (.int (0 : Int32))) ∧ (Arv Z h tt kt .byte (0 : Int32) [] (.int 0))
set_option maxRecDepth 65536 in
set_option maxHeartbeats 40000000 in
theorem rm_newE4 (l : Launch) (Z : State) (a0 : Array Value) (hw : ∀ d ∈ tables_1, d.before a0 Z = true) (ws : List Jvm.Cond) (xs : Addr) (ca : Addr) (h0 : Heap) (n0 : Nat) (Z0 : n0 ≤ h0.size) (q0 : Exa Z h0 xs "java/lang/String") (q1 : Fld Z h0 xs "java/lang/String" "value" "[B" .null) (q2 : Fld Z h0 xs "java/lang/String" "coder" "B" (.int (0 : Int32))) (q3 : n0 ≤ xs) :
    MetFree l (⟨"java/lang/String", "<init>", "([CIILjava/lang/Void;)V"⟩ : MethodName) (head1 (Jvm.Cond.code (⟨"java/lang/String", "<init>", "([CIILjava/lang/Void;)V"⟩ : MethodName) jdk_42_method_149_code 6 none :: ws) ({ frames := 1, cells := 4, slots := 8, locals := 12 } : Room)) (fun a₁ U₁ => a₁ = #[(.ref xs), (.ref ca), (.int (0 : Int32)), (.int (0 : Int32)), .null] ∧ Z.Warmed39 U₁.vm ∧ U₁.heap = h0 ∧ CHv Z [("java/lang/String", 7)] U₁.vm h0) (fun _ _ _ _ _ => True) (fun _ U₁ o₁ U₂ => ∃ v₁ L₁, o₁ = .returned v₁ ∧ Q_newE4 Z xs ca h0 n0 v₁ U₂.heap L₁ ∧ CHr Z [("java/lang/String", 7)] U₁.vm U₁.heap U₂.vm U₂.heap ∧ ReturnedEndW U₁ o₁ U₂ L₁ ({ frames := 1, cells := 4, slots := 8, locals := 12 } : Room).cells ({ frames := 1, cells := 4, slots := 8, locals := 12 } : Room).slots) := by
  refine MetFree.of_bodySF (plainFor_of_name pn_0) hisR ?_
  intro p e s m args below meth c s₁ Bd hml0 hP hK
  obtain ⟨rfl, hZ, hh, CH0⟩ := hP
  have hx := Bd.exec
  have hby := Bd.bytes
  have hml : c.maxLocals = 6 := hml0
  have hown : s.vm.findClass "java/lang/String" = some m.cls := findClass_of_methodNamed Bd.named
  have hnm := (name_of_methodNamed Bd.named Bd.method).1
  have X0 : Stand p l e ({ frames := 1, cells := 4, slots := 8, locals := 12 } : Room) (s.setVm s.vm) m #[(.ref xs), (.ref ca), (.int (0 : Int32)), (.int (0 : Int32)), .null] below meth c s₁ [] 0 0 := Stand.of_body Bd
  have e0 : s₁.heap = h0 := by rw [← hh, Bd.state]; rfl
  have N0 := Fr.nil n0
  have hZ0 : Z.Warmed39 (s.setVm s.vm).vm := hZ
  have hown0 : (s.setVm s.vm).vm.findClass "java/lang/String" = some m.cls := hown
  have hS0 : s.Since s.vm h0.size := (State.WarmedH.refl s).since _
  have hk0 : h0.size ≤ h0.size := Nat.le_refl _
  have CR0 : CHr Z [("java/lang/String", 7)] s.vm h0 s.vm h0 := CHr.refl CH0
  have pre0 : ∀ t, Steps p.tables e below (s₁.setTop (mkF m 0 #[.val (.ref xs), .val (.ref ca), .val (.int (0 : Int32)), .val (.int (0 : Int32)), .val .null, .unset] [])) t → Steps p.tables e below (s₁.setTop (entryFrame m #[(.ref xs), (.ref ca), (.int (0 : Int32)), (.int (0 : Int32)), .null] 6)) t := fun t k => castTop (ef_0 m xs ca (0 : Int32) (0 : Int32)) k
  obtain ⟨T301, X301, e301, st301⟩ := initO X0 hx hZ0 hown0 (hw _ (List.mem_of_getElem? (i := 19) rfl)) (hw _ (List.mem_of_getElem? (i := 20) rfl)) (hw _ (List.mem_of_getElem? (i := 21) rfl)) e0 (g := (mkF m 1 #[.val (.ref xs), .val (.ref ca), .val (.int (0 : Int32)), .val (.int (0 : Int32)), .val .null, .unset] [(.ref xs)])) rfl (by rw [hml]; rfl) rfl (hb hby d_jdk_42_method_149_code_1) (by decide) (W := 0) (by show 2 * 0 + _ ≤ _; exact Nat.le_of_eq rfl) (by decide)
  obtain ⟨b302, T302, h302, kk302, bb302, kb302, X302, e302, E302, hS302, hk302, hZ302, hown302, fE302, fC302, fV302, fA302, la302, lb302, ch302, li302, sx302, st302⟩ := ldcCH X301 hx hZ0 hown0 (hw _ (List.mem_of_getElem? (i := 22) rfl)) (own_hw_str hw) e301 hS0 hk0 (own_EW hw) (by decide) CR0.1 (vs := []) (z := (0 : Int32)) ⟨by decide, rfl⟩ (by decide) rfl (g := (mkF m 9 #[.val (.ref xs), .val (.ref ca), .val (.int (0 : Int32)), .val (.int (0 : Int32)), .val .null, .unset] [(.ref xs)])) rfl (hb hby d_jdk_42_method_149_code_9) (n := 0) (by decide) (by decide) (by decide) (by decide)
  have CR303 : CHr Z [("java/lang/String", 7)] s.vm h0 T302.vm h302 := CR0.trans ch302
  obtain ⟨T304, X304, e304, st304⟩ := getF X302 hx hZ302 hown302 (host := "") (Or.inl (hw _ (List.mem_of_getElem? (i := 28) rfl))) Via.refl e302 fV302 (g := (mkF m 11 #[.val (.ref xs), .val (.ref ca), .val (.int (0 : Int32)), .val (.int (0 : Int32)), .val .null, .unset] [(.ref b302), (.ref xs)])) rfl rfl (hb hby d_jdk_42_method_149_code_11)
  have c305 : Fld Z h302 xs "java/lang/String" "value" "[B" .null := (q1.ext E302)
  have c306 : Exa Z h302 xs "java/lang/String" := (q0.ext E302)
  have sf308 : Safe Z [("java/lang/String", 7)] T302.vm h302 xs := own_safe_null (EL := [("java/lang/String", 7)]) hZ302.alike c306 c305
  obtain ⟨T307, h307, X307, e307, W307, st307⟩ := putF X304 hx hZ302 hown302 (host := "") (Or.inl (hw _ (List.mem_of_getElem? (i := 28) rfl))) Via.refl e304 c305 c306 (Or.inr ⟨(hw _ (List.mem_of_getElem? (i := 24) rfl)), rfl, hnm⟩) (hw _ (List.mem_of_getElem? (i := 9) rfl)) (ty := (.array .byte)) (by decide) rfl rfl (g := (mkF m 14 #[.val (.ref xs), .val (.ref ca), .val (.int (0 : Int32)), .val (.int (0 : Int32)), .val .null, .unset] [(.ref bb302), (.ref xs)])) rfl rfl (hb hby d_jdk_42_method_149_code_14)
  have N307 := Fr.snoc X307 N0 q3
  have CR309 : CHr Z [("java/lang/String", 7)] s.vm h0 T302.vm h307 := CR303.trans (CHr.wr W307 sf308 CR303.1)
  have sf310 : Safe Z [("java/lang/String", 7)] T302.vm h307 xs := Safe.wr W307 sf308 CR303.1 sf308
  have F307 : Fld Z h307 xs "java/lang/String" "value" "[B" (.ref bb302) := c305.same W307
  obtain ⟨b311, T311, h311, kk311, bb311, kb311, X311, e311, E311, hS311, hk311, hZ311, hown311, fE311, fC311, fV311, fA311, la311, lb311, ch311, li311, sx311, st311⟩ := ldcCH X307 hx hZ302 hown302 (hw _ (List.mem_of_getElem? (i := 22) rfl)) (own_hw_str hw) e307 hS302 (Nat.le_trans hk302 (Keep.of_wr W307).1) (own_EW hw) (by decide) CR309.1 (vs := []) (z := (0 : Int32)) ⟨by decide, rfl⟩ (by decide) rfl (g := (mkF m 18 #[.val (.ref xs), .val (.ref ca), .val (.int (0 : Int32)), .val (.int (0 : Int32)), .val .null, .unset] [(.ref xs)])) rfl (hb hby d_jdk_42_method_149_code_18) (n := 0) (by decide) (by decide) (by decide) (by decide)
  have CR312 : CHr Z [("java/lang/String", 7)] s.vm h0 T311.vm h311 := CR309.trans ch311
  have sf313 : Safe Z [("java/lang/String", 7)] T311.vm h311 xs := ch311.safe (Nat.lt_of_lt_of_le c306.lt (Keep.of_wr W307).1) sf310
  obtain ⟨T314, X314, e314, st314⟩ := getF X311 hx hZ311 hown311 (host := "") (Or.inl (hw _ (List.mem_of_getElem? (i := 29) rfl))) Via.refl e311 fC311 (g := (mkF m 20 #[.val (.ref xs), .val (.ref ca), .val (.int (0 : Int32)), .val (.int (0 : Int32)), .val .null, .unset] [(.ref b311), (.ref xs)])) rfl rfl (hb hby d_jdk_42_method_149_code_20)
  have c315 : Fld Z h311 xs "java/lang/String" "coder" "B" (.int (0 : Int32)) := (((q2.ext E302).other W307 (Or.inr (slot_ne (Or.inr (hw _ (List.mem_of_getElem? (i := 25) rfl))) (Or.inr (hw _ (List.mem_of_getElem? (i := 24) rfl))) (by decide) (t := .byte) (t' := (.array .byte)) (by decide) (by decide)))).ext E311)
  have c316 : Exa Z h311 xs "java/lang/String" := ((c306.wr W307).ext E311)
  obtain ⟨T317, h317, X317, e317, W317, st317⟩ := putFN X314 hx hZ311 hown311 (hw _ (List.mem_of_getElem? (i := 29) rfl)) Via.refl e314 c315 c316 (Or.inr ⟨(hw _ (List.mem_of_getElem? (i := 25) rfl)), rfl, hnm⟩) (hw _ (List.mem_of_getElem? (i := 9) rfl)) (ty := .byte) (v' := (.int (0 : Int32))) (by decide) rfl rfl (g := (mkF m 23 #[.val (.ref xs), .val (.ref ca), .val (.int (0 : Int32)), .val (.int (0 : Int32)), .val .null, .unset] [(.int (0 : Int32)), (.ref xs)])) rfl rfl (hb hby d_jdk_42_method_149_code_23)
  have N317 := Fr.snoc X317 N307 q3
  have CR318 : CHr Z [("java/lang/String", 7)] s.vm h0 T311.vm h317 := CR312.trans (CHr.wr W317 sf313 CR312.1)
  have sf319 : Safe Z [("java/lang/String", 7)] T311.vm h317 xs := Safe.wr W317 sf313 CR312.1 sf313
  have F317 : Fld Z h317 xs "java/lang/String" "coder" "B" (.int (0 : Int32)) := c315.same W317
  have c320 : Fld Z h317 xs "java/lang/String" "value" "[B" (.ref bb302) := ((F307.ext E311).other W317 (Or.inr (slot_ne (Or.inr (hw _ (List.mem_of_getElem? (i := 24) rfl))) (Or.inr (hw _ (List.mem_of_getElem? (i := 25) rfl))) (by decide) (t := (.array .byte)) (t' := .byte) (by decide) (by decide))))
  have ne321 : xs ≠ bb302 := Exa.neArv c306 fA302 (hw _ (List.mem_of_getElem? (i := 9) rfl))
  have c322 : Arv Z h317 bb302 kb302 .byte (0 : Int32) [] (.int 0) := (((fA302.other W307 (Ne.symm ne321)).ext E311).other W317 (Ne.symm ne321))
  obtain ⟨fs, hr, hrun, hended, hEnd⟩ := X317.leaveW hS311 (by rw [e317]; exact (Nat.le_trans hk311 (Keep.of_wr W317).1)) (v := none) (fun _ => rfl)
  refine ⟨_, _, pre0 _ ?_, hrun, hended, _, _, rfl, ?_, (by rw [hh]; show CHr Z [("java/lang/String", 7)] s.vm h0 T317.vm T317.heap; rw [e317]; exact CR318.trans (CHv.at X317 hZ311 (own_EW hw) CR318.1)), hEnd.1, hEnd.2.1, hEnd.2.2.1, hEnd.2.2.2.mono (by decide) (by decide)⟩
  · refine XS.aloadN X0.here hx rfl (hb hby d_jdk_42_method_149_code_0) rfl rfl ?_
    show Steps p.tables e below (s₁.setTop (mkF m 1 #[.val (.ref xs), .val (.ref ca), .val (.int (0 : Int32)), .val (.int (0 : Int32)), .val .null, .unset] [(.ref xs)])) _
    refine st301 _ ?_
    show Steps p.tables e below (T301.setTop (mkF m 4 #[.val (.ref xs), .val (.ref ca), .val (.int (0 : Int32)), .val (.int (0 : Int32)), .val .null, .unset] [])) _
    refine XS.iloadN X301.here hx rfl (hb hby d_jdk_42_method_149_code_4) rfl ?_
    show Steps p.tables e below (T301.setTop (mkF m 5 #[.val (.ref xs), .val (.ref ca), .val (.int (0 : Int32)), .val (.int (0 : Int32)), .val .null, .unset] [(.int (0 : Int32))])) _
    refine XS.ifNo X301.here hx rfl (hb hby d_jdk_42_method_149_code_5) rfl ((if0 _ _).trans (teq ((by decide) : (0 : Int32) = (0 : Int32))).2) ?_
    show Steps p.tables e below (T301.setTop (mkF m 8 #[.val (.ref xs), .val (.ref ca), .val (.int (0 : Int32)), .val (.int (0 : Int32)), .val .null, .unset] [])) _
    refine XS.aloadN X301.here hx rfl (hb hby d_jdk_42_method_149_code_8) rfl rfl ?_
    show Steps p.tables e below (T301.setTop (mkF m 9 #[.val (.ref xs), .val (.ref ca), .val (.int (0 : Int32)), .val (.int (0 : Int32)), .val .null, .unset] [(.ref xs)])) _
    refine st302 _ ?_
    show Steps p.tables e below (T302.setTop (mkF m 11 #[.val (.ref xs), .val (.ref ca), .val (.int (0 : Int32)), .val (.int (0 : Int32)), .val .null, .unset] [(.ref b302), (.ref xs)])) _
    refine st304 _ ?_
    show Steps p.tables e below (T304.setTop (mkF m 14 #[.val (.ref xs), .val (.ref ca), .val (.int (0 : Int32)), .val (.int (0 : Int32)), .val .null, .unset] [(.ref bb302), (.ref xs)])) _
    refine st307 _ ?_
    show Steps p.tables e below (T307.setTop (mkF m 17 #[.val (.ref xs), .val (.ref ca), .val (.int (0 : Int32)), .val (.int (0 : Int32)), .val .null, .unset] [])) _
    refine XS.aloadN X307.here hx rfl (hb hby d_jdk_42_method_149_code_17) rfl rfl ?_
    show Steps p.tables e below (T307.setTop (mkF m 18 #[.val (.ref xs), .val (.ref ca), .val (.int (0 : Int32)), .val (.int (0 : Int32)), .val .null, .unset] [(.ref xs)])) _
    refine st311 _ ?_
    show Steps p.tables e below (T311.setTop (mkF m 20 #[.val (.ref xs), .val (.ref ca), .val (.int (0 : Int32)), .val (.int (0 : Int32)), .val .null, .unset] [(.ref b311), (.ref xs)])) _
    refine st314 _ ?_
    show Steps p.tables e below (T314.setTop (mkF m 23 #[.val (.ref xs), .val (.ref ca), .val (.int (0 : Int32)), .val (.int (0 : Int32)), .val .null, .unset] [(.int (0 : Int32)), (.ref xs)])) _
    refine st317 _ ?_
    show Steps p.tables e below (T317.setTop (mkF m 26 #[.val (.ref xs), .val (.ref ca), .val (.int (0 : Int32)), .val (.int (0 : Int32)), .val .null, .unset] [])) _
    exact X317.returnOut hx Bd.returns (hb hby d_jdk_42_method_149_code_26) hr
  · show Q_newE4 Z xs ca h0 n0 _ T317.heap _
    rw [e317]
    exact ⟨bb302, kb302, rfl, N317, (((((Keep.refl h0 ([xs] : List Addr)).ext E302).wr W307 (Or.inl (by simp))).ext E311).wr W317 (Or.inl (by simp))), c320, F317, c322⟩
theorem d_jdk_42_method_3_code_0 : decode jdk_42_method_3_code 0 = .ok (.aload_n 0, 1) := by decide +kernel
theorem d_jdk_42_method_3_code_1 : decode jdk_42_method_3_code 1 = .ok (.aload_n 1, 1) := by decide +kernel
theorem d_jdk_42_method_3_code_2 : decode jdk_42_method_3_code 2 = .ok (.iconst 0, 1) := by decide +kernel
theorem d_jdk_42_method_3_code_3 : decode jdk_42_method_3_code 3 = .ok (.aload_n 1, 1) := by decide +kernel
theorem d_jdk_42_method_3_code_4 : decode jdk_42_method_3_code 4 = .ok (.arraylength, 1) := by decide +kernel
theorem d_jdk_42_method_3_code_5 : decode jdk_42_method_3_code 5 = .ok (.aconst_null, 1) := by decide +kernel
theorem d_jdk_42_method_3_code_6 : decode jdk_42_method_3_code 6 = .ok (.invokespecial 27, 3) := by decide +kernel
theorem pd_0 : parseMethodDescriptor "([CIILjava/lang/Void;)V" = some ⟨[(.array .char), .int, .int, (.object "java/lang/Void")], none⟩ := by decide +kernel
theorem d_jdk_42_method_3_code_9 : decode jdk_42_method_3_code 9 = .ok (.return_, 1) := by decide +kernel
theorem ef_1 (m : MethodId) (x0 : Addr) (x1 : Addr) : entryFrame m #[(.ref x0), (.ref x1)] 2 = mkF m 0 #[.val (.ref x0), .val (.ref x1)] [] := by first | (simp [entryFrame, mkF, argsToLocals, Value.category]; done) | rfl
def Q_newE1 (Z : State) (xs : Addr) (ca : Addr) (kc : ClassId) (h0 : Heap) (n0 : Nat) (v : Option Value) (h : Heap) (L : List Loc) : Prop := ∃ (tt : Addr) (kt : ClassId), (v = none) ∧ (Fr n0 L) ∧ (Keep h0 h ([xs] : List Addr)) ∧ (Fld Z h xs "java/lang/String" "value" "[B" (.ref tt)) ∧ (Fld Z h xs "java/lang/String" "coder" "B" (.int (0 : Int32))) ∧ (Arv Z h tt kt .byte (0 : Int32) [] (.int 0))
set_option maxRecDepth 65536 in
set_option maxHeartbeats 40000000 in
theorem rm_newE1 (l : Launch) (Z : State) (a0 : Array Value) (hw : ∀ d ∈ tables_1, d.before a0 Z = true) (ws : List Jvm.Cond) (xs : Addr) (ca : Addr) (kc : ClassId) (h0 : Heap) (n0 : Nat) (Z0 : n0 ≤ h0.size) (q0 : Exa Z h0 xs "java/lang/String") (q1 : Fld Z h0 xs "java/lang/String" "value" "[B" .null) (q2 : Fld Z h0 xs "java/lang/String" "coder" "B" (.int (0 : Int32))) (q3 : n0 ≤ xs) (q4 : Arv Z h0 ca kc .char (0 : Int32) [] (.int (0 : Int32))) :
    MetFree l (⟨"java/lang/String", "<init>", "([C)V"⟩ : MethodName) (head1 (Jvm.Cond.code (⟨"java/lang/String", "<init>", "([C)V"⟩ : MethodName) jdk_42_method_3_code 2 none :: ws) ({ frames := 2, cells := 4, slots := 8, locals := 29 } : Room)) (fun a₁ U₁ => a₁ = #[(.ref xs), (.ref ca)] ∧ Z.Warmed39 U₁.vm ∧ U₁.heap = h0 ∧ CHv Z [("java/lang/String", 7)] U₁.vm h0) (fun _ _ _ _ _ => True) (fun _ U₁ o₁ U₂ => ∃ v₁ L₁, o₁ = .returned v₁ ∧ Q_newE1 Z xs ca kc h0 n0 v₁ U₂.heap L₁ ∧ CHr Z [("java/lang/String", 7)] U₁.vm U₁.heap U₂.vm U₂.heap ∧ ReturnedEndW U₁ o₁ U₂ L₁ ({ frames := 2, cells := 4, slots := 8, locals := 29 } : Room).cells ({ frames := 2, cells := 4, slots := 8, locals := 29 } : Room).slots) := by
  refine MetFree.of_bodySF (plainFor_of_name pn_0) hisR ?_
  intro p e s m args below meth c s₁ Bd hml0 hP hK
  obtain ⟨rfl, hZ, hh, CH0⟩ := hP
  have hx := Bd.exec
  have hby := Bd.bytes
  have hml : c.maxLocals = 2 := hml0
  have hown : s.vm.findClass "java/lang/String" = some m.cls := findClass_of_methodNamed Bd.named
  have hnm := (name_of_methodNamed Bd.named Bd.method).1
  have X0 : Stand p l e ({ frames := 2, cells := 4, slots := 8, locals := 29 } : Room) (s.setVm s.vm) m #[(.ref xs), (.ref ca)] below meth c s₁ [] 0 0 := Stand.of_body Bd
  have e0 : s₁.heap = h0 := by rw [← hh, Bd.state]; rfl
  have N0 := Fr.nil n0
  have hZ0 : Z.Warmed39 (s.setVm s.vm).vm := hZ
  have hown0 : (s.setVm s.vm).vm.findClass "java/lang/String" = some m.cls := hown
  have hS0 : s.Since s.vm h0.size := (State.WarmedH.refl s).since _
  have hk0 : h0.size ≤ h0.size := Nat.le_refl _
  have CR0 : CHr Z [("java/lang/String", 7)] s.vm h0 s.vm h0 := CHr.refl CH0
  have pre0 : ∀ t, Steps p.tables e below (s₁.setTop (mkF m 0 #[.val (.ref xs), .val (.ref ca)] [])) t → Steps p.tables e below (s₁.setTop (entryFrame m #[(.ref xs), (.ref ca)] 2)) t := fun t k => castTop (ef_1 m xs ca) k
  obtain ⟨cl301, Ar301, -, S301, M301, -, -⟩ := id q4
  obtain ⟨_, _, ⟨T302, L302, k302, n302⟩, -, X302', hS302', hz302', ⟨Lc302, hQ302, l302, y302, z302, ch302⟩, st302⟩ := X0.specialBackS hx (y := (⟨"java/lang/String", "<init>", "([CIILjava/lang/Void;)V"⟩ : MethodName)) rfl hown0 (mvT hZ0 (hw _ (List.mem_of_getElem? (i := 15) rfl))) (mvT hZ0 (hw _ (List.mem_of_getElem? (i := 16) rfl))) (mvT hZ0 (hw _ (List.mem_of_getElem? (i := 18) rfl))) (by decide) (backOfSH (W := 0) (rm_newE4 l Z a0 hw [] xs ca h0 n0 Z0 q0 q1 q2 q3) hZ0 (hw _ (List.mem_of_getElem? (i := 18) rfl)) (hw _ (List.mem_of_getElem? (i := 10) rfl)) (by decide) (by decide) (own_EW hw) CR0.1) (g := (mkF m 6 #[.val (.ref xs), .val (.ref ca)] [.null, (.int (0 : Int32)), (.int (0 : Int32)), (.ref ca), (.ref xs)])) rfl (by rw [hml]; rfl) (Steps.refl _) (a := xs) (argsL := [(.ref ca), (.int (0 : Int32)), (.int (0 : Int32)), .null]) (rest := []) (lenOf pd_0 rfl) rfl (by show 2 * 0 + _ ≤ _; exact Nat.le_of_eq rfl) (hb hby d_jdk_42_method_3_code_6) (fun _ _ => ⟨rfl, e0, (by decide : 0 + 4 ≤ _), (by decide : 0 + 8 ≤ _)⟩)
  dsimp only [Pt.U, Pt.locs, Pt.cells, Pt.slots] at X302' l302 y302 z302 st302 hQ302 hS302' hz302' ch302
  subst l302 y302 z302
  obtain ⟨tt_302, kt_302, rfl, Nq302, K302, f302_0, f302_1, f302_2⟩ := hQ302
  have N302 := Fr.app N0 Nq302
  obtain ⟨X302, hS302, hZ302, hown302⟩ := rebS hS0 (by rw [e0]; exact hk0) X302' hS302' hz302' hZ0 hown0
  have CR303 : CHr Z [("java/lang/String", 7)] s.vm h0 T302.vm T302.heap := CR0.trans ch302
  obtain ⟨fs, hr, hrun, hended, hEnd⟩ := X302.leaveW hS302 (Nat.le_refl _) (v := none) (fun _ => rfl)
  refine ⟨_, _, pre0 _ ?_, hrun, hended, _, _, rfl, ?_, (by rw [hh]; show CHr Z [("java/lang/String", 7)] s.vm h0 T302.vm T302.heap; exact CR303.trans (CHv.at X302 hZ302 (own_EW hw) CR303.1)), hEnd.1, hEnd.2.1, hEnd.2.2.1, hEnd.2.2.2.mono (by decide) (by decide)⟩
  · refine XS.aloadN X0.here hx rfl (hb hby d_jdk_42_method_3_code_0) rfl rfl ?_
    show Steps p.tables e below (s₁.setTop (mkF m 1 #[.val (.ref xs), .val (.ref ca)] [(.ref xs)])) _
    refine XS.aloadN X0.here hx rfl (hb hby d_jdk_42_method_3_code_1) rfl rfl ?_
    show Steps p.tables e below (s₁.setTop (mkF m 2 #[.val (.ref xs), .val (.ref ca)] [(.ref ca), (.ref xs)])) _
    refine XS.iconst X0.here hx rfl (hb hby d_jdk_42_method_3_code_2) ?_
    show Steps p.tables e below (s₁.setTop (mkF m 3 #[.val (.ref xs), .val (.ref ca)] [(.int (0 : Int32)), (.ref ca), (.ref xs)])) _
    refine XS.aloadN X0.here hx rfl (hb hby d_jdk_42_method_3_code_3) rfl rfl ?_
    show Steps p.tables e below (s₁.setTop (mkF m 4 #[.val (.ref xs), .val (.ref ca)] [(.ref ca), (.int (0 : Int32)), (.ref ca), (.ref xs)])) _
    refine X0.arraylength hx (by rw [e0]; exact Ar301.1) (State.isArrayOf_alike hZ0.alike Ar301.2.1) (g := (mkF m 4 #[.val (.ref xs), .val (.ref ca)] [(.ref ca), (.int (0 : Int32)), (.ref ca), (.ref xs)])) rfl rfl (hb hby d_jdk_42_method_3_code_4) _ ?_
    rw [len_of S301 M301]
    show Steps p.tables e below (s₁.setTop (mkF m 5 #[.val (.ref xs), .val (.ref ca)] [(.int (0 : Int32)), (.int (0 : Int32)), (.ref ca), (.ref xs)])) _
    refine XS.aconstNull X0.here hx rfl (hb hby d_jdk_42_method_3_code_5) ?_
    show Steps p.tables e below (s₁.setTop (mkF m 6 #[.val (.ref xs), .val (.ref ca)] [.null, (.int (0 : Int32)), (.int (0 : Int32)), (.ref ca), (.ref xs)])) _
    refine st302.trans ?_
    show Steps p.tables e below (T302.setTop (mkF m 9 #[.val (.ref xs), .val (.ref ca)] [])) _
    exact X302.returnOut hx Bd.returns (hb hby d_jdk_42_method_3_code_9) hr
  · show Q_newE1 Z xs ca kc h0 n0 _ T302.heap _
    exact ⟨tt_302, kt_302, rfl, N302, ((Keep.refl h0 ([xs] : List Addr)).trans K302 (allS (Or.inl (by simp)) all0)), f302_0, f302_1, f302_2⟩
theorem d_jdk_43_method_3_code_0 : decode jdk_43_method_3_code 0 = .ok (.iload_n 0, 1) := by decide +kernel
theorem d_jdk_43_method_3_code_1 : decode jdk_43_method_3_code 1 = .ok (.sipush 255, 3) := by decide +kernel
theorem d_jdk_43_method_3_code_4 : decode jdk_43_method_3_code 4 = .ok (.if_icmp .gt 7, 3) := by decide +kernel
theorem d_jdk_43_method_3_code_7 : decode jdk_43_method_3_code 7 = .ok (.iconst 1, 1) := by decide +kernel
theorem d_jdk_43_method_3_code_8 : decode jdk_43_method_3_code 8 = .ok (.goto 4, 3) := by decide +kernel
theorem d_jdk_43_method_3_code_12 : decode jdk_43_method_3_code 12 = .ok (.ireturn, 1) := by decide +kernel
theorem ef_2 (m : MethodId) (x0 : Int32) : entryFrame m #[(.int x0)] 1 = mkF m 0 #[.val (.int x0)] [] := by first | (simp [entryFrame, mkF, argsToLocals, Value.category]; done) | rfl
theorem pn_1 : plainName "java/lang/StringLatin1" = true := by first | (simp [plainName, overriddenIn]; done) | decide +kernel
def Q_canEnc (Z : State) (xc : Int32) (h0 : Heap) (n0 : Nat) (v : Option Value) (h : Heap) (L : List Loc) : Prop := (v = some (.int (1 : Int32))) ∧ (Fr n0 L) ∧ (h = h0)
set_option maxRecDepth 65536 in
set_option maxHeartbeats 40000000 in
theorem rm_canEnc (l : Launch) (Z : State) (a0 : Array Value) (hw : ∀ d ∈ tables_1, d.before a0 Z = true) (ws : List Jvm.Cond) (xc : Int32) (h0 : Heap) (n0 : Nat) (Z0 : n0 ≤ h0.size) (h255 : ¬ (255 : Int32) < xc) :
    MetFree l (⟨"java/lang/StringLatin1", "canEncode", "(C)Z"⟩ : MethodName) (head1 (Jvm.Cond.code (⟨"java/lang/StringLatin1", "canEncode", "(C)Z"⟩ : MethodName) jdk_43_method_3_code 1 (some .boolean) :: ws) ({ frames := 0, cells := 0, slots := 0, locals := 0 } : Room)) (fun a₁ U₁ => a₁ = #[(.int xc)] ∧ Z.Warmed39 U₁.vm ∧ U₁.heap = h0) (fun _ _ _ _ _ => True) (fun _ U₁ o₁ U₂ => ∃ v₁ L₁, o₁ = .returned v₁ ∧ Q_canEnc Z xc h0 n0 v₁ U₂.heap L₁ ∧ FrameEnd U₁ o₁ U₂ L₁ ({ frames := 0, cells := 0, slots := 0, locals := 0 } : Room).cells ({ frames := 0, cells := 0, slots := 0, locals := 0 } : Room).slots) := by
  refine MetFree.of_bodySF (plainFor_of_name pn_1) hisR ?_
  intro p e s m args below meth c s₁ Bd hml0 hP hK
  obtain ⟨rfl, hZ, hh⟩ := hP
  have hx := Bd.exec
  have hby := Bd.bytes
  have hml : c.maxLocals = 1 := hml0
  have hown : s.vm.findClass "java/lang/StringLatin1" = some m.cls := findClass_of_methodNamed Bd.named
  have hnm := (name_of_methodNamed Bd.named Bd.method).1
  have X0 : Stand p l e ({ frames := 0, cells := 0, slots := 0, locals := 0 } : Room) s m #[(.int xc)] below meth c s₁ [] 0 0 := Stand.of_body Bd
  have e0 : s₁.heap = h0 := by rw [← hh, Bd.state]; rfl
  have N0 := Fr.nil n0
  have pre0 : ∀ t, Steps p.tables e below (s₁.setTop (mkF m 0 #[.val (.int xc)] [])) t → Steps p.tables e below (s₁.setTop (entryFrame m #[(.int xc)] 1)) t := fun t k => castTop (ef_2 m xc) k
  obtain ⟨fs, hr, hrun, hended, hW, hsame⟩ := X0.leave (v := some (.int (1 : Int32))) (fun h => by rw [Bd.returns] at h; cases h)
  refine ⟨_, _, pre0 _ ?_, hrun, hended, _, _, rfl, ?_, ⟨_, rfl⟩, hW, hsame.mono (by decide) (by decide)⟩
  · refine XS.iloadN X0.here hx rfl (hb hby d_jdk_43_method_3_code_0) rfl ?_
    show Steps p.tables e below (s₁.setTop (mkF m 1 #[.val (.int xc)] [(.int xc)])) _
    refine XS.sipush X0.here hx rfl (hb hby d_jdk_43_method_3_code_1) ?_
    show Steps p.tables e below (s₁.setTop (mkF m 4 #[.val (.int xc)] [(.int (255 : Int32)), (.int xc)])) _
    refine XS.icmpNo X0.here hx rfl (hb hby d_jdk_43_method_3_code_4) rfl (flt (h255 : ¬ ((255 : Int32) < xc))).2.2.1 ?_
    show Steps p.tables e below (s₁.setTop (mkF m 7 #[.val (.int xc)] [])) _
    refine XS.iconst X0.here hx rfl (hb hby d_jdk_43_method_3_code_7) ?_
    show Steps p.tables e below (s₁.setTop (mkF m 8 #[.val (.int xc)] [(.int (1 : Int32))])) _
    refine XS.goto X0.here hx rfl (pc0 := 8) (pc' := 12) rfl (hb hby d_jdk_43_method_3_code_8) (by decide) (by decide) ?_
    show Steps p.tables e below (s₁.setTop (mkF m 12 #[.val (.int xc)] [(.int (1 : Int32))])) _
    exact retN X0 hx (t := .boolean) Bd.returns (by simp) (hb hby d_jdk_43_method_3_code_12) hr
  · show Q_canEnc Z xc h0 n0 _ s₁.heap _
    rw [e0]
    exact ⟨rfl, N0, rfl⟩
theorem d_jdk_43_method_46_code_0 : decode jdk_43_method_46_code 0 = .ok (.iconst 1, 1) := by decide +kernel
theorem d_jdk_43_method_46_code_1 : decode jdk_43_method_46_code 1 = .ok (.newarray .byte, 2) := by decide +kernel
theorem d_jdk_43_method_46_code_3 : decode jdk_43_method_46_code 3 = .ok (.dup, 1) := by decide +kernel
theorem d_jdk_43_method_46_code_4 : decode jdk_43_method_46_code 4 = .ok (.iconst 0, 1) := by decide +kernel
theorem d_jdk_43_method_46_code_5 : decode jdk_43_method_46_code 5 = .ok (.iload_n 0, 1) := by decide +kernel
theorem d_jdk_43_method_46_code_6 : decode jdk_43_method_46_code 6 = .ok (.i2b, 1) := by decide +kernel
theorem d_jdk_43_method_46_code_7 : decode jdk_43_method_46_code 7 = .ok (.bastore, 1) := by decide +kernel
theorem d_jdk_43_method_46_code_8 : decode jdk_43_method_46_code 8 = .ok (.areturn, 1) := by decide +kernel
def Q_toB1 (Z : State) (xc : Int32) (h0 : Heap) (n0 : Nat) (v : Option Value) (h : Heap) (L : List Loc) : Prop := ∃ (tt : Addr) (kt : ClassId), (v = some (.ref tt)) ∧ (Fr n0 L) ∧ (Keep h0 h ([] : List Addr)) ∧ (h0.size ≤ tt) ∧ (Arv Z h tt kt .byte (1 : Int32) [(.int (nar .byte (xc.toInt8.toInt32)))] (.int (0 : Int32)))
set_option maxRecDepth 65536 in
set_option maxHeartbeats 40000000 in
theorem rm_toB1 (l : Launch) (Z : State) (a0 : Array Value) (hw : ∀ d ∈ tables_1, d.before a0 Z = true) (ws : List Jvm.Cond) (xc : Int32) (h0 : Heap) (n0 : Nat) (Z0 : n0 ≤ h0.size) :
    MetFree l (⟨"java/lang/StringLatin1", "toBytes", "(C)[B"⟩ : MethodName) (head1 (Jvm.Cond.code (⟨"java/lang/StringLatin1", "toBytes", "(C)[B"⟩ : MethodName) jdk_43_method_46_code 1 (some (.array .byte)) :: ws) ({ frames := 0, cells := 1, slots := 1, locals := 0 } : Room)) (fun a₁ U₁ => a₁ = #[(.int xc)] ∧ Z.Warmed39 U₁.vm ∧ U₁.heap = h0) (fun _ _ _ _ _ => True) (fun _ U₁ o₁ U₂ => ∃ v₁ L₁, o₁ = .returned v₁ ∧ Q_toB1 Z xc h0 n0 v₁ U₂.heap L₁ ∧ FrameEnd U₁ o₁ U₂ L₁ ({ frames := 0, cells := 1, slots := 1, locals := 0 } : Room).cells ({ frames := 0, cells := 1, slots := 1, locals := 0 } : Room).slots) := by
  refine MetFree.of_bodySF (plainFor_of_name pn_1) hisR ?_
  intro p e s m args below meth c s₁ Bd hml0 hP hK
  obtain ⟨rfl, hZ, hh⟩ := hP
  have hx := Bd.exec
  have hby := Bd.bytes
  have hml : c.maxLocals = 1 := hml0
  have hown : s.vm.findClass "java/lang/StringLatin1" = some m.cls := findClass_of_methodNamed Bd.named
  have hnm := (name_of_methodNamed Bd.named Bd.method).1
  have X0 : Stand p l e ({ frames := 0, cells := 1, slots := 1, locals := 0 } : Room) s m #[(.int xc)] below meth c s₁ [] 0 0 := Stand.of_body Bd
  have e0 : s₁.heap = h0 := by rw [← hh, Bd.state]; rfl
  have N0 := Fr.nil n0
  have pre0 : ∀ t, Steps p.tables e below (s₁.setTop (mkF m 0 #[.val (.int xc)] [])) t → Steps p.tables e below (s₁.setTop (entryFrame m #[(.int xc)] 1)) t := fun t k => castTop (ef_2 m xc) k
  obtain ⟨T301, h301, ky301, X301, e301, E301, A301, st301⟩ := newP X0 hx hZ (hw _ (List.mem_of_getElem? (i := 23) rfl)) e0 (g := (mkF m 1 #[.val (.int xc)] [(.int (1 : Int32))])) rfl (hb hby d_jdk_43_method_46_code_1) rfl ((by decide) : ¬ ((1 : Int32) < (0 : Int32))) (cap := 1) ((by decide) : (1 : Int32).toNatClampNeg ≤ 1) (by decide) (by decide) (by decide)
  obtain ⟨b301, g301⟩ : ∃ z, z = h0.size := ⟨_, rfl⟩
  rw [← g301] at A301 st301
  have V301 : Arv Z h301 b301 ky301 .byte (1 : Int32) [] (.int (0 : Int32)) := Arv.new A301 (by decide)
  have U301 : Arv Z h301 b301 ky301 .byte (1 : Int32) [(.int (0 : Int32))] (.int (0 : Int32)) := V301.pad (pad_rep [] (.int (0 : Int32)) 1)
  have ge303 : n0 ≤ b301 := Nat.le_trans Z0 (Nat.le_trans (Nat.le_refl _) (Nat.le_of_eq g301.symm))
  obtain ⟨cl302, Ar302, qq302, S302, M302, Hh302, U302⟩ := id U301
  obtain ⟨T302, h302, X302, e302, W302, st302⟩ := stB X301 hx hZ e301 Ar302 (j := (0 : Int32)) (inb_of S302 ⟨(by decide : ¬ ((0 : Int32) < (0 : Int32))), (by decide : (0 : Int32) < (1 : Int32))⟩) (g := (mkF m 7 #[.val (.int xc)] [(.int (xc.toInt8.toInt32)), (.int (0 : Int32)), (.ref b301), (.ref b301)])) rfl rfl (hb hby d_jdk_43_method_46_code_7)
  have N302 := Fr.snoc X302 N0 ge303
  have V302 : Arv Z h302 b301 ky301 .byte (1 : Int32) [(.int (nar .byte (xc.toInt8.toInt32)))] (.int (0 : Int32)) := Arv.set Ar302 qq302 S302 M302 Hh302 U302 (fits_nar_byte _) W302 0 rfl (Nat.le_of_ble_eq_true rfl)
  obtain ⟨fs, hr, hrun, hended, hW, hsame⟩ := X302.leave (v := some (.ref b301)) (fun h => by rw [Bd.returns] at h; cases h)
  refine ⟨_, _, pre0 _ ?_, hrun, hended, _, _, rfl, ?_, ⟨_, rfl⟩, hW, hsame.mono (by decide) (by decide)⟩
  · refine XS.iconst X0.here hx rfl (hb hby d_jdk_43_method_46_code_0) ?_
    show Steps p.tables e below (s₁.setTop (mkF m 1 #[.val (.int xc)] [(.int (1 : Int32))])) _
    refine st301 _ ?_
    show Steps p.tables e below (T301.setTop (mkF m 3 #[.val (.int xc)] [(.ref b301)])) _
    refine XS.dup X301.here hx rfl (hb hby d_jdk_43_method_46_code_3) rfl rfl ?_
    show Steps p.tables e below (T301.setTop (mkF m 4 #[.val (.int xc)] [(.ref b301), (.ref b301)])) _
    refine XS.iconst X301.here hx rfl (hb hby d_jdk_43_method_46_code_4) ?_
    show Steps p.tables e below (T301.setTop (mkF m 5 #[.val (.int xc)] [(.int (0 : Int32)), (.ref b301), (.ref b301)])) _
    refine XS.iloadN X301.here hx rfl (hb hby d_jdk_43_method_46_code_5) rfl ?_
    show Steps p.tables e below (T301.setTop (mkF m 6 #[.val (.int xc)] [(.int xc), (.int (0 : Int32)), (.ref b301), (.ref b301)])) _
    refine XS.i2b X301.here hx rfl (hb hby d_jdk_43_method_46_code_6) rfl ?_
    show Steps p.tables e below (T301.setTop (mkF m 7 #[.val (.int xc)] [(.int (xc.toInt8.toInt32)), (.int (0 : Int32)), (.ref b301), (.ref b301)])) _
    refine st302 _ ?_
    show Steps p.tables e below (T302.setTop (mkF m 8 #[.val (.int xc)] [(.ref b301)])) _
    jvm_step X302.here [X302.here.top, hx, (hb hby d_jdk_43_method_46_code_8), X302.method', Bd.returns, Value.isRef, FieldType.isReference]
    first | (intro acts; rw [hr _ acts rfl rfl rfl]) | rw [hr _ _ rfl rfl rfl]
    exact Steps.refl _
  · show Q_toB1 Z xc h0 n0 _ T302.heap _
    rw [e302]
    exact ⟨b301, ky301, rfl, N302, (((Keep.refl h0 ([] : List Addr)).ext E301).wr W302 (Or.inr (Nat.le_trans (Nat.le_refl _) (Nat.le_of_eq g301.symm)))), (Nat.le_trans (Nat.le_refl _) (Nat.le_of_eq g301.symm)), V302⟩
theorem d_jdk_42_method_151_code_0 : decode jdk_42_method_151_code 0 = .ok (.aload_n 0, 1) := by decide +kernel
theorem d_jdk_42_method_151_code_1 : decode jdk_42_method_151_code 1 = .ok (.invokespecial 1, 3) := by decide +kernel
theorem d_jdk_42_method_151_code_4 : decode jdk_42_method_151_code 4 = .ok (.aload_n 0, 1) := by decide +kernel
theorem d_jdk_42_method_151_code_5 : decode jdk_42_method_151_code 5 = .ok (.aload_n 1, 1) := by decide +kernel
theorem d_jdk_42_method_151_code_6 : decode jdk_42_method_151_code 6 = .ok (.putfield 9, 3) := by decide +kernel
theorem d_jdk_42_method_151_code_9 : decode jdk_42_method_151_code 9 = .ok (.aload_n 0, 1) := by decide +kernel
theorem d_jdk_42_method_151_code_10 : decode jdk_42_method_151_code 10 = .ok (.iload_n 2, 1) := by decide +kernel
theorem d_jdk_42_method_151_code_11 : decode jdk_42_method_151_code 11 = .ok (.putfield 15, 3) := by decide +kernel
theorem d_jdk_42_method_151_code_14 : decode jdk_42_method_151_code 14 = .ok (.return_, 1) := by decide +kernel
theorem ef_3 (m : MethodId) (x0 : Addr) (x1 : Addr) (x2 : Int32) : entryFrame m #[(.ref x0), (.ref x1), (.int x2)] 3 = mkF m 0 #[.val (.ref x0), .val (.ref x1), .val (.int x2)] [] := by first | (simp [entryFrame, mkF, argsToLocals, Value.category]; done) | rfl
def Q_strBB (Z : State) (xs : Addr) (tt : Addr) (h0 : Heap) (n0 : Nat) (v : Option Value) (h : Heap) (L : List Loc) : Prop := (v = none) ∧ (Fr n0 L) ∧ (Keep h0 h ([xs] : List Addr)) ∧ (Fld Z h xs "java/lang/String" "value" "[B" (.ref tt)) ∧ (Fld Z h xs "java/lang/String" "coder" "B" (.int (0 : Int32)))
set_option maxRecDepth 65536 in
set_option maxHeartbeats 40000000 in
theorem rm_strBB (l : Launch) (Z : State) (a0 : Array Value) (hw : ∀ d ∈ tables_1, d.before a0 Z = true) (ws : List Jvm.Cond) (xs : Addr) (tt : Addr) (h0 : Heap) (n0 : Nat) (Z0 : n0 ≤ h0.size) (q0 : Exa Z h0 xs "java/lang/String") (q1 : Fld Z h0 xs "java/lang/String" "value" "[B" .null) (q2 : Fld Z h0 xs "java/lang/String" "coder" "B" (.int (0 : Int32))) (q3 : n0 ≤ xs) :
    MetFree l (⟨"java/lang/String", "<init>", "([BB)V"⟩ : MethodName) (head1 (Jvm.Cond.code (⟨"java/lang/String", "<init>", "([BB)V"⟩ : MethodName) jdk_42_method_151_code 3 none :: ws) ({ frames := 1, cells := 0, slots := 0, locals := 12 } : Room)) (fun a₁ U₁ => a₁ = #[(.ref xs), (.ref tt), (.int (0 : Int32))] ∧ Z.Warmed39 U₁.vm ∧ U₁.heap = h0) (fun _ _ _ _ _ => True) (fun _ U₁ o₁ U₂ => ∃ v₁ L₁, o₁ = .returned v₁ ∧ Q_strBB Z xs tt h0 n0 v₁ U₂.heap L₁ ∧ FrameEnd U₁ o₁ U₂ L₁ ({ frames := 1, cells := 0, slots := 0, locals := 12 } : Room).cells ({ frames := 1, cells := 0, slots := 0, locals := 12 } : Room).slots) := by
  refine MetFree.of_bodySF (plainFor_of_name pn_0) hisR ?_
  intro p e s m args below meth c s₁ Bd hml0 hP hK
  obtain ⟨rfl, hZ, hh⟩ := hP
  have hx := Bd.exec
  have hby := Bd.bytes
  have hml : c.maxLocals = 3 := hml0
  have hown : s.vm.findClass "java/lang/String" = some m.cls := findClass_of_methodNamed Bd.named
  have hnm := (name_of_methodNamed Bd.named Bd.method).1
  have X0 : Stand p l e ({ frames := 1, cells := 0, slots := 0, locals := 12 } : Room) s m #[(.ref xs), (.ref tt), (.int (0 : Int32))] below meth c s₁ [] 0 0 := Stand.of_body Bd
  have e0 : s₁.heap = h0 := by rw [← hh, Bd.state]; rfl
  have N0 := Fr.nil n0
  have pre0 : ∀ t, Steps p.tables e below (s₁.setTop (mkF m 0 #[.val (.ref xs), .val (.ref tt), .val (.int (0 : Int32))] [])) t → Steps p.tables e below (s₁.setTop (entryFrame m #[(.ref xs), (.ref tt), (.int (0 : Int32))] 3)) t := fun t k => castTop (ef_3 m xs tt (0 : Int32)) k
  obtain ⟨T301, X301, e301, st301⟩ := initO X0 hx hZ hown (hw _ (List.mem_of_getElem? (i := 19) rfl)) (hw _ (List.mem_of_getElem? (i := 20) rfl)) (hw _ (List.mem_of_getElem? (i := 21) rfl)) e0 (g := (mkF m 1 #[.val (.ref xs), .val (.ref tt), .val (.int (0 : Int32))] [(.ref xs)])) rfl (by rw [hml]; rfl) rfl (hb hby d_jdk_42_method_151_code_1) (by decide) (W := 0) (by show 2 * 0 + _ ≤ _; exact Nat.le_of_eq rfl) (by decide)
  obtain ⟨T302, h302, X302, e302, W302, st302⟩ := putF X301 hx hZ hown (host := "") (Or.inl (hw _ (List.mem_of_getElem? (i := 28) rfl))) Via.refl e301 q1 q0 (Or.inr ⟨(hw _ (List.mem_of_getElem? (i := 24) rfl)), rfl, hnm⟩) (hw _ (List.mem_of_getElem? (i := 9) rfl)) (ty := (.array .byte)) (by decide) rfl rfl (g := (mkF m 6 #[.val (.ref xs), .val (.ref tt), .val (.int (0 : Int32))] [(.ref tt), (.ref xs)])) rfl rfl (hb hby d_jdk_42_method_151_code_6)
  have N302 := Fr.snoc X302 N0 q3
  have F302 : Fld Z h302 xs "java/lang/String" "value" "[B" (.ref tt) := q1.same W302
  have c303 : Fld Z h302 xs "java/lang/String" "coder" "B" (.int (0 : Int32)) := (q2.other W302 (Or.inr (slot_ne (Or.inr (hw _ (List.mem_of_getElem? (i := 25) rfl))) (Or.inr (hw _ (List.mem_of_getElem? (i := 24) rfl))) (by decide) (t := .byte) (t' := (.array .byte)) (by decide) (by decide))))
  have c304 : Exa Z h302 xs "java/lang/String" := (q0.wr W302)
  obtain ⟨T305, h305, X305, e305, W305, st305⟩ := putFN X302 hx hZ hown (hw _ (List.mem_of_getElem? (i := 29) rfl)) Via.refl e302 c303 c304 (Or.inr ⟨(hw _ (List.mem_of_getElem? (i := 25) rfl)), rfl, hnm⟩) (hw _ (List.mem_of_getElem? (i := 9) rfl)) (ty := .byte) (v' := (.int (0 : Int32))) (by decide) rfl rfl (g := (mkF m 11 #[.val (.ref xs), .val (.ref tt), .val (.int (0 : Int32))] [(.int (0 : Int32)), (.ref xs)])) rfl rfl (hb hby d_jdk_42_method_151_code_11)
  have N305 := Fr.snoc X305 N302 q3
  have F305 : Fld Z h305 xs "java/lang/String" "coder" "B" (.int (0 : Int32)) := c303.same W305
  have c306 : Fld Z h305 xs "java/lang/String" "value" "[B" (.ref tt) := (F302.other W305 (Or.inr (slot_ne (Or.inr (hw _ (List.mem_of_getElem? (i := 24) rfl))) (Or.inr (hw _ (List.mem_of_getElem? (i := 25) rfl))) (by decide) (t := (.array .byte)) (t' := .byte) (by decide) (by decide))))
  obtain ⟨fs, hr, hrun, hended, hW, hsame⟩ := X305.leave (v := none) (fun _ => rfl)
  refine ⟨_, _, pre0 _ ?_, hrun, hended, _, _, rfl, ?_, ⟨_, rfl⟩, hW, hsame.mono (by decide) (by decide)⟩
  · refine XS.aloadN X0.here hx rfl (hb hby d_jdk_42_method_151_code_0) rfl rfl ?_
    show Steps p.tables e below (s₁.setTop (mkF m 1 #[.val (.ref xs), .val (.ref tt), .val (.int (0 : Int32))] [(.ref xs)])) _
    refine st301 _ ?_
    show Steps p.tables e below (T301.setTop (mkF m 4 #[.val (.ref xs), .val (.ref tt), .val (.int (0 : Int32))] [])) _
    refine XS.aloadN X301.here hx rfl (hb hby d_jdk_42_method_151_code_4) rfl rfl ?_
    show Steps p.tables e below (T301.setTop (mkF m 5 #[.val (.ref xs), .val (.ref tt), .val (.int (0 : Int32))] [(.ref xs)])) _
    refine XS.aloadN X301.here hx rfl (hb hby d_jdk_42_method_151_code_5) rfl rfl ?_
    show Steps p.tables e below (T301.setTop (mkF m 6 #[.val (.ref xs), .val (.ref tt), .val (.int (0 : Int32))] [(.ref tt), (.ref xs)])) _
    refine st302 _ ?_
    show Steps p.tables e below (T302.setTop (mkF m 9 #[.val (.ref xs), .val (.ref tt), .val (.int (0 : Int32))] [])) _
    refine XS.aloadN X302.here hx rfl (hb hby d_jdk_42_method_151_code_9) rfl rfl ?_
    show Steps p.tables e below (T302.setTop (mkF m 10 #[.val (.ref xs), .val (.ref tt), .val (.int (0 : Int32))] [(.ref xs)])) _
    refine XS.iloadN X302.here hx rfl (hb hby d_jdk_42_method_151_code_10) rfl ?_
    show Steps p.tables e below (T302.setTop (mkF m 11 #[.val (.ref xs), .val (.ref tt), .val (.int (0 : Int32))] [(.int (0 : Int32)), (.ref xs)])) _
    refine st305 _ ?_
    show Steps p.tables e below (T305.setTop (mkF m 14 #[.val (.ref xs), .val (.ref tt), .val (.int (0 : Int32))] [])) _
    exact X305.returnOut hx Bd.returns (hb hby d_jdk_42_method_151_code_14) hr
  · show Q_strBB Z xs tt h0 n0 _ T305.heap _
    rw [e305]
    exact ⟨rfl, N305, (((Keep.refl h0 ([xs] : List Addr)).wr W302 (Or.inl (by simp))).wr W305 (Or.inl (by simp))), c306, F305⟩
theorem d_jdk_42_method_139_code_0 : decode jdk_42_method_139_code 0 = .ok (.getstatic 38, 3) := by decide +kernel
theorem d_jdk_42_method_139_code_3 : decode jdk_42_method_139_code 3 = .ok (.ifCond .eq 23, 3) := by decide +kernel
theorem d_jdk_42_method_139_code_6 : decode jdk_42_method_139_code 6 = .ok (.iload_n 0, 1) := by decide +kernel
theorem d_jdk_42_method_139_code_7 : decode jdk_42_method_139_code 7 = .ok (.invokestatic 1015, 3) := by decide +kernel
theorem pd_1 : parseMethodDescriptor "(C)Z" = some ⟨[.char], some .boolean⟩ := by decide +kernel
theorem d_jdk_42_method_139_code_10 : decode jdk_42_method_139_code 10 = .ok (.ifCond .eq 16, 3) := by decide +kernel
theorem d_jdk_42_method_139_code_13 : decode jdk_42_method_139_code 13 = .ok (.new 10, 3) := by decide +kernel
theorem d_jdk_42_method_139_code_16 : decode jdk_42_method_139_code 16 = .ok (.dup, 1) := by decide +kernel
theorem d_jdk_42_method_139_code_17 : decode jdk_42_method_139_code 17 = .ok (.iload_n 0, 1) := by decide +kernel
theorem d_jdk_42_method_139_code_18 : decode jdk_42_method_139_code 18 = .ok (.invokestatic 1018, 3) := by decide +kernel
theorem pd_2 : parseMethodDescriptor "(C)[B" = some ⟨[.char], some (.array .byte)⟩ := by decide +kernel
theorem d_jdk_42_method_139_code_21 : decode jdk_42_method_139_code 21 = .ok (.iconst 0, 1) := by decide +kernel
theorem d_jdk_42_method_139_code_22 : decode jdk_42_method_139_code 22 = .ok (.invokespecial 209, 3) := by decide +kernel
theorem pd_3 : parseMethodDescriptor "([BB)V" = some ⟨[(.array .byte), .byte], none⟩ := by decide +kernel
theorem d_jdk_42_method_139_code_25 : decode jdk_42_method_139_code 25 = .ok (.areturn, 1) := by decide +kernel
def Q_valC (Z : State) (xc : Int32) (G : Int32) (h0 : Heap) (n0 : Nat) (v : Option Value) (h : Heap) (L : List Loc) : Prop := ∃ (xr : Addr) (tt : Addr) (kt : ClassId), (v = some (.ref xr)) ∧ (Fr n0 L) ∧ (Keep h0 h ([] : List Addr)) ∧ (h0.size ≤ xr) ∧ (h0.size ≤ tt) ∧ (Exa Z h xr "java/lang/String") ∧ (Fld Z h xr "java/lang/String" "value" "[B" (.ref tt)) ∧ (Fld Z h xr "java/lang/String" "coder" "B" (.int (0 : Int32))) ∧ (Arv Z h tt kt .byte (1 : Int32) [(.int (nar .byte (xc.toInt8.toInt32)))] (.int (0 : Int32)))
set_option maxRecDepth 65536 in
set_option maxHeartbeats 40000000 in
theorem rm_valC (l : Launch) (Z : State) (a0 : Array Value) (hw : ∀ d ∈ tables_1, d.before a0 Z = true) (ws : List Jvm.Cond) (xc : Int32) (G : Int32) (h0 : Heap) (n0 : Nat) (Z0 : n0 ≤ h0.size) (q0 : Sta Z Z.heap "java/lang/String" "COMPACT_STRINGS" "Z" (.int G)) (hCS : ¬ (G = (0 : Int32))) (q2 : Old Z n0 h0) (h255 : ¬ (255 : Int32) < xc) :
    MetFree l (⟨"java/lang/String", "valueOf", "(C)Ljava/lang/String;"⟩ : MethodName) (head1 (Jvm.Cond.code (⟨"java/lang/String", "valueOf", "(C)Ljava/lang/String;"⟩ : MethodName) jdk_42_method_139_code 1 (some (.object "java/lang/String")) :: ws) ({ frames := 2, cells := 2, slots := 5, locals := 27 } : Room)) (fun a₁ U₁ => a₁ = #[(.int xc)] ∧ Z.Warmed39 U₁.vm ∧ U₁.heap = h0) (fun _ _ _ _ _ => True) (fun _ U₁ o₁ U₂ => ∃ v₁ L₁, o₁ = .returned v₁ ∧ Q_valC Z xc G h0 n0 v₁ U₂.heap L₁ ∧ FrameEnd U₁ o₁ U₂ L₁ ({ frames := 2, cells := 2, slots := 5, locals := 27 } : Room).cells ({ frames := 2, cells := 2, slots := 5, locals := 27 } : Room).slots) := by
  refine MetFree.of_bodySF (plainFor_of_name pn_0) hisR ?_
  intro p e s m args below meth c s₁ Bd hml0 hP hK
  obtain ⟨rfl, hZ, hh⟩ := hP
  have hx := Bd.exec
  have hby := Bd.bytes
  have hml : c.maxLocals = 1 := hml0
  have hown : s.vm.findClass "java/lang/String" = some m.cls := findClass_of_methodNamed Bd.named
  have hnm := (name_of_methodNamed Bd.named Bd.method).1
  have X0 : Stand p l e ({ frames := 2, cells := 2, slots := 5, locals := 27 } : Room) s m #[(.int xc)] below meth c s₁ [] 0 0 := Stand.of_body Bd
  have e0 : s₁.heap = h0 := by rw [← hh, Bd.state]; rfl
  have N0 := Fr.nil n0
  have pre0 : ∀ t, Steps p.tables e below (s₁.setTop (mkF m 0 #[.val (.int xc)] [])) t → Steps p.tables e below (s₁.setTop (entryFrame m #[(.int xc)] 1)) t := fun t k => castTop (ef_2 m xc) k
  obtain ⟨T301, X301, e301, st301⟩ := getS2 X0 hx hZ hown (host := "") (Or.inl (hw _ (List.mem_of_getElem? (i := 55) rfl))) Via.refl e0 (q0.ext q2.2) (g := (mkF m 0 #[.val (.int xc)] [])) rfl (hb hby d_jdk_42_method_139_code_0)
  obtain ⟨_, _, ⟨T302, L302, k302, n302⟩, -, X302, ⟨Lc302, hQ302, l302, y302, z302⟩, st302⟩ := Jvm.LawKit.callS X301 hx (y := (⟨"java/lang/StringLatin1", "canEncode", "(C)Z"⟩ : MethodName)) hown (mvT hZ (hw _ (List.mem_of_getElem? (i := 82) rfl))) (mvT hZ (hw _ (List.mem_of_getElem? (i := 83) rfl))) (mvT hZ (hw _ (List.mem_of_getElem? (i := 58) rfl))) (mvT hZ (hw _ (List.mem_of_getElem? (i := 84) rfl))) (by decide) (backOf (W := 0) (rm_canEnc l Z a0 hw [] xc h0 n0 Z0 h255) hZ (hw _ (List.mem_of_getElem? (i := 84) rfl)) (hw _ (List.mem_of_getElem? (i := 58) rfl)) (by decide) (by decide)) (g := (mkF m 7 #[.val (.int xc)] [(.int xc)])) rfl (by rw [hml]; rfl) (argsL := [(.int xc)]) (rest := []) (lenOf pd_1 rfl) rfl (by show 2 * 0 + _ ≤ _; exact Nat.le_of_eq rfl) (hb hby d_jdk_42_method_139_code_7) (fun _ _ => ⟨rfl, e301, (by decide : 0 + 0 ≤ _), (by decide : 0 + 0 ≤ _)⟩)
  dsimp only [Pt.U, Pt.locs, Pt.cells, Pt.slots] at X302 l302 y302 z302 st302 hQ302
  subst l302 y302 z302
  obtain ⟨rfl, Nq302, e302⟩ := hQ302
  have N302 := Fr.app N0 Nq302
  obtain ⟨T303, h303, X303, e303, E303, A303, D303, -, st303⟩ := newO X302 hx hZ hown (hw _ (List.mem_of_getElem? (i := 54) rfl)) (hw _ (List.mem_of_getElem? (i := 9) rfl)) (hw _ (List.mem_of_getElem? (i := 10) rfl)) e302 (g := (mkF m 13 #[.val (.int xc)] [])) rfl (hb hby d_jdk_42_method_139_code_13) (by decide) (by decide)
  obtain ⟨b303, g303⟩ : ∃ z, z = h0.size := ⟨_, rfl⟩
  rw [← g303] at A303 D303 st303
  have D303_value : Fld Z h303 b303 "java/lang/String" "value" "[B" .null := D303 (Or.inr (hw _ (List.mem_of_getElem? (i := 24) rfl))) (ty := (.array .byte)) (by decide)
  have D303_coder : Fld Z h303 b303 "java/lang/String" "coder" "B" (.int (0 : Int32)) := D303 (Or.inr (hw _ (List.mem_of_getElem? (i := 25) rfl))) (ty := .byte) (by decide)
  obtain ⟨_, _, ⟨T304, L304, k304, n304⟩, -, X304, ⟨Lc304, hQ304, l304, y304, z304⟩, st304⟩ := Jvm.LawKit.callS X303 hx (y := (⟨"java/lang/StringLatin1", "toBytes", "(C)[B"⟩ : MethodName)) hown (mvT hZ (hw _ (List.mem_of_getElem? (i := 85) rfl))) (mvT hZ (hw _ (List.mem_of_getElem? (i := 86) rfl))) (mvT hZ (hw _ (List.mem_of_getElem? (i := 58) rfl))) (mvT hZ (hw _ (List.mem_of_getElem? (i := 87) rfl))) (by decide) (backOf (W := 2) (rm_toB1 l Z a0 hw [] xc h303 n0 (Nat.le_trans Z0 E303.1) ) hZ (hw _ (List.mem_of_getElem? (i := 87) rfl)) (hw _ (List.mem_of_getElem? (i := 58) rfl)) (by decide) (by decide)) (g := (mkF m 18 #[.val (.int xc)] [(.int xc), (.ref b303), (.ref b303)])) rfl (by rw [hml]; rfl) (argsL := [(.int xc)]) (rest := [(.ref b303), (.ref b303)]) (lenOf pd_2 rfl) rfl (by show 2 * 0 + _ ≤ _; exact Nat.le_of_eq rfl) (hb hby d_jdk_42_method_139_code_18) (fun _ _ => ⟨rfl, e303, (by decide : 1 + 1 ≤ _), (by decide : 4 + 1 ≤ _)⟩)
  dsimp only [Pt.U, Pt.locs, Pt.cells, Pt.slots] at X304 l304 y304 z304 st304 hQ304
  subst l304 y304 z304
  obtain ⟨tt_304, kt_304, rfl, Nq304, K304, f304_0, f304_1⟩ := hQ304
  have N304 := Fr.app N302 Nq304
  have c305 : Exa Z T304.heap b303 "java/lang/String" := (A303.keep K304)
  have c306 : Fld Z T304.heap b303 "java/lang/String" "value" "[B" .null := (D303_value.keep K304 nin0)
  have c307 : Fld Z T304.heap b303 "java/lang/String" "coder" "B" (.int (0 : Int32)) := (D303_coder.keep K304 nin0)
  have ge308 : n0 ≤ b303 := Nat.le_trans Z0 (Nat.le_trans (Nat.le_refl _) (Nat.le_of_eq g303.symm))
  obtain ⟨_, _, ⟨T309, L309, k309, n309⟩, -, X309, ⟨Lc309, hQ309, l309, y309, z309⟩, st309⟩ := X304.specialBack hx (y := (⟨"java/lang/String", "<init>", "([BB)V"⟩ : MethodName)) rfl hown (mvT hZ (hw _ (List.mem_of_getElem? (i := 88) rfl))) (mvT hZ (hw _ (List.mem_of_getElem? (i := 89) rfl))) (mvT hZ (hw _ (List.mem_of_getElem? (i := 90) rfl))) (by decide) (backOf (W := 1) (rm_strBB l Z a0 hw [] b303 tt_304 T304.heap n0 (Nat.le_trans Z0 (Nat.le_trans E303.1 K304.1)) c305 c306 c307 ge308) hZ (hw _ (List.mem_of_getElem? (i := 90) rfl)) (hw _ (List.mem_of_getElem? (i := 10) rfl)) (by decide) (by decide)) (g := (mkF m 22 #[.val (.int xc)] [(.int (0 : Int32)), (.ref tt_304), (.ref b303), (.ref b303)])) rfl (by rw [hml]; rfl) (Steps.refl _) (a := b303) (argsL := [(.ref tt_304), (.int (0 : Int32))]) (rest := [(.ref b303)]) (lenOf pd_3 rfl) rfl (by show 2 * 0 + _ ≤ _; exact Nat.le_of_eq rfl) (hb hby d_jdk_42_method_139_code_22) (fun _ _ => ⟨rfl, rfl, (by decide : 2 + 0 ≤ _), (by decide : 5 + 0 ≤ _)⟩)
  dsimp only [Pt.U, Pt.locs, Pt.cells, Pt.slots] at X309 l309 y309 z309 st309 hQ309
  subst l309 y309 z309
  obtain ⟨rfl, Nq309, K309, f309_0, f309_1⟩ := hQ309
  have N309 := Fr.app N304 Nq309
  have c310 : Exa Z T309.heap b303 "java/lang/String" := (c305.keep K309)
  have ne311 : b303 ≠ tt_304 := Nat.ne_of_lt (Nat.lt_of_lt_of_le A303.lt f304_0)
  have c312 : Arv Z T309.heap tt_304 kt_304 .byte (1 : Int32) [(.int (nar .byte (xc.toInt8.toInt32)))] (.int (0 : Int32)) := (f304_1.keep K309 (ninS (Ne.symm ne311) nin0))
  obtain ⟨fs, hr, hrun, hended, hW, hsame⟩ := X309.leave (v := some (.ref b303)) (fun h => by rw [Bd.returns] at h; cases h)
  refine ⟨_, _, pre0 _ ?_, hrun, hended, _, _, rfl, ?_, ⟨_, rfl⟩, hW, hsame.mono (by decide) (by decide)⟩
  · refine st301 _ ?_
    show Steps p.tables e below (T301.setTop (mkF m 3 #[.val (.int xc)] [(.int G)])) _
    refine XS.ifNo X301.here hx rfl (hb hby d_jdk_42_method_139_code_3) rfl ((if0 _ _).trans (feq (hCS : ¬ (G = (0 : Int32)))).1) ?_
    show Steps p.tables e below (T301.setTop (mkF m 6 #[.val (.int xc)] [])) _
    refine XS.iloadN X301.here hx rfl (hb hby d_jdk_42_method_139_code_6) rfl ?_
    show Steps p.tables e below (T301.setTop (mkF m 7 #[.val (.int xc)] [(.int xc)])) _
    refine st302 _ ?_
    show Steps p.tables e below (T302.setTop (mkF m 10 #[.val (.int xc)] [(.int (1 : Int32))])) _
    refine XS.ifNo X302.here hx rfl (hb hby d_jdk_42_method_139_code_10) rfl ((if0 _ _).trans (feq ((by decide) : ¬ ((1 : Int32) = (0 : Int32)))).1) ?_
    show Steps p.tables e below (T302.setTop (mkF m 13 #[.val (.int xc)] [])) _
    refine st303 _ ?_
    show Steps p.tables e below (T303.setTop (mkF m 16 #[.val (.int xc)] [(.ref b303)])) _
    refine XS.dup X303.here hx rfl (hb hby d_jdk_42_method_139_code_16) rfl rfl ?_
    show Steps p.tables e below (T303.setTop (mkF m 17 #[.val (.int xc)] [(.ref b303), (.ref b303)])) _
    refine XS.iloadN X303.here hx rfl (hb hby d_jdk_42_method_139_code_17) rfl ?_
    show Steps p.tables e below (T303.setTop (mkF m 18 #[.val (.int xc)] [(.int xc), (.ref b303), (.ref b303)])) _
    refine st304 _ ?_
    show Steps p.tables e below (T304.setTop (mkF m 21 #[.val (.int xc)] [(.ref tt_304), (.ref b303), (.ref b303)])) _
    refine XS.iconst X304.here hx rfl (hb hby d_jdk_42_method_139_code_21) ?_
    show Steps p.tables e below (T304.setTop (mkF m 22 #[.val (.int xc)] [(.int (0 : Int32)), (.ref tt_304), (.ref b303), (.ref b303)])) _
    refine st309.trans ?_
    show Steps p.tables e below (T309.setTop (mkF m 25 #[.val (.int xc)] [(.ref b303)])) _
    jvm_step X309.here [X309.here.top, hx, (hb hby d_jdk_42_method_139_code_25), X309.method', Bd.returns, Value.isRef, FieldType.isReference]
    first | (intro acts; rw [hr _ acts rfl rfl rfl]) | rw [hr _ _ rfl rfl rfl]
    exact Steps.refl _
  · show Q_valC Z xc G h0 n0 _ T309.heap _
    exact ⟨b303, tt_304, kt_304, rfl, N309, ((((Keep.refl h0 ([] : List Addr)).ext E303).trans K304 all0).trans K309 (allS (Or.inr (Nat.le_trans (Nat.le_refl _) (Nat.le_of_eq g303.symm))) all0)), (Nat.le_trans (Nat.le_refl _) (Nat.le_of_eq g303.symm)), (Nat.le_trans E303.1 f304_0), c310, f309_0, f309_1, c312⟩
theorem own_nb (x : Int32) : nar .byte (x.toInt8.toInt32) = x.toInt8.toInt32 := by
  show (x.toInt8.toInt32).toInt8.toInt32 = x.toInt8.toInt32
  rw [Int8.toInt8_toInt32]
theorem own_cod1 (x : Int32) (h : ¬ (255 : Int32) < x) : StrChars.Road.CodA [x] 0 (1 : Int32) [(.int (nar .byte (x.toInt8.toInt32)))] := Or.inl ⟨rfl, rfl, by rw [own_nb]; rfl, fun c hc => by
  simp only [List.mem_cons, List.not_mem_nil, or_false] at hc; subst hc; exact h⟩
theorem d_method_2_code_0 : decode method_2_code 0 = .ok (.iload_n 0, 1) := by decide +kernel
theorem d_method_2_code_1 : decode method_2_code 1 = .ok (.ifCond .ne 14, 3) := by decide +kernel
theorem d_method_2_code_4 : decode method_2_code 4 = .ok (.new 7, 3) := by decide +kernel
theorem d_method_2_code_7 : decode method_2_code 7 = .ok (.dup, 1) := by decide +kernel
theorem d_method_2_code_8 : decode method_2_code 8 = .ok (.iconst 0, 1) := by decide +kernel
theorem d_method_2_code_9 : decode method_2_code 9 = .ok (.newarray .char, 2) := by decide +kernel
theorem d_method_2_code_11 : decode method_2_code 11 = .ok (.invokespecial 9, 3) := by decide +kernel
theorem pd_4 : parseMethodDescriptor "([C)V" = some ⟨[(.array .char)], none⟩ := by decide +kernel
theorem d_method_2_code_14 : decode method_2_code 14 = .ok (.areturn, 1) := by decide +kernel
theorem d_method_2_code_15 : decode method_2_code 15 = .ok (.iload_n 0, 1) := by decide +kernel
theorem d_method_2_code_16 : decode method_2_code 16 = .ok (.iconst 1, 1) := by decide +kernel
theorem d_method_2_code_17 : decode method_2_code 17 = .ok (.if_icmp .ne 8, 3) := by decide +kernel
theorem d_method_2_code_20 : decode method_2_code 20 = .ok (.iload_n 1, 1) := by decide +kernel
theorem d_method_2_code_21 : decode method_2_code 21 = .ok (.invokestatic 12, 3) := by decide +kernel
theorem pd_5 : parseMethodDescriptor "(C)Ljava/lang/String;" = some ⟨[.char], some (.object "java/lang/String")⟩ := by decide +kernel
theorem d_method_2_code_24 : decode method_2_code 24 = .ok (.areturn, 1) := by decide +kernel
theorem d_method_2_code_25 : decode method_2_code 25 = .ok (.new 7, 3) := by decide +kernel
theorem d_method_2_code_28 : decode method_2_code 28 = .ok (.dup, 1) := by decide +kernel
theorem d_method_2_code_29 : decode method_2_code 29 = .ok (.iconst 2, 1) := by decide +kernel
theorem d_method_2_code_30 : decode method_2_code 30 = .ok (.newarray .char, 2) := by decide +kernel
theorem d_method_2_code_32 : decode method_2_code 32 = .ok (.dup, 1) := by decide +kernel
theorem d_method_2_code_33 : decode method_2_code 33 = .ok (.iconst 0, 1) := by decide +kernel
theorem d_method_2_code_34 : decode method_2_code 34 = .ok (.iload_n 1, 1) := by decide +kernel
theorem d_method_2_code_35 : decode method_2_code 35 = .ok (.castore, 1) := by decide +kernel
theorem d_method_2_code_36 : decode method_2_code 36 = .ok (.dup, 1) := by decide +kernel
theorem d_method_2_code_37 : decode method_2_code 37 = .ok (.iconst 1, 1) := by decide +kernel
theorem d_method_2_code_38 : decode method_2_code 38 = .ok (.iload_n 2, 1) := by decide +kernel
theorem d_method_2_code_39 : decode method_2_code 39 = .ok (.castore, 1) := by decide +kernel
theorem d_method_2_code_40 : decode method_2_code 40 = .ok (.invokespecial 9, 3) := by decide +kernel
theorem d_method_2_code_43 : decode method_2_code 43 = .ok (.areturn, 1) := by decide +kernel
theorem ef_4 (m : MethodId) (x0 : Int32) (x1 : Int32) (x2 : Int32) : entryFrame m #[(.int x0), (.int x1), (.int x2)] 3 = mkF m 0 #[.val (.int x0), .val (.int x1), .val (.int x2)] [] := by first | (simp [entryFrame, mkF, argsToLocals, Value.category]; done) | rfl
theorem pn_2 : plainName "com/example/confluens/confluens/RuleTokenIsPinLaw" = true := by first | (simp [plainName, overriddenIn]; done) | decide +kernel
def Q_make (Z : State) (nq : Int32) (c0 : Int32) (c1 : Int32) (G : Int32) (h0 : Heap) (n0 : Nat) (v : Option Value) (h : Heap) (L : List Loc) : Prop := ∃ (xr : Addr) (tt : Addr) (kt : ClassId) (nn : Int32) (vs : List Value), (v = some (.ref xr)) ∧ (Fr n0 L) ∧ (Keep h0 h ([] : List Addr)) ∧ (h0.size ≤ xr) ∧ (Exa Z h xr "java/lang/String") ∧ (Fld Z h xr "java/lang/String" "value" "[B" (.ref tt)) ∧ (Fld Z h xr "java/lang/String" "coder" "B" (.int (0 : Int32))) ∧ (Arv Z h tt kt .byte nn vs (.int 0)) ∧ (StrChars.Road.CodA (own_cs nq c0 c1) 0 nn vs)
set_option maxRecDepth 65536 in
set_option maxHeartbeats 40000000 in
theorem rm_make (l : Launch) (Z : State) (a0 : Array Value) (hw : ∀ d ∈ tables_1, d.before a0 Z = true) (ws : List Jvm.Cond) (nq : Int32) (c0 : Int32) (c1 : Int32) (G : Int32) (h0 : Heap) (n0 : Nat) (Z0 : n0 ≤ h0.size) (q0 : Sta Z Z.heap "java/lang/String" "COMPACT_STRINGS" "Z" (.int G)) (hCS : ¬ (G = (0 : Int32))) (q2 : Old Z n0 h0) (hq : nq = (0 : Int32) ∨ nq = (1 : Int32) ∨ nq = (2 : Int32)) (hn0 : nar .char c0 = c0) (hn1 : nar .char c1 = c1) (hl0 : ¬ c0 < 0 ∧ ¬ (255 : Int32) < c0) (hl1 : ¬ c1 < 0 ∧ ¬ (255 : Int32) < c1) :
    MetFree l (⟨"com/example/confluens/confluens/RuleTokenIsPinLaw", "mk", "(ICC)Ljava/lang/String;"⟩ : MethodName) (head1 (Jvm.Cond.code (⟨"com/example/confluens/confluens/RuleTokenIsPinLaw", "mk", "(ICC)Ljava/lang/String;"⟩ : MethodName) method_2_code 3 (some (.object "java/lang/String")) :: ws) ({ frames := 4, cells := 6, slots := 12, locals := 66 } : Room)) (fun a₁ U₁ => a₁ = #[(.int nq), (.int c0), (.int c1)] ∧ Z.Warmed39 U₁.vm ∧ U₁.heap = h0 ∧ CHv Z [("java/lang/String", 7)] U₁.vm h0) (fun _ _ _ _ _ => True) (fun _ U₁ o₁ U₂ => ∃ v₁ L₁, o₁ = .returned v₁ ∧ Q_make Z nq c0 c1 G h0 n0 v₁ U₂.heap L₁ ∧ CHr Z [("java/lang/String", 7)] U₁.vm U₁.heap U₂.vm U₂.heap ∧ ReturnedEndW U₁ o₁ U₂ L₁ ({ frames := 4, cells := 6, slots := 12, locals := 66 } : Room).cells ({ frames := 4, cells := 6, slots := 12, locals := 66 } : Room).slots) := by
  refine MetFree.of_bodySF (plainFor_of_name pn_2) hisR ?_
  intro p e s m args below meth c s₁ Bd hml0 hP hK
  obtain ⟨rfl, hZ, hh, CH0⟩ := hP
  have hx := Bd.exec
  have hby := Bd.bytes
  have hml : c.maxLocals = 3 := hml0
  have hown : s.vm.findClass "com/example/confluens/confluens/RuleTokenIsPinLaw" = some m.cls := findClass_of_methodNamed Bd.named
  have hnm := (name_of_methodNamed Bd.named Bd.method).1
  have X0 : Stand p l e ({ frames := 4, cells := 6, slots := 12, locals := 66 } : Room) (s.setVm s.vm) m #[(.int nq), (.int c0), (.int c1)] below meth c s₁ [] 0 0 := Stand.of_body Bd
  have e0 : s₁.heap = h0 := by rw [← hh, Bd.state]; rfl
  have N0 := Fr.nil n0
  have hZ0 : Z.Warmed39 (s.setVm s.vm).vm := hZ
  have hown0 : (s.setVm s.vm).vm.findClass "com/example/confluens/confluens/RuleTokenIsPinLaw" = some m.cls := hown
  have hS0 : s.Since s.vm h0.size := (State.WarmedH.refl s).since _
  have hk0 : h0.size ≤ h0.size := Nat.le_refl _
  have CR0 : CHr Z [("java/lang/String", 7)] s.vm h0 s.vm h0 := CHr.refl CH0
  have pre0 : ∀ t, Steps p.tables e below (s₁.setTop (mkF m 0 #[.val (.int nq), .val (.int c0), .val (.int c1)] [])) t → Steps p.tables e below (s₁.setTop (entryFrame m #[(.int nq), (.int c0), (.int c1)] 3)) t := fun t k => castTop (ef_4 m nq c0 c1) k
  rcases hq with hq | hq | hq
  · subst hq
    obtain ⟨T301, h301, X301, e301, E301, A301, D301, -, st301⟩ := newO X0 hx hZ0 hown0 (hw _ (List.mem_of_getElem? (i := 8) rfl)) (hw _ (List.mem_of_getElem? (i := 9) rfl)) (hw _ (List.mem_of_getElem? (i := 10) rfl)) e0 (g := (mkF m 4 #[.val (.int (0 : Int32)), .val (.int c0), .val (.int c1)] [])) rfl (hb hby d_method_2_code_4) (by decide) (by decide)
    obtain ⟨b301, g301⟩ : ∃ z, z = h0.size := ⟨_, rfl⟩
    rw [← g301] at A301 D301 st301
    have sf302 : Safe Z [("java/lang/String", 7)] s.vm h0 b301 := Safe.new (Nat.le_of_eq g301.symm)
    have CR303 : CHr Z [("java/lang/String", 7)] s.vm h0 s.vm h301 := CR0.trans (CHr.ext E301 CR0.1)
    have sf304 : Safe Z [("java/lang/String", 7)] s.vm h301 b301 := Safe.ext E301 CR0.1 sf302
    have D301_value : Fld Z h301 b301 "java/lang/String" "value" "[B" .null := D301 (Or.inr (hw _ (List.mem_of_getElem? (i := 24) rfl))) (ty := (.array .byte)) (by decide)
    have D301_coder : Fld Z h301 b301 "java/lang/String" "coder" "B" (.int (0 : Int32)) := D301 (Or.inr (hw _ (List.mem_of_getElem? (i := 25) rfl))) (ty := .byte) (by decide)
    obtain ⟨T305, h305, ky305, X305, e305, E305, A305, st305⟩ := newP X301 hx hZ0 (hw _ (List.mem_of_getElem? (i := 11) rfl)) e301 (g := (mkF m 9 #[.val (.int (0 : Int32)), .val (.int c0), .val (.int c1)] [(.int (0 : Int32)), (.ref b301), (.ref b301)])) rfl (hb hby d_method_2_code_9) rfl ((by decide) : ¬ ((0 : Int32) < (0 : Int32))) (cap := 0) ((by decide) : (0 : Int32).toNatClampNeg ≤ 0) (by decide) (by decide) (by decide)
    obtain ⟨b305, g305⟩ : ∃ z, z = h301.size := ⟨_, rfl⟩
    rw [← g305] at A305 st305
    have sf306 : Safe Z [("java/lang/String", 7)] s.vm h301 b305 := Safe.new (Nat.le_of_eq g305.symm)
    have CR307 : CHr Z [("java/lang/String", 7)] s.vm h0 s.vm h305 := CR303.trans (CHr.ext E305 CR303.1)
    have sf308 : Safe Z [("java/lang/String", 7)] s.vm h305 b301 := Safe.ext E305 CR303.1 sf304
    have sf309 : Safe Z [("java/lang/String", 7)] s.vm h305 b305 := Safe.ext E305 CR303.1 sf306
    have V305 : Arv Z h305 b305 ky305 .char (0 : Int32) [] (.int (0 : Int32)) := Arv.new A305 (by decide)
    have c310 : Exa Z h305 b301 "java/lang/String" := (A301.ext E305)
    have c311 : Fld Z h305 b301 "java/lang/String" "value" "[B" .null := (D301_value.ext E305)
    have c312 : Fld Z h305 b301 "java/lang/String" "coder" "B" (.int (0 : Int32)) := (D301_coder.ext E305)
    have ge313 : n0 ≤ b301 := Nat.le_trans Z0 (Nat.le_trans (Nat.le_refl _) (Nat.le_of_eq g301.symm))
    obtain ⟨_, _, ⟨T314, L314, k314, n314⟩, -, X314', hS314', hz314', ⟨Lc314, hQ314, l314, y314, z314, ch314⟩, st314⟩ := X305.specialBackS hx (y := (⟨"java/lang/String", "<init>", "([C)V"⟩ : MethodName)) rfl hown0 (mvT hZ0 (hw _ (List.mem_of_getElem? (i := 12) rfl))) (mvT hZ0 (hw _ (List.mem_of_getElem? (i := 13) rfl))) (mvT hZ0 (hw _ (List.mem_of_getElem? (i := 14) rfl))) (by decide) (backOfSH (W := 1) (rm_newE1 l Z a0 hw [] b301 b305 ky305 h305 n0 (Nat.le_trans Z0 (Nat.le_trans E301.1 E305.1)) c310 c311 c312 ge313 V305) hZ0 (hw _ (List.mem_of_getElem? (i := 14) rfl)) (hw _ (List.mem_of_getElem? (i := 10) rfl)) (by decide) (by decide) (own_EW hw) CR307.1) (g := (mkF m 11 #[.val (.int (0 : Int32)), .val (.int c0), .val (.int c1)] [(.ref b305), (.ref b301), (.ref b301)])) rfl (by rw [hml]; rfl) (Steps.refl _) (a := b301) (argsL := [(.ref b305)]) (rest := [(.ref b301)]) (lenOf pd_4 rfl) rfl (by show 2 * 0 + _ ≤ _; exact Nat.le_of_eq rfl) (hb hby d_method_2_code_11) (fun _ _ => ⟨rfl, e305, (by decide : 2 + 4 ≤ _), (by decide : 4 + 8 ≤ _)⟩)
    dsimp only [Pt.U, Pt.locs, Pt.cells, Pt.slots] at X314' l314 y314 z314 st314 hQ314 hS314' hz314' ch314
    subst l314 y314 z314
    obtain ⟨tt_314, kt_314, rfl, Nq314, K314, f314_0, f314_1, f314_2⟩ := hQ314
    have N314 := Fr.app N0 Nq314
    obtain ⟨X314, hS314, hZ314, hown314⟩ := rebS hS0 (by rw [e305]; exact (Nat.le_trans hk0 (Nat.le_trans E301.1 E305.1))) X314' hS314' hz314' hZ0 hown0
    have CR315 : CHr Z [("java/lang/String", 7)] s.vm h0 T314.vm T314.heap := CR307.trans ch314
    have sf316 : Safe Z [("java/lang/String", 7)] T314.vm T314.heap b301 := ch314.safe c310.lt sf308
    have sf317 : Safe Z [("java/lang/String", 7)] T314.vm T314.heap b305 := ch314.safe V305.lt sf309
    have c318 : Exa Z T314.heap b301 "java/lang/String" := (c310.keep K314)
    obtain ⟨fs, hr, hrun, hended, hEnd⟩ := X314.leaveW hS314 (Nat.le_refl _) (v := some (.ref b301)) (fun h => by rw [Bd.returns] at h; cases h)
    refine ⟨_, _, pre0 _ ?_, hrun, hended, _, _, rfl, ?_, (by rw [hh]; show CHr Z [("java/lang/String", 7)] s.vm h0 T314.vm T314.heap; exact CR315.trans (CHv.at X314 hZ314 (own_EW hw) CR315.1)), hEnd.1, hEnd.2.1, hEnd.2.2.1, hEnd.2.2.2.mono (by decide) (by decide)⟩
    · refine XS.iloadN X0.here hx rfl (hb hby d_method_2_code_0) rfl ?_
      show Steps p.tables e below (s₁.setTop (mkF m 1 #[.val (.int (0 : Int32)), .val (.int c0), .val (.int c1)] [(.int (0 : Int32))])) _
      refine XS.ifNo X0.here hx rfl (hb hby d_method_2_code_1) rfl ((if0 _ _).trans (teq ((by decide) : (0 : Int32) = (0 : Int32))).2) ?_
      show Steps p.tables e below (s₁.setTop (mkF m 4 #[.val (.int (0 : Int32)), .val (.int c0), .val (.int c1)] [])) _
      refine st301 _ ?_
      show Steps p.tables e below (T301.setTop (mkF m 7 #[.val (.int (0 : Int32)), .val (.int c0), .val (.int c1)] [(.ref b301)])) _
      refine XS.dup X301.here hx rfl (hb hby d_method_2_code_7) rfl rfl ?_
      show Steps p.tables e below (T301.setTop (mkF m 8 #[.val (.int (0 : Int32)), .val (.int c0), .val (.int c1)] [(.ref b301), (.ref b301)])) _
      refine XS.iconst X301.here hx rfl (hb hby d_method_2_code_8) ?_
      show Steps p.tables e below (T301.setTop (mkF m 9 #[.val (.int (0 : Int32)), .val (.int c0), .val (.int c1)] [(.int (0 : Int32)), (.ref b301), (.ref b301)])) _
      refine st305 _ ?_
      show Steps p.tables e below (T305.setTop (mkF m 11 #[.val (.int (0 : Int32)), .val (.int c0), .val (.int c1)] [(.ref b305), (.ref b301), (.ref b301)])) _
      refine st314.trans ?_
      show Steps p.tables e below (T314.setTop (mkF m 14 #[.val (.int (0 : Int32)), .val (.int c0), .val (.int c1)] [(.ref b301)])) _
      jvm_step X314.here [X314.here.top, hx, (hb hby d_method_2_code_14), X314.method', Bd.returns, Value.isRef, FieldType.isReference]
      first | (intro acts; rw [hr _ acts rfl rfl rfl]) | rw [hr _ _ rfl rfl rfl]
      exact Steps.refl _
    · show Q_make Z (0 : Int32) c0 c1 G h0 n0 _ T314.heap _
      exact ⟨b301, tt_314, kt_314, (0 : Int32), [], rfl, N314, ((((Keep.refl h0 ([] : List Addr)).ext E301).ext E305).trans K314 (allS (Or.inr (Nat.le_trans (Nat.le_refl _) (Nat.le_of_eq g301.symm))) all0)), (Nat.le_trans (Nat.le_refl _) (Nat.le_of_eq g301.symm)), c318, f314_0, f314_1, f314_2, (by rw [own_cs0]; exact Or.inl ⟨rfl, rfl, rfl, by simp⟩)⟩
  · subst hq
    obtain ⟨_, _, ⟨T319, L319, k319, n319⟩, -, X319, ⟨Lc319, hQ319, l319, y319, z319⟩, st319⟩ := Jvm.LawKit.callS X0 hx (y := (⟨"java/lang/String", "valueOf", "(C)Ljava/lang/String;"⟩ : MethodName)) hown0 (mvT hZ0 (hw _ (List.mem_of_getElem? (i := 79) rfl))) (mvT hZ0 (hw _ (List.mem_of_getElem? (i := 80) rfl))) (mvT hZ0 (hw _ (List.mem_of_getElem? (i := 10) rfl))) (mvT hZ0 (hw _ (List.mem_of_getElem? (i := 81) rfl))) (by decide) (backOf (W := 0) (rm_valC l Z a0 hw [] c0 G h0 n0 Z0 q0 hCS q2 (hl0.2)) hZ0 (hw _ (List.mem_of_getElem? (i := 81) rfl)) (hw _ (List.mem_of_getElem? (i := 10) rfl)) (by decide) (by decide)) (g := (mkF m 21 #[.val (.int (1 : Int32)), .val (.int c0), .val (.int c1)] [(.int c0)])) rfl (by rw [hml]; rfl) (argsL := [(.int c0)]) (rest := []) (lenOf pd_5 rfl) rfl (by show 2 * 0 + _ ≤ _; exact Nat.le_of_eq rfl) (hb hby d_method_2_code_21) (fun _ _ => ⟨rfl, e0, (by decide : 0 + 2 ≤ _), (by decide : 0 + 5 ≤ _)⟩)
    dsimp only [Pt.U, Pt.locs, Pt.cells, Pt.slots] at X319 l319 y319 z319 st319 hQ319
    subst l319 y319 z319
    obtain ⟨xr_319, tt_319, kt_319, rfl, Nq319, K319, f319_0, f319_1, f319_2, f319_3, f319_4, f319_5⟩ := hQ319
    have N319 := Fr.app N0 Nq319
    have sf320 : Safe Z [("java/lang/String", 7)] s.vm h0 xr_319 := Safe.new f319_0
    have sf321 : Safe Z [("java/lang/String", 7)] s.vm h0 tt_319 := Safe.new f319_1
    have CR322 : CHr Z [("java/lang/String", 7)] s.vm h0 s.vm T319.heap := CR0.trans (CHr.keep K319 sf0 CR0.1)
    have sf323 : Safe Z [("java/lang/String", 7)] s.vm T319.heap xr_319 := Safe.keep K319 sf0 CR0.1 sf320
    have sf324 : Safe Z [("java/lang/String", 7)] s.vm T319.heap tt_319 := Safe.keep K319 sf0 CR0.1 sf321
    obtain ⟨fs, hr, hrun, hended, hEnd⟩ := X319.leaveW hS0 (Nat.le_trans hk0 K319.1) (v := some (.ref xr_319)) (fun h => by rw [Bd.returns] at h; cases h)
    refine ⟨_, _, pre0 _ ?_, hrun, hended, _, _, rfl, ?_, (by rw [hh]; show CHr Z [("java/lang/String", 7)] s.vm h0 T319.vm T319.heap; exact CR322.trans (CHv.at X319 hZ0 (own_EW hw) CR322.1)), hEnd.1, hEnd.2.1, hEnd.2.2.1, hEnd.2.2.2.mono (by decide) (by decide)⟩
    · refine XS.iloadN X0.here hx rfl (hb hby d_method_2_code_0) rfl ?_
      show Steps p.tables e below (s₁.setTop (mkF m 1 #[.val (.int (1 : Int32)), .val (.int c0), .val (.int c1)] [(.int (1 : Int32))])) _
      refine XS.ifYes X0.here hx rfl (pc0 := 1) (pc' := 15) rfl (hb hby d_method_2_code_1) rfl ((if0 _ _).trans (feq ((by decide) : ¬ ((1 : Int32) = (0 : Int32)))).2) (by decide) (by decide) ?_
      show Steps p.tables e below (s₁.setTop (mkF m 15 #[.val (.int (1 : Int32)), .val (.int c0), .val (.int c1)] [])) _
      refine XS.iloadN X0.here hx rfl (hb hby d_method_2_code_15) rfl ?_
      show Steps p.tables e below (s₁.setTop (mkF m 16 #[.val (.int (1 : Int32)), .val (.int c0), .val (.int c1)] [(.int (1 : Int32))])) _
      refine XS.iconst X0.here hx rfl (hb hby d_method_2_code_16) ?_
      show Steps p.tables e below (s₁.setTop (mkF m 17 #[.val (.int (1 : Int32)), .val (.int c0), .val (.int c1)] [(.int (1 : Int32)), (.int (1 : Int32))])) _
      refine XS.icmpNo X0.here hx rfl (hb hby d_method_2_code_17) rfl (teq ((by decide) : (1 : Int32) = (1 : Int32))).2 ?_
      show Steps p.tables e below (s₁.setTop (mkF m 20 #[.val (.int (1 : Int32)), .val (.int c0), .val (.int c1)] [])) _
      refine XS.iloadN X0.here hx rfl (hb hby d_method_2_code_20) rfl ?_
      show Steps p.tables e below (s₁.setTop (mkF m 21 #[.val (.int (1 : Int32)), .val (.int c0), .val (.int c1)] [(.int c0)])) _
      refine st319 _ ?_
      show Steps p.tables e below (T319.setTop (mkF m 24 #[.val (.int (1 : Int32)), .val (.int c0), .val (.int c1)] [(.ref xr_319)])) _
      jvm_step X319.here [X319.here.top, hx, (hb hby d_method_2_code_24), X319.method', Bd.returns, Value.isRef, FieldType.isReference]
      first | (intro acts; rw [hr _ acts rfl rfl rfl]) | rw [hr _ _ rfl rfl rfl]
      exact Steps.refl _
    · show Q_make Z (1 : Int32) c0 c1 G h0 n0 _ T319.heap _
      exact ⟨xr_319, tt_319, kt_319, (1 : Int32), [(.int (nar .byte (c0.toInt8.toInt32)))], rfl, N319, ((Keep.refl h0 ([] : List Addr)).trans K319 all0), (Nat.le_trans (Nat.le_refl _) f319_0), f319_2, f319_3, f319_4, f319_5, (by rw [own_cs1]; exact own_cod1 _ hl0.2)⟩
  · subst hq
    obtain ⟨T325, h325, X325, e325, E325, A325, D325, -, st325⟩ := newO X0 hx hZ0 hown0 (hw _ (List.mem_of_getElem? (i := 8) rfl)) (hw _ (List.mem_of_getElem? (i := 9) rfl)) (hw _ (List.mem_of_getElem? (i := 10) rfl)) e0 (g := (mkF m 25 #[.val (.int (2 : Int32)), .val (.int c0), .val (.int c1)] [])) rfl (hb hby d_method_2_code_25) (by decide) (by decide)
    obtain ⟨b325, g325⟩ : ∃ z, z = h0.size := ⟨_, rfl⟩
    rw [← g325] at A325 D325 st325
    have sf326 : Safe Z [("java/lang/String", 7)] s.vm h0 b325 := Safe.new (Nat.le_of_eq g325.symm)
    have CR327 : CHr Z [("java/lang/String", 7)] s.vm h0 s.vm h325 := CR0.trans (CHr.ext E325 CR0.1)
    have sf328 : Safe Z [("java/lang/String", 7)] s.vm h325 b325 := Safe.ext E325 CR0.1 sf326
    have D325_value : Fld Z h325 b325 "java/lang/String" "value" "[B" .null := D325 (Or.inr (hw _ (List.mem_of_getElem? (i := 24) rfl))) (ty := (.array .byte)) (by decide)
    have D325_coder : Fld Z h325 b325 "java/lang/String" "coder" "B" (.int (0 : Int32)) := D325 (Or.inr (hw _ (List.mem_of_getElem? (i := 25) rfl))) (ty := .byte) (by decide)
    obtain ⟨T329, h329, ky329, X329, e329, E329, A329, st329⟩ := newP X325 hx hZ0 (hw _ (List.mem_of_getElem? (i := 11) rfl)) e325 (g := (mkF m 30 #[.val (.int (2 : Int32)), .val (.int c0), .val (.int c1)] [(.int (2 : Int32)), (.ref b325), (.ref b325)])) rfl (hb hby d_method_2_code_30) rfl ((by decide) : ¬ ((2 : Int32) < (0 : Int32))) (cap := 2) ((by decide) : (2 : Int32).toNatClampNeg ≤ 2) (by decide) (by decide) (by decide)
    obtain ⟨b329, g329⟩ : ∃ z, z = h325.size := ⟨_, rfl⟩
    rw [← g329] at A329 st329
    have sf330 : Safe Z [("java/lang/String", 7)] s.vm h325 b329 := Safe.new (Nat.le_of_eq g329.symm)
    have CR331 : CHr Z [("java/lang/String", 7)] s.vm h0 s.vm h329 := CR327.trans (CHr.ext E329 CR327.1)
    have sf332 : Safe Z [("java/lang/String", 7)] s.vm h329 b325 := Safe.ext E329 CR327.1 sf328
    have sf333 : Safe Z [("java/lang/String", 7)] s.vm h329 b329 := Safe.ext E329 CR327.1 sf330
    have V329 : Arv Z h329 b329 ky329 .char (2 : Int32) [] (.int (0 : Int32)) := Arv.new A329 (by decide)
    have U329 : Arv Z h329 b329 ky329 .char (2 : Int32) [(.int (0 : Int32)), (.int (0 : Int32))] (.int (0 : Int32)) := V329.pad (pad_rep [] (.int (0 : Int32)) 2)
    have ge335 : n0 ≤ b329 := Nat.le_trans Z0 (Nat.le_trans E325.1 (Nat.le_of_eq g329.symm))
    obtain ⟨cl334, Ar334, qq334, S334, M334, Hh334, U334⟩ := id U329
    obtain ⟨T334, h334, X334, e334, W334, st334⟩ := stC X329 hx hZ0 e329 Ar334 (j := (0 : Int32)) (inb_of S334 ⟨(by decide : ¬ ((0 : Int32) < (0 : Int32))), (by decide : (0 : Int32) < (2 : Int32))⟩) (g := (mkF m 35 #[.val (.int (2 : Int32)), .val (.int c0), .val (.int c1)] [(.int c0), (.int (0 : Int32)), (.ref b329), (.ref b329), (.ref b325), (.ref b325)])) rfl rfl (hb hby d_method_2_code_35)
    have N334 := Fr.snoc X334 N0 ge335
    have CR336 : CHr Z [("java/lang/String", 7)] s.vm h0 s.vm h334 := CR331.trans (CHr.wr W334 sf333 CR331.1)
    have sf337 : Safe Z [("java/lang/String", 7)] s.vm h334 b325 := Safe.wr W334 sf333 CR331.1 sf332
    have sf338 : Safe Z [("java/lang/String", 7)] s.vm h334 b329 := Safe.wr W334 sf333 CR331.1 sf333
    have V334 : Arv Z h334 b329 ky329 .char (2 : Int32) [(.int (nar .char c0)), (.int (0 : Int32))] (.int (0 : Int32)) := Arv.set Ar334 qq334 S334 M334 Hh334 U334 (fits_nar_char _) W334 0 rfl (Nat.le_of_ble_eq_true rfl)
    have VR334 : Arv Z h334 b329 ky329 .char (2 : Int32) [(.int c0), (.int (0 : Int32))] (.int (0 : Int32)) := by have q := V334; rw [hn0] at q; exact q
    obtain ⟨cl339, Ar339, qq339, S339, M339, Hh339, U339⟩ := id VR334
    obtain ⟨T339, h339, X339, e339, W339, st339⟩ := stC X334 hx hZ0 e334 Ar339 (j := (1 : Int32)) (inb_of S339 ⟨(by decide : ¬ ((1 : Int32) < (0 : Int32))), (by decide : (1 : Int32) < (2 : Int32))⟩) (g := (mkF m 39 #[.val (.int (2 : Int32)), .val (.int c0), .val (.int c1)] [(.int c1), (.int (1 : Int32)), (.ref b329), (.ref b329), (.ref b325), (.ref b325)])) rfl rfl (hb hby d_method_2_code_39)
    have N339 := Fr.snoc X339 N334 ge335
    have CR340 : CHr Z [("java/lang/String", 7)] s.vm h0 s.vm h339 := CR336.trans (CHr.wr W339 sf338 CR336.1)
    have sf341 : Safe Z [("java/lang/String", 7)] s.vm h339 b325 := Safe.wr W339 sf338 CR336.1 sf337
    have sf342 : Safe Z [("java/lang/String", 7)] s.vm h339 b329 := Safe.wr W339 sf338 CR336.1 sf338
    have V339 : Arv Z h339 b329 ky329 .char (2 : Int32) [(.int c0), (.int (nar .char c1))] (.int (0 : Int32)) := Arv.set Ar339 qq339 S339 M339 Hh339 U339 (fits_nar_char _) W339 1 rfl (Nat.le_of_ble_eq_true rfl)
    have VR339 : Arv Z h339 b329 ky329 .char (2 : Int32) [(.int c0), (.int c1)] (.int (0 : Int32)) := by have q := V339; rw [hn1] at q; exact q
    have c344 : Old Z n0 h339 := ((((q2.ext E325).ext E329).wr W334 ge335).wr W339 ge335)
    have hp345 : ∀ c ∈ ([c0, c1] : List Int32), ¬ c < 0 ∧ ¬ (255 : Int32) < c := by
      intro c hc
      simp only [List.mem_cons, List.not_mem_nil, or_false] at hc
      rcases hc with rfl | rfl
      · exact hl0
      · exact hl1
    have c346 : Exa Z h339 b325 "java/lang/String" := (((A325.ext E329).wr W334).wr W339)
    have ne347 : b325 ≠ b329 := Nat.ne_of_lt (Nat.lt_of_lt_of_le D325_value.lt (Nat.le_of_eq g329.symm))
    have c348 : Fld Z h339 b325 "java/lang/String" "value" "[B" .null := (((D325_value.ext E329).other W334 (Or.inl ne347)).other W339 (Or.inl ne347))
    have c349 : Fld Z h339 b325 "java/lang/String" "coder" "B" (.int (0 : Int32)) := (((D325_coder.ext E329).other W334 (Or.inl ne347)).other W339 (Or.inl ne347))
    have ge350 : n0 ≤ b325 := Nat.le_trans Z0 (Nat.le_trans (Nat.le_refl _) (Nat.le_of_eq g325.symm))
    obtain ⟨_, _, ⟨T343, L343, k343, n343⟩, -, X343, ⟨Lc343, hQ343, l343, y343, z343⟩, st343⟩ := X339.specialBack hx (y := (⟨"java/lang/String", "<init>", "([C)V"⟩ : MethodName)) rfl hown0 (mvT hZ0 (hw _ (List.mem_of_getElem? (i := 12) rfl))) (mvT hZ0 (hw _ (List.mem_of_getElem? (i := 13) rfl))) (mvT hZ0 (hw _ (List.mem_of_getElem? (i := 14) rfl))) (by decide) (StrChars.Road.backV (W := 1) hZ0 (own_hw_backV hw) (kI := 4) (hw _ (List.mem_of_getElem? (i := 9) rfl)) (cs := ([c0, c1] : List Int32)) (bs := (([c0, c1] : List Int32)).map (fun c => c.toInt8.toInt32)) (n := 2) ge350 (Nat.le_trans Z0 (Nat.le_trans (Nat.le_trans (Nat.le_trans E325.1 E329.1) (Keep.of_wr W334).1) (Keep.of_wr W339).1)) c346 c348 c349 VR339 (q0.ext c344.2) hCS rfl rfl (by decide) (by decide) hp345 rfl (by decide) (by decide)) (g := (mkF m 40 #[.val (.int (2 : Int32)), .val (.int c0), .val (.int c1)] [(.ref b329), (.ref b325), (.ref b325)])) rfl (by rw [hml]; rfl) (Steps.refl _) (a := b325) (argsL := [(.ref b329)]) (rest := [(.ref b325)]) (lenOf pd_4 rfl) rfl (by show 2 * 0 + _ ≤ _; exact Nat.le_of_eq rfl) (hb hby d_method_2_code_40) (fun _ _ => ⟨rfl, e339, (by decide : 2 + 1 ≤ _), (by decide : 6 + 2 ≤ _)⟩)
    dsimp only [Pt.U, Pt.locs, Pt.cells, Pt.slots] at X343 l343 y343 z343 st343 hQ343
    subst l343 y343 z343
    obtain ⟨rfl, Nq343, K343, fE343, fC343, t343, kb343, gt343, sz343, nt343, fV343, fA343⟩ := hQ343
    have N343 := Fr.app N339 Nq343
    have sf351 : Safe Z [("java/lang/String", 7)] s.vm h339 t343 := Safe.new sz343
    have CR352 : CHr Z [("java/lang/String", 7)] s.vm h0 s.vm T343.heap := CR340.trans (CHr.keep K343 (sfS sf341 sf0) CR340.1)
    have sf353 : Safe Z [("java/lang/String", 7)] s.vm T343.heap b325 := Safe.keep K343 (sfS sf341 sf0) CR340.1 sf341
    have sf354 : Safe Z [("java/lang/String", 7)] s.vm T343.heap b329 := Safe.keep K343 (sfS sf341 sf0) CR340.1 sf342
    have sf355 : Safe Z [("java/lang/String", 7)] s.vm T343.heap t343 := Safe.keep K343 (sfS sf341 sf0) CR340.1 sf351
    have hcd343 : StrChars.Road.CodA ([c0, c1] : List Int32) 0 (2 : Int32) (((([c0, c1] : List Int32)).map (fun c => c.toInt8.toInt32)).map Value.int) := StrChars.Road.codOf (n := 2) rfl (fun c hc => (hp345 c hc).2)
    obtain ⟨fs, hr, hrun, hended, hEnd⟩ := X343.leaveW hS0 (Nat.le_trans hk0 (Nat.le_trans (Nat.le_trans (Nat.le_trans (Nat.le_trans E325.1 E329.1) (Keep.of_wr W334).1) (Keep.of_wr W339).1) K343.1)) (v := some (.ref b325)) (fun h => by rw [Bd.returns] at h; cases h)
    refine ⟨_, _, pre0 _ ?_, hrun, hended, _, _, rfl, ?_, (by rw [hh]; show CHr Z [("java/lang/String", 7)] s.vm h0 T343.vm T343.heap; exact CR352.trans (CHv.at X343 hZ0 (own_EW hw) CR352.1)), hEnd.1, hEnd.2.1, hEnd.2.2.1, hEnd.2.2.2.mono (by decide) (by decide)⟩
    · refine XS.iloadN X0.here hx rfl (hb hby d_method_2_code_0) rfl ?_
      show Steps p.tables e below (s₁.setTop (mkF m 1 #[.val (.int (2 : Int32)), .val (.int c0), .val (.int c1)] [(.int (2 : Int32))])) _
      refine XS.ifYes X0.here hx rfl (pc0 := 1) (pc' := 15) rfl (hb hby d_method_2_code_1) rfl ((if0 _ _).trans (feq ((by decide) : ¬ ((2 : Int32) = (0 : Int32)))).2) (by decide) (by decide) ?_
      show Steps p.tables e below (s₁.setTop (mkF m 15 #[.val (.int (2 : Int32)), .val (.int c0), .val (.int c1)] [])) _
      refine XS.iloadN X0.here hx rfl (hb hby d_method_2_code_15) rfl ?_
      show Steps p.tables e below (s₁.setTop (mkF m 16 #[.val (.int (2 : Int32)), .val (.int c0), .val (.int c1)] [(.int (2 : Int32))])) _
      refine XS.iconst X0.here hx rfl (hb hby d_method_2_code_16) ?_
      show Steps p.tables e below (s₁.setTop (mkF m 17 #[.val (.int (2 : Int32)), .val (.int c0), .val (.int c1)] [(.int (1 : Int32)), (.int (2 : Int32))])) _
      refine XS.icmpYes X0.here hx rfl (pc0 := 17) (pc' := 25) rfl (hb hby d_method_2_code_17) rfl (feq ((by decide) : ¬ ((2 : Int32) = (1 : Int32)))).2 (by decide) (by decide) ?_
      show Steps p.tables e below (s₁.setTop (mkF m 25 #[.val (.int (2 : Int32)), .val (.int c0), .val (.int c1)] [])) _
      refine st325 _ ?_
      show Steps p.tables e below (T325.setTop (mkF m 28 #[.val (.int (2 : Int32)), .val (.int c0), .val (.int c1)] [(.ref b325)])) _
      refine XS.dup X325.here hx rfl (hb hby d_method_2_code_28) rfl rfl ?_
      show Steps p.tables e below (T325.setTop (mkF m 29 #[.val (.int (2 : Int32)), .val (.int c0), .val (.int c1)] [(.ref b325), (.ref b325)])) _
      refine XS.iconst X325.here hx rfl (hb hby d_method_2_code_29) ?_
      show Steps p.tables e below (T325.setTop (mkF m 30 #[.val (.int (2 : Int32)), .val (.int c0), .val (.int c1)] [(.int (2 : Int32)), (.ref b325), (.ref b325)])) _
      refine st329 _ ?_
      show Steps p.tables e below (T329.setTop (mkF m 32 #[.val (.int (2 : Int32)), .val (.int c0), .val (.int c1)] [(.ref b329), (.ref b325), (.ref b325)])) _
      refine XS.dup X329.here hx rfl (hb hby d_method_2_code_32) rfl rfl ?_
      show Steps p.tables e below (T329.setTop (mkF m 33 #[.val (.int (2 : Int32)), .val (.int c0), .val (.int c1)] [(.ref b329), (.ref b329), (.ref b325), (.ref b325)])) _
      refine XS.iconst X329.here hx rfl (hb hby d_method_2_code_33) ?_
      show Steps p.tables e below (T329.setTop (mkF m 34 #[.val (.int (2 : Int32)), .val (.int c0), .val (.int c1)] [(.int (0 : Int32)), (.ref b329), (.ref b329), (.ref b325), (.ref b325)])) _
      refine XS.iloadN X329.here hx rfl (hb hby d_method_2_code_34) rfl ?_
      show Steps p.tables e below (T329.setTop (mkF m 35 #[.val (.int (2 : Int32)), .val (.int c0), .val (.int c1)] [(.int c0), (.int (0 : Int32)), (.ref b329), (.ref b329), (.ref b325), (.ref b325)])) _
      refine st334 _ ?_
      show Steps p.tables e below (T334.setTop (mkF m 36 #[.val (.int (2 : Int32)), .val (.int c0), .val (.int c1)] [(.ref b329), (.ref b325), (.ref b325)])) _
      refine XS.dup X334.here hx rfl (hb hby d_method_2_code_36) rfl rfl ?_
      show Steps p.tables e below (T334.setTop (mkF m 37 #[.val (.int (2 : Int32)), .val (.int c0), .val (.int c1)] [(.ref b329), (.ref b329), (.ref b325), (.ref b325)])) _
      refine XS.iconst X334.here hx rfl (hb hby d_method_2_code_37) ?_
      show Steps p.tables e below (T334.setTop (mkF m 38 #[.val (.int (2 : Int32)), .val (.int c0), .val (.int c1)] [(.int (1 : Int32)), (.ref b329), (.ref b329), (.ref b325), (.ref b325)])) _
      refine XS.iloadN X334.here hx rfl (hb hby d_method_2_code_38) rfl ?_
      show Steps p.tables e below (T334.setTop (mkF m 39 #[.val (.int (2 : Int32)), .val (.int c0), .val (.int c1)] [(.int c1), (.int (1 : Int32)), (.ref b329), (.ref b329), (.ref b325), (.ref b325)])) _
      refine st339 _ ?_
      show Steps p.tables e below (T339.setTop (mkF m 40 #[.val (.int (2 : Int32)), .val (.int c0), .val (.int c1)] [(.ref b329), (.ref b325), (.ref b325)])) _
      refine st343.trans ?_
      show Steps p.tables e below (T343.setTop (mkF m 43 #[.val (.int (2 : Int32)), .val (.int c0), .val (.int c1)] [(.ref b325)])) _
      jvm_step X343.here [X343.here.top, hx, (hb hby d_method_2_code_43), X343.method', Bd.returns, Value.isRef, FieldType.isReference]
      first | (intro acts; rw [hr _ acts rfl rfl rfl]) | rw [hr _ _ rfl rfl rfl]
      exact Steps.refl _
    · show Q_make Z (2 : Int32) c0 c1 G h0 n0 _ T343.heap _
      exact ⟨b325, t343, kb343, (2 : Int32), (((([c0, c1] : List Int32)).map (fun c => c.toInt8.toInt32)).map Value.int), rfl, N343, ((((((Keep.refl h0 ([] : List Addr)).ext E325).ext E329).wr W334 (Or.inr (Nat.le_trans E325.1 (Nat.le_of_eq g329.symm)))).wr W339 (Or.inr (Nat.le_trans E325.1 (Nat.le_of_eq g329.symm)))).trans K343 (allS (Or.inr (Nat.le_trans (Nat.le_refl _) (Nat.le_of_eq g325.symm))) all0)), (Nat.le_trans (Nat.le_refl _) (Nat.le_of_eq g325.symm)), fE343, fV343, fC343, fA343, (by rw [own_cs2]; exact hcd343)⟩
theorem d_prog_16_method_1_code_0 : decode prog_16_method_1_code 0 = .ok (.aload_n 0, 1) := by decide +kernel
theorem d_prog_16_method_1_code_1 : decode prog_16_method_1_code 1 = .ok (.invokespecial 1, 3) := by decide +kernel
theorem d_prog_16_method_1_code_4 : decode prog_16_method_1_code 4 = .ok (.aload_n 0, 1) := by decide +kernel
theorem d_prog_16_method_1_code_5 : decode prog_16_method_1_code 5 = .ok (.aload_n 1, 1) := by decide +kernel
theorem d_prog_16_method_1_code_6 : decode prog_16_method_1_code 6 = .ok (.putfield 7, 3) := by decide +kernel
theorem d_prog_16_method_1_code_9 : decode prog_16_method_1_code 9 = .ok (.aload_n 0, 1) := by decide +kernel
theorem d_prog_16_method_1_code_10 : decode prog_16_method_1_code 10 = .ok (.aload_n 2, 1) := by decide +kernel
theorem d_prog_16_method_1_code_11 : decode prog_16_method_1_code 11 = .ok (.putfield 13, 3) := by decide +kernel
theorem d_prog_16_method_1_code_14 : decode prog_16_method_1_code 14 = .ok (.aload_n 0, 1) := by decide +kernel
theorem d_prog_16_method_1_code_15 : decode prog_16_method_1_code 15 = .ok (.iload_n 3, 1) := by decide +kernel
theorem d_prog_16_method_1_code_16 : decode prog_16_method_1_code 16 = .ok (.putfield 17, 3) := by decide +kernel
theorem d_prog_16_method_1_code_19 : decode prog_16_method_1_code 19 = .ok (.return_, 1) := by decide +kernel
theorem ef_5 (m : MethodId) (x0 : Addr) (x1 : Addr) (x2 : Addr) (x3 : Int32) : entryFrame m #[(.ref x0), (.ref x1), (.ref x2), (.int x3)] 4 = mkF m 0 #[.val (.ref x0), .val (.ref x1), .val (.ref x2), .val (.int x3)] [] := by first | (simp [entryFrame, mkF, argsToLocals, Value.category]; done) | rfl
theorem pn_3 : plainName "com/example/confluens/confluens/RuleToken" = true := by first | (simp [plainName, overriddenIn]; done) | decide +kernel
def Q_tokI (Z : State) (xt : Addr) (kd : Addr) (tx : Addr) (pa : Int32) (h0 : Heap) (n0 : Nat) (v : Option Value) (h : Heap) (L : List Loc) : Prop := (v = none) ∧ (Fr n0 L) ∧ (Keep h0 h ([xt] : List Addr)) ∧ (Fld Z h xt "com/example/confluens/confluens/RuleToken" "kind" "Lcom/example/confluens/confluens/RuleToken$Kind;" (.ref kd)) ∧ (Fld Z h xt "com/example/confluens/confluens/RuleToken" "text" "Ljava/lang/String;" (.ref tx))
set_option maxRecDepth 65536 in
set_option maxHeartbeats 40000000 in
theorem rm_tokI (l : Launch) (Z : State) (a0 : Array Value) (hw : ∀ d ∈ tables_1, d.before a0 Z = true) (ws : List Jvm.Cond) (xt : Addr) (kd : Addr) (tx : Addr) (pa : Int32) (h0 : Heap) (n0 : Nat) (Z0 : n0 ≤ h0.size) (q0 : Exa Z h0 xt "com/example/confluens/confluens/RuleToken") (q1 : Fld Z h0 xt "com/example/confluens/confluens/RuleToken" "kind" "Lcom/example/confluens/confluens/RuleToken$Kind;" .null) (q2 : Fld Z h0 xt "com/example/confluens/confluens/RuleToken" "text" "Ljava/lang/String;" .null) (q3 : Fld Z h0 xt "com/example/confluens/confluens/RuleToken" "line" "I" (.int (0 : Int32))) (q4 : n0 ≤ xt) :
    MetFree l (⟨"com/example/confluens/confluens/RuleToken", "<init>", "(Lcom/example/confluens/confluens/RuleToken$Kind;Ljava/lang/String;I)V"⟩ : MethodName) (head1 (Jvm.Cond.code (⟨"com/example/confluens/confluens/RuleToken", "<init>", "(Lcom/example/confluens/confluens/RuleToken$Kind;Ljava/lang/String;I)V"⟩ : MethodName) prog_16_method_1_code 4 none :: ws) ({ frames := 1, cells := 0, slots := 0, locals := 12 } : Room)) (fun a₁ U₁ => a₁ = #[(.ref xt), (.ref kd), (.ref tx), (.int pa)] ∧ Z.Warmed39 U₁.vm ∧ U₁.heap = h0) (fun _ _ _ _ _ => True) (fun _ U₁ o₁ U₂ => ∃ v₁ L₁, o₁ = .returned v₁ ∧ Q_tokI Z xt kd tx pa h0 n0 v₁ U₂.heap L₁ ∧ FrameEnd U₁ o₁ U₂ L₁ ({ frames := 1, cells := 0, slots := 0, locals := 12 } : Room).cells ({ frames := 1, cells := 0, slots := 0, locals := 12 } : Room).slots) := by
  refine MetFree.of_bodySF (plainFor_of_name pn_3) hisR ?_
  intro p e s m args below meth c s₁ Bd hml0 hP hK
  obtain ⟨rfl, hZ, hh⟩ := hP
  have hx := Bd.exec
  have hby := Bd.bytes
  have hml : c.maxLocals = 4 := hml0
  have hown : s.vm.findClass "com/example/confluens/confluens/RuleToken" = some m.cls := findClass_of_methodNamed Bd.named
  have hnm := (name_of_methodNamed Bd.named Bd.method).1
  have X0 : Stand p l e ({ frames := 1, cells := 0, slots := 0, locals := 12 } : Room) s m #[(.ref xt), (.ref kd), (.ref tx), (.int pa)] below meth c s₁ [] 0 0 := Stand.of_body Bd
  have e0 : s₁.heap = h0 := by rw [← hh, Bd.state]; rfl
  have N0 := Fr.nil n0
  have pre0 : ∀ t, Steps p.tables e below (s₁.setTop (mkF m 0 #[.val (.ref xt), .val (.ref kd), .val (.ref tx), .val (.int pa)] [])) t → Steps p.tables e below (s₁.setTop (entryFrame m #[(.ref xt), (.ref kd), (.ref tx), (.int pa)] 4)) t := fun t k => castTop (ef_5 m xt kd tx pa) k
  obtain ⟨T301, X301, e301, st301⟩ := initO X0 hx hZ hown (hw _ (List.mem_of_getElem? (i := 36) rfl)) (hw _ (List.mem_of_getElem? (i := 20) rfl)) (hw _ (List.mem_of_getElem? (i := 21) rfl)) e0 (g := (mkF m 1 #[.val (.ref xt), .val (.ref kd), .val (.ref tx), .val (.int pa)] [(.ref xt)])) rfl (by rw [hml]; rfl) rfl (hb hby d_prog_16_method_1_code_1) (by decide) (W := 0) (by show 2 * 0 + _ ≤ _; exact Nat.le_of_eq rfl) (by decide)
  obtain ⟨T302, h302, X302, e302, W302, st302⟩ := putF X301 hx hZ hown (host := "") (Or.inl (hw _ (List.mem_of_getElem? (i := 37) rfl))) Via.refl e301 q1 q0 (Or.inr ⟨(hw _ (List.mem_of_getElem? (i := 38) rfl)), rfl, hnm⟩) (hw _ (List.mem_of_getElem? (i := 31) rfl)) (ty := (.object "com/example/confluens/confluens/RuleToken$Kind")) (by decide) rfl rfl (g := (mkF m 6 #[.val (.ref xt), .val (.ref kd), .val (.ref tx), .val (.int pa)] [(.ref kd), (.ref xt)])) rfl rfl (hb hby d_prog_16_method_1_code_6)
  have N302 := Fr.snoc X302 N0 q4
  have F302 : Fld Z h302 xt "com/example/confluens/confluens/RuleToken" "kind" "Lcom/example/confluens/confluens/RuleToken$Kind;" (.ref kd) := q1.same W302
  have c303 : Fld Z h302 xt "com/example/confluens/confluens/RuleToken" "text" "Ljava/lang/String;" .null := (q2.other W302 (Or.inr (slot_ne (Or.inr (hw _ (List.mem_of_getElem? (i := 40) rfl))) (Or.inr (hw _ (List.mem_of_getElem? (i := 38) rfl))) (by decide) (t := (.object "java/lang/String")) (t' := (.object "com/example/confluens/confluens/RuleToken$Kind")) (by decide) (by decide))))
  have c304 : Exa Z h302 xt "com/example/confluens/confluens/RuleToken" := (q0.wr W302)
  obtain ⟨T305, h305, X305, e305, W305, st305⟩ := putF X302 hx hZ hown (host := "") (Or.inl (hw _ (List.mem_of_getElem? (i := 39) rfl))) Via.refl e302 c303 c304 (Or.inr ⟨(hw _ (List.mem_of_getElem? (i := 40) rfl)), rfl, hnm⟩) (hw _ (List.mem_of_getElem? (i := 31) rfl)) (ty := (.object "java/lang/String")) (by decide) rfl rfl (g := (mkF m 11 #[.val (.ref xt), .val (.ref kd), .val (.ref tx), .val (.int pa)] [(.ref tx), (.ref xt)])) rfl rfl (hb hby d_prog_16_method_1_code_11)
  have N305 := Fr.snoc X305 N302 q4
  have F305 : Fld Z h305 xt "com/example/confluens/confluens/RuleToken" "text" "Ljava/lang/String;" (.ref tx) := c303.same W305
  have c306 : Fld Z h305 xt "com/example/confluens/confluens/RuleToken" "line" "I" (.int (0 : Int32)) := ((q3.other W302 (Or.inr (slot_ne (Or.inr (hw _ (List.mem_of_getElem? (i := 42) rfl))) (Or.inr (hw _ (List.mem_of_getElem? (i := 38) rfl))) (by decide) (t := .int) (t' := (.object "com/example/confluens/confluens/RuleToken$Kind")) (by decide) (by decide)))).other W305 (Or.inr (slot_ne (Or.inr (hw _ (List.mem_of_getElem? (i := 42) rfl))) (Or.inr (hw _ (List.mem_of_getElem? (i := 40) rfl))) (by decide) (t := .int) (t' := (.object "java/lang/String")) (by decide) (by decide))))
  have c307 : Exa Z h305 xt "com/example/confluens/confluens/RuleToken" := (c304.wr W305)
  obtain ⟨T308, h308, X308, e308, W308, st308⟩ := putF X305 hx hZ hown (host := "") (Or.inl (hw _ (List.mem_of_getElem? (i := 41) rfl))) Via.refl e305 c306 c307 (Or.inr ⟨(hw _ (List.mem_of_getElem? (i := 42) rfl)), rfl, hnm⟩) (hw _ (List.mem_of_getElem? (i := 31) rfl)) (ty := .int) (by decide) rfl rfl (g := (mkF m 16 #[.val (.ref xt), .val (.ref kd), .val (.ref tx), .val (.int pa)] [(.int pa), (.ref xt)])) rfl rfl (hb hby d_prog_16_method_1_code_16)
  have N308 := Fr.snoc X308 N305 q4
  have F308 : Fld Z h308 xt "com/example/confluens/confluens/RuleToken" "line" "I" (.int pa) := c306.same W308
  have c309 : Fld Z h308 xt "com/example/confluens/confluens/RuleToken" "kind" "Lcom/example/confluens/confluens/RuleToken$Kind;" (.ref kd) := ((F302.other W305 (Or.inr (slot_ne (Or.inr (hw _ (List.mem_of_getElem? (i := 38) rfl))) (Or.inr (hw _ (List.mem_of_getElem? (i := 40) rfl))) (by decide) (t := (.object "com/example/confluens/confluens/RuleToken$Kind")) (t' := (.object "java/lang/String")) (by decide) (by decide)))).other W308 (Or.inr (slot_ne (Or.inr (hw _ (List.mem_of_getElem? (i := 38) rfl))) (Or.inr (hw _ (List.mem_of_getElem? (i := 42) rfl))) (by decide) (t := (.object "com/example/confluens/confluens/RuleToken$Kind")) (t' := .int) (by decide) (by decide))))
  have c310 : Fld Z h308 xt "com/example/confluens/confluens/RuleToken" "text" "Ljava/lang/String;" (.ref tx) := (F305.other W308 (Or.inr (slot_ne (Or.inr (hw _ (List.mem_of_getElem? (i := 40) rfl))) (Or.inr (hw _ (List.mem_of_getElem? (i := 42) rfl))) (by decide) (t := (.object "java/lang/String")) (t' := .int) (by decide) (by decide))))
  obtain ⟨fs, hr, hrun, hended, hW, hsame⟩ := X308.leave (v := none) (fun _ => rfl)
  refine ⟨_, _, pre0 _ ?_, hrun, hended, _, _, rfl, ?_, ⟨_, rfl⟩, hW, hsame.mono (by decide) (by decide)⟩
  · refine XS.aloadN X0.here hx rfl (hb hby d_prog_16_method_1_code_0) rfl rfl ?_
    show Steps p.tables e below (s₁.setTop (mkF m 1 #[.val (.ref xt), .val (.ref kd), .val (.ref tx), .val (.int pa)] [(.ref xt)])) _
    refine st301 _ ?_
    show Steps p.tables e below (T301.setTop (mkF m 4 #[.val (.ref xt), .val (.ref kd), .val (.ref tx), .val (.int pa)] [])) _
    refine XS.aloadN X301.here hx rfl (hb hby d_prog_16_method_1_code_4) rfl rfl ?_
    show Steps p.tables e below (T301.setTop (mkF m 5 #[.val (.ref xt), .val (.ref kd), .val (.ref tx), .val (.int pa)] [(.ref xt)])) _
    refine XS.aloadN X301.here hx rfl (hb hby d_prog_16_method_1_code_5) rfl rfl ?_
    show Steps p.tables e below (T301.setTop (mkF m 6 #[.val (.ref xt), .val (.ref kd), .val (.ref tx), .val (.int pa)] [(.ref kd), (.ref xt)])) _
    refine st302 _ ?_
    show Steps p.tables e below (T302.setTop (mkF m 9 #[.val (.ref xt), .val (.ref kd), .val (.ref tx), .val (.int pa)] [])) _
    refine XS.aloadN X302.here hx rfl (hb hby d_prog_16_method_1_code_9) rfl rfl ?_
    show Steps p.tables e below (T302.setTop (mkF m 10 #[.val (.ref xt), .val (.ref kd), .val (.ref tx), .val (.int pa)] [(.ref xt)])) _
    refine XS.aloadN X302.here hx rfl (hb hby d_prog_16_method_1_code_10) rfl rfl ?_
    show Steps p.tables e below (T302.setTop (mkF m 11 #[.val (.ref xt), .val (.ref kd), .val (.ref tx), .val (.int pa)] [(.ref tx), (.ref xt)])) _
    refine st305 _ ?_
    show Steps p.tables e below (T305.setTop (mkF m 14 #[.val (.ref xt), .val (.ref kd), .val (.ref tx), .val (.int pa)] [])) _
    refine XS.aloadN X305.here hx rfl (hb hby d_prog_16_method_1_code_14) rfl rfl ?_
    show Steps p.tables e below (T305.setTop (mkF m 15 #[.val (.ref xt), .val (.ref kd), .val (.ref tx), .val (.int pa)] [(.ref xt)])) _
    refine XS.iloadN X305.here hx rfl (hb hby d_prog_16_method_1_code_15) rfl ?_
    show Steps p.tables e below (T305.setTop (mkF m 16 #[.val (.ref xt), .val (.ref kd), .val (.ref tx), .val (.int pa)] [(.int pa), (.ref xt)])) _
    refine st308 _ ?_
    show Steps p.tables e below (T308.setTop (mkF m 19 #[.val (.ref xt), .val (.ref kd), .val (.ref tx), .val (.int pa)] [])) _
    exact X308.returnOut hx Bd.returns (hb hby d_prog_16_method_1_code_19) hr
  · show Q_tokI Z xt kd tx pa h0 n0 _ T308.heap _
    rw [e308]
    exact ⟨rfl, N308, ((((Keep.refl h0 ([xt] : List Addr)).wr W302 (Or.inl (by simp))).wr W305 (Or.inl (by simp))).wr W308 (Or.inl (by simp))), c309, c310⟩
theorem d_prog_16_method_5_code_0 : decode prog_16_method_5_code 0 = .ok (.aload_n 0, 1) := by decide +kernel
theorem d_prog_16_method_5_code_1 : decode prog_16_method_5_code 1 = .ok (.getfield 7, 3) := by decide +kernel
theorem d_prog_16_method_5_code_4 : decode prog_16_method_5_code 4 = .ok (.getstatic 21, 3) := by decide +kernel
theorem d_prog_16_method_5_code_7 : decode prog_16_method_5_code 7 = .ok (.if_acmp .eq 13, 3) := by decide +kernel
theorem d_prog_16_method_5_code_20 : decode prog_16_method_5_code 20 = .ok (.aload_n 0, 1) := by decide +kernel
theorem d_prog_16_method_5_code_21 : decode prog_16_method_5_code 21 = .ok (.getfield 13, 3) := by decide +kernel
theorem d_prog_16_method_5_code_24 : decode prog_16_method_5_code 24 = .ok (.aload_n 1, 1) := by decide +kernel
theorem d_prog_16_method_5_code_25 : decode prog_16_method_5_code 25 = .ok (.invokevirtual 29, 3) := by decide +kernel
theorem pd_6 : parseMethodDescriptor "(Ljava/lang/Object;)Z" = some ⟨[(.object "java/lang/Object")], some .boolean⟩ := by decide +kernel
theorem d_prog_16_method_5_code_28 : decode prog_16_method_5_code 28 = .ok (.ifCond .eq 7, 3) := by decide +kernel
theorem d_prog_16_method_5_code_31 : decode prog_16_method_5_code 31 = .ok (.iconst 1, 1) := by decide +kernel
theorem d_prog_16_method_5_code_32 : decode prog_16_method_5_code 32 = .ok (.goto 4, 3) := by decide +kernel
theorem d_prog_16_method_5_code_36 : decode prog_16_method_5_code 36 = .ok (.ireturn, 1) := by decide +kernel
theorem d_prog_16_method_5_code_35 : decode prog_16_method_5_code 35 = .ok (.iconst 0, 1) := by decide +kernel
theorem d_prog_16_method_5_code_10 : decode prog_16_method_5_code 10 = .ok (.aload_n 0, 1) := by decide +kernel
theorem d_prog_16_method_5_code_11 : decode prog_16_method_5_code 11 = .ok (.getfield 7, 3) := by decide +kernel
theorem d_prog_16_method_5_code_14 : decode prog_16_method_5_code 14 = .ok (.getstatic 26, 3) := by decide +kernel
theorem d_prog_16_method_5_code_17 : decode prog_16_method_5_code 17 = .ok (.if_acmp .ne 18, 3) := by decide +kernel
def Q_isT (Z : State) (xt : Addr) (sy : Addr) (kd : Addr) (k0 : Addr) (k3 : Addr) (tx : Addr) (G : Int32) (t1 : Addr) (kb1 : ClassId) (m1 : Int32) (vs1 : List Value) (cs : List Int32) (t2 : Addr) (kb2 : ClassId) (m2 : Int32) (vs2 : List Value) (ds : List Int32) (h0 : Heap) (n0 : Nat) (v : Option Value) (h : Heap) (L : List Loc) : Prop := ∃ (rv : Int32), (v = some (.int rv)) ∧ (Fr n0 L) ∧ (h = h0) ∧ ((rv = (1 : Int32) ∧ (kd = k0 ∨ kd = k3) ∧ cs = ds) ∨ (rv = (0 : Int32) ∧ ¬ ((kd = k0 ∨ kd = k3) ∧ cs = ds)))
set_option maxRecDepth 65536 in
set_option maxHeartbeats 40000000 in
theorem rm_isT (l : Launch) (Z : State) (a0 : Array Value) (hw : ∀ d ∈ tables_1, d.before a0 Z = true) (ws : List Jvm.Cond) (xt : Addr) (sy : Addr) (kd : Addr) (k0 : Addr) (k3 : Addr) (tx : Addr) (G : Int32) (t1 : Addr) (kb1 : ClassId) (m1 : Int32) (vs1 : List Value) (cs : List Int32) (t2 : Addr) (kb2 : ClassId) (m2 : Int32) (vs2 : List Value) (ds : List Int32) (h0 : Heap) (n0 : Nat) (Z0 : n0 ≤ h0.size) (q0 : Sta Z Z.heap "java/lang/String" "COMPACT_STRINGS" "Z" (.int G)) (hCS : ¬ (G = (0 : Int32))) (q2 : Old Z n0 h0) (q3 : Sta Z Z.heap "com/example/confluens/confluens/RuleToken$Kind" "WORD" "Lcom/example/confluens/confluens/RuleToken$Kind;" (.ref k0)) (q4 : Sta Z Z.heap "com/example/confluens/confluens/RuleToken$Kind" "SYMBOL" "Lcom/example/confluens/confluens/RuleToken$Kind;" (.ref k3)) (q5 : Fld Z h0 xt "com/example/confluens/confluens/RuleToken" "kind" "Lcom/example/confluens/confluens/RuleToken$Kind;" (.ref kd)) (q6 : Fld Z h0 xt "com/example/confluens/confluens/RuleToken" "text" "Ljava/lang/String;" (.ref tx)) (q7 : Exa Z h0 tx "java/lang/String") (q8 : Fld Z h0 tx "java/lang/String" "value" "[B" (.ref t1)) (q9 : Fld Z h0 tx "java/lang/String" "coder" "B" (.int (0 : Int32))) (q10 : Arv Z h0 t1 kb1 .byte m1 vs1 (.int 0)) (hcd1 : StrChars.Road.CodA cs 0 m1 vs1) (hbd1 : ∀ c ∈ cs, ¬ c < 0 ∧ ¬ (65535 : Int32) < c) (hle1 : cs.length ≤ 4000) (q14 : Exa Z h0 sy "java/lang/String") (q15 : Fld Z h0 sy "java/lang/String" "value" "[B" (.ref t2)) (q16 : Fld Z h0 sy "java/lang/String" "coder" "B" (.int (0 : Int32))) (q17 : Arv Z h0 t2 kb2 .byte m2 vs2 (.int 0)) (hcd2 : StrChars.Road.CodA ds 0 m2 vs2) (hbd2 : ∀ c ∈ ds, ¬ c < 0 ∧ ¬ (65535 : Int32) < c) (hle2 : ds.length ≤ 4000) :
    MetFree l (⟨"com/example/confluens/confluens/RuleToken", "is", "(Ljava/lang/String;)Z"⟩ : MethodName) (head1 (Jvm.Cond.code (⟨"com/example/confluens/confluens/RuleToken", "is", "(Ljava/lang/String;)Z"⟩ : MethodName) prog_16_method_5_code 2 (some .boolean) :: ws) ({ frames := 2, cells := 0, slots := 0, locals := 28 } : Room)) (fun a₁ U₁ => a₁ = #[(.ref xt), (.ref sy)] ∧ Z.Warmed39 U₁.vm ∧ U₁.heap = h0) (fun _ _ _ _ _ => True) (fun _ U₁ o₁ U₂ => ∃ v₁ L₁, o₁ = .returned v₁ ∧ Q_isT Z xt sy kd k0 k3 tx G t1 kb1 m1 vs1 cs t2 kb2 m2 vs2 ds h0 n0 v₁ U₂.heap L₁ ∧ FrameEnd U₁ o₁ U₂ L₁ ({ frames := 2, cells := 0, slots := 0, locals := 28 } : Room).cells ({ frames := 2, cells := 0, slots := 0, locals := 28 } : Room).slots) := by
  refine MetFree.of_bodySF (plainFor_of_name pn_3) hisR ?_
  intro p e s m args below meth c s₁ Bd hml0 hP hK
  obtain ⟨rfl, hZ, hh⟩ := hP
  have hx := Bd.exec
  have hby := Bd.bytes
  have hml : c.maxLocals = 2 := hml0
  have hown : s.vm.findClass "com/example/confluens/confluens/RuleToken" = some m.cls := findClass_of_methodNamed Bd.named
  have hnm := (name_of_methodNamed Bd.named Bd.method).1
  have X0 : Stand p l e ({ frames := 2, cells := 0, slots := 0, locals := 28 } : Room) s m #[(.ref xt), (.ref sy)] below meth c s₁ [] 0 0 := Stand.of_body Bd
  have e0 : s₁.heap = h0 := by rw [← hh, Bd.state]; rfl
  have N0 := Fr.nil n0
  have pre0 : ∀ t, Steps p.tables e below (s₁.setTop (mkF m 0 #[.val (.ref xt), .val (.ref sy)] [])) t → Steps p.tables e below (s₁.setTop (entryFrame m #[(.ref xt), (.ref sy)] 2)) t := fun t k => castTop (ef_1 m xt sy) k
  obtain ⟨T301, X301, e301, st301⟩ := getF X0 hx hZ hown (host := "") (Or.inl (hw _ (List.mem_of_getElem? (i := 37) rfl))) Via.refl e0 q5 (g := (mkF m 1 #[.val (.ref xt), .val (.ref sy)] [(.ref xt)])) rfl rfl (hb hby d_prog_16_method_5_code_1)
  obtain ⟨T302, X302, e302, st302⟩ := getS2 X301 hx hZ hown (host := "") (Or.inl (hw _ (List.mem_of_getElem? (i := 48) rfl))) Via.refl e301 (q3.ext q2.2) (g := (mkF m 4 #[.val (.ref xt), .val (.ref sy)] [(.ref kd)])) rfl (hb hby d_prog_16_method_5_code_4)
  have pre303 : ∀ t, Steps p.tables e below (T302.setTop (mkF m 7 #[.val (.ref xt), .val (.ref sy)] [(.ref k0), (.ref kd)])) t → Steps p.tables e below (s₁.setTop (entryFrame m #[(.ref xt), (.ref sy)] 2)) t := fun t kk => pre0 t (by
    refine XS.aloadN X0.here hx rfl (hb hby d_prog_16_method_5_code_0) rfl rfl ?_
    show Steps p.tables e below (s₁.setTop (mkF m 1 #[.val (.ref xt), .val (.ref sy)] [(.ref xt)])) _
    refine st301 _ ?_
    show Steps p.tables e below (T301.setTop (mkF m 4 #[.val (.ref xt), .val (.ref sy)] [(.ref kd)])) _
    refine st302 _ ?_
    show Steps p.tables e below (T302.setTop (mkF m 7 #[.val (.ref xt), .val (.ref sy)] [(.ref k0), (.ref kd)])) _
    exact kk)
  by_cases hk0 : kd = k0
  · obtain ⟨T304, X304, e304, st304⟩ := getF X302 hx hZ hown (host := "") (Or.inl (hw _ (List.mem_of_getElem? (i := 39) rfl))) Via.refl e302 q6 (g := (mkF m 21 #[.val (.ref xt), .val (.ref sy)] [(.ref xt)])) rfl rfl (hb hby d_prog_16_method_5_code_21)
    obtain ⟨cq305, kq305, q305a, q305b, q305c⟩ := isOf hZ e304 q7
    obtain ⟨_, _, ⟨T305, L305, k305, n305⟩, -, X305, ⟨Lc305, hQ305, l305, y305, z305⟩, st305⟩ := X304.virtualBack hx (y := (⟨"java/lang/String", "equals", "(Ljava/lang/Object;)Z"⟩ : MethodName)) (z := (⟨"java/lang/String", "equals", "(Ljava/lang/Object;)Z"⟩ : MethodName)) hown (mvT hZ (hw _ (List.mem_of_getElem? (i := 49) rfl))) (mvT hZ (hw _ (List.mem_of_getElem? (i := 50) rfl))) (notFace_of_selects (args := #[]) (mvT hZ (hw _ (List.mem_of_getElem? (i := 52) rfl)))) (mvT hZ (hw _ (List.mem_of_getElem? (i := 52) rfl))) (mvT hZ (hw _ (List.mem_of_getElem? (i := 51) rfl))) (by decide) (StrChars.Road.eqW (W := 0) hZ (own_hw_eqW hw) (kI := 4) (hw _ (List.mem_of_getElem? (i := 9) rfl)) q7 q8 q9 q10 hcd1 hbd1 hle1 q14 q15 q16 q17 hcd2 hbd2 hle2 (q0.ext q2.2) hCS (by decide) (by decide)) q305a q305c (g := (mkF m 25 #[.val (.ref xt), .val (.ref sy)] [(.ref sy), (.ref tx)])) rfl (by rw [hml]; rfl) (Steps.refl _) (argsL := [(.ref sy)]) (rest := []) (lenOf pd_6 rfl) rfl (by show 2 * 0 + _ ≤ _; exact Nat.le_of_eq rfl) (hb hby d_prog_16_method_5_code_25) (fun _ _ => ⟨rfl, e304, (by decide : 0 + 0 ≤ _), (by decide : 0 + 0 ≤ _)⟩)
    dsimp only [Pt.U, Pt.locs, Pt.cells, Pt.slots] at X305 l305 y305 z305 st305 hQ305
    subst l305 y305 z305
    obtain ⟨hc305, rfl, e305⟩ := hQ305
    obtain ⟨r305, rfl, hr305⟩ : ∃ z : Int32, _ = some (Value.int z) ∧ ((z = 1 ∧ cs = ds) ∨ (z = 0 ∧ ¬ cs = ds)) := hc305.elim (fun q => ⟨1, q.1, Or.inl ⟨rfl, q.2⟩⟩) (fun q => ⟨0, q.1, Or.inr ⟨rfl, q.2⟩⟩)
    have N305 := Fr.app N0 (Fr.nil n0)
    have pre306 : ∀ t, Steps p.tables e below (T305.setTop (mkF m 28 #[.val (.ref xt), .val (.ref sy)] [(.int r305)])) t → Steps p.tables e below (s₁.setTop (entryFrame m #[(.ref xt), (.ref sy)] 2)) t := fun t kk => pre303 t (by
      refine Jvm.RoadKit.acmp (g := (mkF m 7 #[.val (.ref xt), .val (.ref sy)] [(.ref k0), (.ref kd)])) X302 hx rfl rfl rfl (pc0 := 7) (pc' := 20) (same := true) rfl (hb hby d_prog_16_method_5_code_7) rfl (decide_eq_true (congrArg Value.ref hk0)) (by decide) (by decide) ?_
      show Steps p.tables e below (T302.setTop (mkF m 20 #[.val (.ref xt), .val (.ref sy)] [])) _
      refine XS.aloadN X302.here hx rfl (hb hby d_prog_16_method_5_code_20) rfl rfl ?_
      show Steps p.tables e below (T302.setTop (mkF m 21 #[.val (.ref xt), .val (.ref sy)] [(.ref xt)])) _
      refine st304 _ ?_
      show Steps p.tables e below (T304.setTop (mkF m 24 #[.val (.ref xt), .val (.ref sy)] [(.ref tx)])) _
      refine XS.aloadN X304.here hx rfl (hb hby d_prog_16_method_5_code_24) rfl rfl ?_
      show Steps p.tables e below (T304.setTop (mkF m 25 #[.val (.ref xt), .val (.ref sy)] [(.ref sy), (.ref tx)])) _
      refine st305.trans ?_
      show Steps p.tables e below (T305.setTop (mkF m 28 #[.val (.ref xt), .val (.ref sy)] [(.int r305)])) _
      exact kk)
    rcases hr305 with ⟨hr1, hr2⟩ | ⟨hr1, hr2⟩
    · subst hr1
      obtain ⟨fs, hr, hrun, hended, hW, hsame⟩ := X305.leave (v := some (.int (1 : Int32))) (fun h => by rw [Bd.returns] at h; cases h)
      refine ⟨_, _, pre306 _ ?_, hrun, hended, _, _, rfl, ?_, ⟨_, rfl⟩, hW, hsame.mono (by decide) (by decide)⟩
      · refine XS.ifNo X305.here hx rfl (hb hby d_prog_16_method_5_code_28) rfl ((if0 _ _).trans (feq ((by decide) : ¬ ((1 : Int32) = (0 : Int32)))).1) ?_
        show Steps p.tables e below (T305.setTop (mkF m 31 #[.val (.ref xt), .val (.ref sy)] [])) _
        refine XS.iconst X305.here hx rfl (hb hby d_prog_16_method_5_code_31) ?_
        show Steps p.tables e below (T305.setTop (mkF m 32 #[.val (.ref xt), .val (.ref sy)] [(.int (1 : Int32))])) _
        refine XS.goto X305.here hx rfl (pc0 := 32) (pc' := 36) rfl (hb hby d_prog_16_method_5_code_32) (by decide) (by decide) ?_
        show Steps p.tables e below (T305.setTop (mkF m 36 #[.val (.ref xt), .val (.ref sy)] [(.int (1 : Int32))])) _
        exact retN X305 hx (t := .boolean) Bd.returns (by simp) (hb hby d_prog_16_method_5_code_36) hr
      · show Q_isT Z xt sy kd k0 k3 tx G t1 kb1 m1 vs1 cs t2 kb2 m2 vs2 ds h0 n0 _ T305.heap _
        rw [e305]
        exact ⟨(1 : Int32), rfl, N305, rfl, Or.inl ⟨rfl, Or.inl hk0, hr2⟩⟩
    · subst hr1
      obtain ⟨fs, hr, hrun, hended, hW, hsame⟩ := X305.leave (v := some (.int (0 : Int32))) (fun h => by rw [Bd.returns] at h; cases h)
      refine ⟨_, _, pre306 _ ?_, hrun, hended, _, _, rfl, ?_, ⟨_, rfl⟩, hW, hsame.mono (by decide) (by decide)⟩
      · refine XS.ifYes X305.here hx rfl (pc0 := 28) (pc' := 35) rfl (hb hby d_prog_16_method_5_code_28) rfl ((if0 _ _).trans (teq ((by decide) : (0 : Int32) = (0 : Int32))).1) (by decide) (by decide) ?_
        show Steps p.tables e below (T305.setTop (mkF m 35 #[.val (.ref xt), .val (.ref sy)] [])) _
        refine XS.iconst X305.here hx rfl (hb hby d_prog_16_method_5_code_35) ?_
        show Steps p.tables e below (T305.setTop (mkF m 36 #[.val (.ref xt), .val (.ref sy)] [(.int (0 : Int32))])) _
        exact retN X305 hx (t := .boolean) Bd.returns (by simp) (hb hby d_prog_16_method_5_code_36) hr
      · show Q_isT Z xt sy kd k0 k3 tx G t1 kb1 m1 vs1 cs t2 kb2 m2 vs2 ds h0 n0 _ T305.heap _
        rw [e305]
        exact ⟨(0 : Int32), rfl, N305, rfl, Or.inr ⟨rfl, fun q => hr2 q.2⟩⟩
  · obtain ⟨T307, X307, e307, st307⟩ := getF X302 hx hZ hown (host := "") (Or.inl (hw _ (List.mem_of_getElem? (i := 37) rfl))) Via.refl e302 q5 (g := (mkF m 11 #[.val (.ref xt), .val (.ref sy)] [(.ref xt)])) rfl rfl (hb hby d_prog_16_method_5_code_11)
    obtain ⟨T308, X308, e308, st308⟩ := getS2 X307 hx hZ hown (host := "") (Or.inl (hw _ (List.mem_of_getElem? (i := 62) rfl))) Via.refl e307 (q4.ext q2.2) (g := (mkF m 14 #[.val (.ref xt), .val (.ref sy)] [(.ref kd)])) rfl (hb hby d_prog_16_method_5_code_14)
    have pre309 : ∀ t, Steps p.tables e below (T308.setTop (mkF m 17 #[.val (.ref xt), .val (.ref sy)] [(.ref k3), (.ref kd)])) t → Steps p.tables e below (s₁.setTop (entryFrame m #[(.ref xt), (.ref sy)] 2)) t := fun t kk => pre303 t (by
      refine Jvm.RoadKit.acmp (g := (mkF m 7 #[.val (.ref xt), .val (.ref sy)] [(.ref k0), (.ref kd)])) X302 hx rfl rfl rfl (pc0 := 7) (pc' := 10) (same := false) rfl (hb hby d_prog_16_method_5_code_7) rfl (decide_eq_false fun q => hk0 (Value.ref.inj q)) (by decide) (by decide) ?_
      show Steps p.tables e below (T302.setTop (mkF m 10 #[.val (.ref xt), .val (.ref sy)] [])) _
      refine XS.aloadN X302.here hx rfl (hb hby d_prog_16_method_5_code_10) rfl rfl ?_
      show Steps p.tables e below (T302.setTop (mkF m 11 #[.val (.ref xt), .val (.ref sy)] [(.ref xt)])) _
      refine st307 _ ?_
      show Steps p.tables e below (T307.setTop (mkF m 14 #[.val (.ref xt), .val (.ref sy)] [(.ref kd)])) _
      refine st308 _ ?_
      show Steps p.tables e below (T308.setTop (mkF m 17 #[.val (.ref xt), .val (.ref sy)] [(.ref k3), (.ref kd)])) _
      exact kk)
    by_cases hk3 : kd = k3
    · obtain ⟨T310, X310, e310, st310⟩ := getF X308 hx hZ hown (host := "") (Or.inl (hw _ (List.mem_of_getElem? (i := 39) rfl))) Via.refl e308 q6 (g := (mkF m 21 #[.val (.ref xt), .val (.ref sy)] [(.ref xt)])) rfl rfl (hb hby d_prog_16_method_5_code_21)
      obtain ⟨cq311, kq311, q311a, q311b, q311c⟩ := isOf hZ e310 q7
      obtain ⟨_, _, ⟨T311, L311, k311, n311⟩, -, X311, ⟨Lc311, hQ311, l311, y311, z311⟩, st311⟩ := X310.virtualBack hx (y := (⟨"java/lang/String", "equals", "(Ljava/lang/Object;)Z"⟩ : MethodName)) (z := (⟨"java/lang/String", "equals", "(Ljava/lang/Object;)Z"⟩ : MethodName)) hown (mvT hZ (hw _ (List.mem_of_getElem? (i := 49) rfl))) (mvT hZ (hw _ (List.mem_of_getElem? (i := 50) rfl))) (notFace_of_selects (args := #[]) (mvT hZ (hw _ (List.mem_of_getElem? (i := 52) rfl)))) (mvT hZ (hw _ (List.mem_of_getElem? (i := 52) rfl))) (mvT hZ (hw _ (List.mem_of_getElem? (i := 51) rfl))) (by decide) (StrChars.Road.eqW (W := 0) hZ (own_hw_eqW hw) (kI := 4) (hw _ (List.mem_of_getElem? (i := 9) rfl)) q7 q8 q9 q10 hcd1 hbd1 hle1 q14 q15 q16 q17 hcd2 hbd2 hle2 (q0.ext q2.2) hCS (by decide) (by decide)) q311a q311c (g := (mkF m 25 #[.val (.ref xt), .val (.ref sy)] [(.ref sy), (.ref tx)])) rfl (by rw [hml]; rfl) (Steps.refl _) (argsL := [(.ref sy)]) (rest := []) (lenOf pd_6 rfl) rfl (by show 2 * 0 + _ ≤ _; exact Nat.le_of_eq rfl) (hb hby d_prog_16_method_5_code_25) (fun _ _ => ⟨rfl, e310, (by decide : 0 + 0 ≤ _), (by decide : 0 + 0 ≤ _)⟩)
      dsimp only [Pt.U, Pt.locs, Pt.cells, Pt.slots] at X311 l311 y311 z311 st311 hQ311
      subst l311 y311 z311
      obtain ⟨hc311, rfl, e311⟩ := hQ311
      obtain ⟨r311, rfl, hr311⟩ : ∃ z : Int32, _ = some (Value.int z) ∧ ((z = 1 ∧ cs = ds) ∨ (z = 0 ∧ ¬ cs = ds)) := hc311.elim (fun q => ⟨1, q.1, Or.inl ⟨rfl, q.2⟩⟩) (fun q => ⟨0, q.1, Or.inr ⟨rfl, q.2⟩⟩)
      have N311 := Fr.app N0 (Fr.nil n0)
      have pre312 : ∀ t, Steps p.tables e below (T311.setTop (mkF m 28 #[.val (.ref xt), .val (.ref sy)] [(.int r311)])) t → Steps p.tables e below (s₁.setTop (entryFrame m #[(.ref xt), (.ref sy)] 2)) t := fun t kk => pre309 t (by
        refine Jvm.RoadKit.acmp (g := (mkF m 17 #[.val (.ref xt), .val (.ref sy)] [(.ref k3), (.ref kd)])) X308 hx rfl rfl rfl (pc0 := 17) (pc' := 20) (same := true) rfl (hb hby d_prog_16_method_5_code_17) rfl (decide_eq_true (congrArg Value.ref hk3)) (by decide) (by decide) ?_
        show Steps p.tables e below (T308.setTop (mkF m 20 #[.val (.ref xt), .val (.ref sy)] [])) _
        refine XS.aloadN X308.here hx rfl (hb hby d_prog_16_method_5_code_20) rfl rfl ?_
        show Steps p.tables e below (T308.setTop (mkF m 21 #[.val (.ref xt), .val (.ref sy)] [(.ref xt)])) _
        refine st310 _ ?_
        show Steps p.tables e below (T310.setTop (mkF m 24 #[.val (.ref xt), .val (.ref sy)] [(.ref tx)])) _
        refine XS.aloadN X310.here hx rfl (hb hby d_prog_16_method_5_code_24) rfl rfl ?_
        show Steps p.tables e below (T310.setTop (mkF m 25 #[.val (.ref xt), .val (.ref sy)] [(.ref sy), (.ref tx)])) _
        refine st311.trans ?_
        show Steps p.tables e below (T311.setTop (mkF m 28 #[.val (.ref xt), .val (.ref sy)] [(.int r311)])) _
        exact kk)
      rcases hr311 with ⟨hr1, hr2⟩ | ⟨hr1, hr2⟩
      · subst hr1
        obtain ⟨fs, hr, hrun, hended, hW, hsame⟩ := X311.leave (v := some (.int (1 : Int32))) (fun h => by rw [Bd.returns] at h; cases h)
        refine ⟨_, _, pre312 _ ?_, hrun, hended, _, _, rfl, ?_, ⟨_, rfl⟩, hW, hsame.mono (by decide) (by decide)⟩
        · refine XS.ifNo X311.here hx rfl (hb hby d_prog_16_method_5_code_28) rfl ((if0 _ _).trans (feq ((by decide) : ¬ ((1 : Int32) = (0 : Int32)))).1) ?_
          show Steps p.tables e below (T311.setTop (mkF m 31 #[.val (.ref xt), .val (.ref sy)] [])) _
          refine XS.iconst X311.here hx rfl (hb hby d_prog_16_method_5_code_31) ?_
          show Steps p.tables e below (T311.setTop (mkF m 32 #[.val (.ref xt), .val (.ref sy)] [(.int (1 : Int32))])) _
          refine XS.goto X311.here hx rfl (pc0 := 32) (pc' := 36) rfl (hb hby d_prog_16_method_5_code_32) (by decide) (by decide) ?_
          show Steps p.tables e below (T311.setTop (mkF m 36 #[.val (.ref xt), .val (.ref sy)] [(.int (1 : Int32))])) _
          exact retN X311 hx (t := .boolean) Bd.returns (by simp) (hb hby d_prog_16_method_5_code_36) hr
        · show Q_isT Z xt sy kd k0 k3 tx G t1 kb1 m1 vs1 cs t2 kb2 m2 vs2 ds h0 n0 _ T311.heap _
          rw [e311]
          exact ⟨(1 : Int32), rfl, N311, rfl, Or.inl ⟨rfl, Or.inr hk3, hr2⟩⟩
      · subst hr1
        obtain ⟨fs, hr, hrun, hended, hW, hsame⟩ := X311.leave (v := some (.int (0 : Int32))) (fun h => by rw [Bd.returns] at h; cases h)
        refine ⟨_, _, pre312 _ ?_, hrun, hended, _, _, rfl, ?_, ⟨_, rfl⟩, hW, hsame.mono (by decide) (by decide)⟩
        · refine XS.ifYes X311.here hx rfl (pc0 := 28) (pc' := 35) rfl (hb hby d_prog_16_method_5_code_28) rfl ((if0 _ _).trans (teq ((by decide) : (0 : Int32) = (0 : Int32))).1) (by decide) (by decide) ?_
          show Steps p.tables e below (T311.setTop (mkF m 35 #[.val (.ref xt), .val (.ref sy)] [])) _
          refine XS.iconst X311.here hx rfl (hb hby d_prog_16_method_5_code_35) ?_
          show Steps p.tables e below (T311.setTop (mkF m 36 #[.val (.ref xt), .val (.ref sy)] [(.int (0 : Int32))])) _
          exact retN X311 hx (t := .boolean) Bd.returns (by simp) (hb hby d_prog_16_method_5_code_36) hr
        · show Q_isT Z xt sy kd k0 k3 tx G t1 kb1 m1 vs1 cs t2 kb2 m2 vs2 ds h0 n0 _ T311.heap _
          rw [e311]
          exact ⟨(0 : Int32), rfl, N311, rfl, Or.inr ⟨rfl, fun q => hr2 q.2⟩⟩
    · obtain ⟨fs, hr, hrun, hended, hW, hsame⟩ := X308.leave (v := some (.int (0 : Int32))) (fun h => by rw [Bd.returns] at h; cases h)
      refine ⟨_, _, pre309 _ ?_, hrun, hended, _, _, rfl, ?_, ⟨_, rfl⟩, hW, hsame.mono (by decide) (by decide)⟩
      · refine Jvm.RoadKit.acmp (g := (mkF m 17 #[.val (.ref xt), .val (.ref sy)] [(.ref k3), (.ref kd)])) X308 hx rfl rfl rfl (pc0 := 17) (pc' := 35) (same := false) rfl (hb hby d_prog_16_method_5_code_17) rfl (decide_eq_false fun q => hk3 (Value.ref.inj q)) (by decide) (by decide) ?_
        show Steps p.tables e below (T308.setTop (mkF m 35 #[.val (.ref xt), .val (.ref sy)] [])) _
        refine XS.iconst X308.here hx rfl (hb hby d_prog_16_method_5_code_35) ?_
        show Steps p.tables e below (T308.setTop (mkF m 36 #[.val (.ref xt), .val (.ref sy)] [(.int (0 : Int32))])) _
        exact retN X308 hx (t := .boolean) Bd.returns (by simp) (hb hby d_prog_16_method_5_code_36) hr
      · show Q_isT Z xt sy kd k0 k3 tx G t1 kb1 m1 vs1 cs t2 kb2 m2 vs2 ds h0 n0 _ T308.heap _
        rw [e308]
        exact ⟨(0 : Int32), rfl, N0, rfl, Or.inr ⟨rfl, fun q => q.1.elim hk0 hk3⟩⟩
theorem pd_7 : parseMethodDescriptor "(ICC)Ljava/lang/String;" = some ⟨[.int, .char, .char], some (.object "java/lang/String")⟩ := by decide +kernel
theorem pd_8 : parseMethodDescriptor "(Lcom/example/confluens/confluens/RuleToken$Kind;Ljava/lang/String;I)V" = some ⟨[(.object "com/example/confluens/confluens/RuleToken$Kind"), (.object "java/lang/String"), .int], none⟩ := by decide +kernel
theorem pd_9 : parseMethodDescriptor "(Ljava/lang/String;)Z" = some ⟨[(.object "java/lang/String")], some .boolean⟩ := by decide +kernel
theorem ef_6 (m : MethodId) (x0 : Int32) (x1 : Int32) (x2 : Int32) (x3 : Int32) : entryFrame m #[(.int x0), (.int x1), (.int x2), (.int x3)] maxLocals = mkF m 0 #[.val (.int x0), .val (.int x1), .val (.int x2), .val (.int x3), .unset, .unset, .unset, .unset, .unset, .unset, .unset, .unset, .unset, .unset, .unset, .unset] [] := by first | (simp [entryFrame, mkF, argsToLocals, Value.category, maxLocals]; done) | rfl
def Q_law (Z : State) (i0 : Int32) (i1 : Int32) (i2 : Int32) (i3 : Int32) (G : Int32) (k0 : Addr) (k1 : Addr) (k2 : Addr) (k3 : Addr) (k4 : Addr) (h0 : Heap) (n0 : Nat) (v : Option Value) (h : Heap) (L : List Loc) : Prop := (v = some (.int (1 : Int32))) ∧ (Fr n0 L)
set_option maxRecDepth 65536 in
set_option maxHeartbeats 40000000 in
theorem rm_law (l : Launch) (Z : State) (a0 : Array Value) (hw : ∀ d ∈ tables_1, d.before a0 Z = true) (ws : List Jvm.Cond) (i0 : Int32) (i1 : Int32) (i2 : Int32) (i3 : Int32) (G : Int32) (k0 : Addr) (k1 : Addr) (k2 : Addr) (k3 : Addr) (k4 : Addr) (h0 : Heap) (n0 : Nat) (Z0 : n0 ≤ h0.size) (q0 : Sta Z Z.heap "java/lang/String" "COMPACT_STRINGS" "Z" (.int G)) (hCS : ¬ (G = (0 : Int32))) (q2 : Old Z n0 h0) (q3 : Sta Z Z.heap "com/example/confluens/confluens/RuleToken$Kind" "WORD" "Lcom/example/confluens/confluens/RuleToken$Kind;" (.ref k0)) (q4 : Sta Z Z.heap "com/example/confluens/confluens/RuleToken$Kind" "STRING" "Lcom/example/confluens/confluens/RuleToken$Kind;" (.ref k1)) (q5 : Sta Z Z.heap "com/example/confluens/confluens/RuleToken$Kind" "INTEGER" "Lcom/example/confluens/confluens/RuleToken$Kind;" (.ref k2)) (q6 : Sta Z Z.heap "com/example/confluens/confluens/RuleToken$Kind" "SYMBOL" "Lcom/example/confluens/confluens/RuleToken$Kind;" (.ref k3)) (q7 : Sta Z Z.heap "com/example/confluens/confluens/RuleToken$Kind" "END" "Lcom/example/confluens/confluens/RuleToken$Kind;" (.ref k4)) (hdist : k1 ≠ k0 ∧ k1 ≠ k3 ∧ k2 ≠ k0 ∧ k2 ≠ k3 ∧ k4 ≠ k0 ∧ k4 ≠ k3) :
    MetFree l x (head1 (Jvm.Cond.code x code maxLocals ret :: ws) room_1) (fun a₁ U₁ => a₁ = #[(.int i0), (.int i1), (.int i2), (.int i3)] ∧ Z.Warmed39 U₁.vm ∧ U₁.heap = h0 ∧ CHv Z [("java/lang/String", 7)] U₁.vm h0) (fun _ _ _ _ _ => True) (fun _ U₁ o₁ U₂ => ∃ v₁ L₁, o₁ = .returned v₁ ∧ Q_law Z i0 i1 i2 i3 G k0 k1 k2 k3 k4 h0 n0 v₁ U₂.heap L₁ ∧ ReturnedEndW U₁ o₁ U₂ L₁ room_1.cells room_1.slots) := by
  refine MetFree.of_bodySF (plainFor_of_name pn_2) hisR ?_
  intro p e s m args below meth c s₁ Bd hml0 hP hK
  obtain ⟨rfl, hZ, hh, CH0⟩ := hP
  have hx := Bd.exec
  have hby := Bd.bytes
  have hml : c.maxLocals = 16 := hml0
  have hown : s.vm.findClass "com/example/confluens/confluens/RuleTokenIsPinLaw" = some m.cls := findClass_of_methodNamed Bd.named
  have hnm := (name_of_methodNamed Bd.named Bd.method).1
  have X0 : Stand p l e room_1 (s.setVm s.vm) m #[(.int i0), (.int i1), (.int i2), (.int i3)] below meth c s₁ [] 0 0 := Stand.of_body Bd
  have e0 : s₁.heap = h0 := by rw [← hh, Bd.state]; rfl
  have N0 := Fr.nil n0
  have hZ0 : Z.Warmed39 (s.setVm s.vm).vm := hZ
  have hown0 : (s.setVm s.vm).vm.findClass "com/example/confluens/confluens/RuleTokenIsPinLaw" = some m.cls := hown
  have hS0 : s.Since s.vm h0.size := (State.WarmedH.refl s).since _
  have hk0 : h0.size ≤ h0.size := Nat.le_refl _
  have CR0 : CHr Z [("java/lang/String", 7)] s.vm h0 s.vm h0 := CHr.refl CH0
  have pre0 : ∀ t, Steps p.tables e below (s₁.setTop (mkF m 0 #[.val (.int i0), .val (.int i1), .val (.int i2), .val (.int i3), .unset, .unset, .unset, .unset, .unset, .unset, .unset, .unset, .unset, .unset, .unset, .unset] [])) t → Steps p.tables e below (s₁.setTop (entryFrame m #[(.int i0), (.int i1), (.int i2), (.int i3)] maxLocals)) t := fun t k => castTop (ef_6 m i0 i1 i2 i3) k
  have pre301 : ∀ t, Steps p.tables e below (s₁.setTop (mkF m 8 #[.val (.int i0), .val (.int i1), .val (.int i2), .val (.int i3), .val (.int ((i0 &&& (2147483647 : Int32)) % (5 : Int32))), .unset, .unset, .unset, .unset, .unset, .unset, .unset, .unset, .unset, .unset, .unset] [])) t → Steps p.tables e below (s₁.setTop (entryFrame m #[(.int i0), (.int i1), (.int i2), (.int i3)] maxLocals)) t := fun t kk => pre0 t (by
    refine XS.iloadN X0.here hx rfl (hb hby at_0) rfl ?_
    show Steps p.tables e below (s₁.setTop (mkF m 1 #[.val (.int i0), .val (.int i1), .val (.int i2), .val (.int i3), .unset, .unset, .unset, .unset, .unset, .unset, .unset, .unset, .unset, .unset, .unset, .unset] [(.int i0)])) _
    refine X0.ldcInt hx hown0 (mvT hZ0 (hw _ (List.mem_of_getElem? (i := 0) rfl))) (g := (mkF m 1 #[.val (.int i0), .val (.int i1), .val (.int i2), .val (.int i3), .unset, .unset, .unset, .unset, .unset, .unset, .unset, .unset, .unset, .unset, .unset, .unset] [(.int i0)])) rfl (hb hby at_1) _ ?_
    show Steps p.tables e below (s₁.setTop (mkF m 3 #[.val (.int i0), .val (.int i1), .val (.int i2), .val (.int i3), .unset, .unset, .unset, .unset, .unset, .unset, .unset, .unset, .unset, .unset, .unset, .unset] [(.int (2147483647 : Int32)), (.int i0)])) _
    refine XS.iand X0.here hx rfl (hb hby at_3) rfl ?_
    show Steps p.tables e below (s₁.setTop (mkF m 4 #[.val (.int i0), .val (.int i1), .val (.int i2), .val (.int i3), .unset, .unset, .unset, .unset, .unset, .unset, .unset, .unset, .unset, .unset, .unset, .unset] [(.int (i0 &&& (2147483647 : Int32)))])) _
    refine XS.iconst X0.here hx rfl (hb hby at_4) ?_
    show Steps p.tables e below (s₁.setTop (mkF m 5 #[.val (.int i0), .val (.int i1), .val (.int i2), .val (.int i3), .unset, .unset, .unset, .unset, .unset, .unset, .unset, .unset, .unset, .unset, .unset, .unset] [(.int (5 : Int32)), (.int (i0 &&& (2147483647 : Int32)))])) _
    refine iremM X0 hx rfl (hb hby at_5) rfl (by decide) ?_
    show Steps p.tables e below (s₁.setTop (mkF m 6 #[.val (.int i0), .val (.int i1), .val (.int i2), .val (.int i3), .unset, .unset, .unset, .unset, .unset, .unset, .unset, .unset, .unset, .unset, .unset, .unset] [(.int ((i0 &&& (2147483647 : Int32)) % (5 : Int32)))])) _
    refine XS.istore X0.here hx rfl (hb hby at_6) rfl (l' := #[.val (.int i0), .val (.int i1), .val (.int i2), .val (.int i3), .val (.int ((i0 &&& (2147483647 : Int32)) % (5 : Int32))), .unset, .unset, .unset, .unset, .unset, .unset, .unset, .unset, .unset, .unset, .unset]) rfl ?_
    show Steps p.tables e below (s₁.setTop (mkF m 8 #[.val (.int i0), .val (.int i1), .val (.int i2), .val (.int i3), .val (.int ((i0 &&& (2147483647 : Int32)) % (5 : Int32))), .unset, .unset, .unset, .unset, .unset, .unset, .unset, .unset, .unset, .unset, .unset] [])) _
    exact kk)
  obtain ⟨sel, h_sel⟩ : ∃ z, z = ((i0 &&& (2147483647 : Int32)) % (5 : Int32)) := ⟨_, rfl⟩
  rw [← h_sel] at pre301
  have hid : sel = (0 : Int32) ∨ sel = (1 : Int32) ∨ sel = (2 : Int32) ∨ sel = (3 : Int32) ∨ sel = (4 : Int32) := by rw [h_sel]; exact own_m5 i0
  obtain ⟨kr, hkr, T307, X307, e307, pre307⟩ : ∃ kr : Addr, ((kr = k0 ∨ kr = k3) ↔ (sel = (0 : Int32) ∨ sel = (3 : Int32))) ∧ ∃ T307 : State, Stand p l e room_1 (s.setVm s.vm) m #[(.int i0), (.int i1), (.int i2), (.int i3)] below meth c T307 [] 0 0 ∧ T307.heap = h0 ∧ ∀ t, Steps p.tables e below (T307.setTop (mkF m 68 #[.val (.int i0), .val (.int i1), .val (.int i2), .val (.int i3), .val (.int sel), .val (.ref kr), .unset, .unset, .unset, .unset, .unset, .unset, .unset, .unset, .unset, .unset] [])) t → Steps p.tables e below (s₁.setTop (entryFrame m #[(.int i0), (.int i1), (.int i2), (.int i3)] maxLocals)) t := by
    rcases hid with hid | hid | hid | hid | hid
    · obtain ⟨T302, X302, e302, st302⟩ := getS2 X0 hx hZ0 hown0 (host := "") (Or.inl (hw _ (List.mem_of_getElem? (i := 1) rfl))) Via.refl e0 (q3.ext q2.2) (g := (mkF m 13 #[.val (.int i0), .val (.int i1), .val (.int i2), .val (.int i3), .val (.int sel), .unset, .unset, .unset, .unset, .unset, .unset, .unset, .unset, .unset, .unset, .unset] [])) rfl (hb hby at_13)
      have pre308 : ∀ t, Steps p.tables e below (T302.setTop (mkF m 68 #[.val (.int i0), .val (.int i1), .val (.int i2), .val (.int i3), .val (.int sel), .val (.ref k0), .unset, .unset, .unset, .unset, .unset, .unset, .unset, .unset, .unset, .unset] [])) t → Steps p.tables e below (s₁.setTop (entryFrame m #[(.int i0), (.int i1), (.int i2), (.int i3)] maxLocals)) t := fun t kk => pre301 t (by
        refine XS.iload X0.here hx rfl (hb hby at_8) rfl ?_
        show Steps p.tables e below (s₁.setTop (mkF m 10 #[.val (.int i0), .val (.int i1), .val (.int i2), .val (.int i3), .val (.int sel), .unset, .unset, .unset, .unset, .unset, .unset, .unset, .unset, .unset, .unset, .unset] [(.int sel)])) _
        refine XS.ifNo X0.here hx rfl (hb hby at_10) rfl ((if0 _ _).trans (teq (hid : sel = (0 : Int32))).2) ?_
        show Steps p.tables e below (s₁.setTop (mkF m 13 #[.val (.int i0), .val (.int i1), .val (.int i2), .val (.int i3), .val (.int sel), .unset, .unset, .unset, .unset, .unset, .unset, .unset, .unset, .unset, .unset, .unset] [])) _
        refine st302 _ ?_
        show Steps p.tables e below (T302.setTop (mkF m 16 #[.val (.int i0), .val (.int i1), .val (.int i2), .val (.int i3), .val (.int sel), .unset, .unset, .unset, .unset, .unset, .unset, .unset, .unset, .unset, .unset, .unset] [(.ref k0)])) _
        refine XS.astore X302.here hx rfl (hb hby at_16) rfl rfl (l' := #[.val (.int i0), .val (.int i1), .val (.int i2), .val (.int i3), .val (.int sel), .val (.ref k0), .unset, .unset, .unset, .unset, .unset, .unset, .unset, .unset, .unset, .unset]) rfl ?_
        show Steps p.tables e below (T302.setTop (mkF m 18 #[.val (.int i0), .val (.int i1), .val (.int i2), .val (.int i3), .val (.int sel), .val (.ref k0), .unset, .unset, .unset, .unset, .unset, .unset, .unset, .unset, .unset, .unset] [])) _
        refine XS.goto X302.here hx rfl (pc0 := 18) (pc' := 68) rfl (hb hby at_18) (by decide) (by decide) ?_
        show Steps p.tables e below (T302.setTop (mkF m 68 #[.val (.int i0), .val (.int i1), .val (.int i2), .val (.int i3), .val (.int sel), .val (.ref k0), .unset, .unset, .unset, .unset, .unset, .unset, .unset, .unset, .unset, .unset] [])) _
        exact kk)
      exact ⟨k0, ⟨fun _ => Or.inl hid, fun _ => Or.inl rfl⟩, T302, X302, e302, pre308⟩
    · obtain ⟨T303, X303, e303, st303⟩ := getS2 X0 hx hZ0 hown0 (host := "") (Or.inl (hw _ (List.mem_of_getElem? (i := 76) rfl))) Via.refl e0 (q4.ext q2.2) (g := (mkF m 27 #[.val (.int i0), .val (.int i1), .val (.int i2), .val (.int i3), .val (.int sel), .unset, .unset, .unset, .unset, .unset, .unset, .unset, .unset, .unset, .unset, .unset] [])) rfl (hb hby at_27)
      have pre309 : ∀ t, Steps p.tables e below (T303.setTop (mkF m 68 #[.val (.int i0), .val (.int i1), .val (.int i2), .val (.int i3), .val (.int sel), .val (.ref k1), .unset, .unset, .unset, .unset, .unset, .unset, .unset, .unset, .unset, .unset] [])) t → Steps p.tables e below (s₁.setTop (entryFrame m #[(.int i0), (.int i1), (.int i2), (.int i3)] maxLocals)) t := fun t kk => pre301 t (by
        refine XS.iload X0.here hx rfl (hb hby at_8) rfl ?_
        show Steps p.tables e below (s₁.setTop (mkF m 10 #[.val (.int i0), .val (.int i1), .val (.int i2), .val (.int i3), .val (.int sel), .unset, .unset, .unset, .unset, .unset, .unset, .unset, .unset, .unset, .unset, .unset] [(.int sel)])) _
        refine XS.ifYes X0.here hx rfl (pc0 := 10) (pc' := 21) rfl (hb hby at_10) rfl ((if0 _ _).trans (feq ((by rw [hid]; decide) : ¬ (sel = (0 : Int32)))).2) (by decide) (by decide) ?_
        show Steps p.tables e below (s₁.setTop (mkF m 21 #[.val (.int i0), .val (.int i1), .val (.int i2), .val (.int i3), .val (.int sel), .unset, .unset, .unset, .unset, .unset, .unset, .unset, .unset, .unset, .unset, .unset] [])) _
        refine XS.iload X0.here hx rfl (hb hby at_21) rfl ?_
        show Steps p.tables e below (s₁.setTop (mkF m 23 #[.val (.int i0), .val (.int i1), .val (.int i2), .val (.int i3), .val (.int sel), .unset, .unset, .unset, .unset, .unset, .unset, .unset, .unset, .unset, .unset, .unset] [(.int sel)])) _
        refine XS.iconst X0.here hx rfl (hb hby at_23) ?_
        show Steps p.tables e below (s₁.setTop (mkF m 24 #[.val (.int i0), .val (.int i1), .val (.int i2), .val (.int i3), .val (.int sel), .unset, .unset, .unset, .unset, .unset, .unset, .unset, .unset, .unset, .unset, .unset] [(.int (1 : Int32)), (.int sel)])) _
        refine XS.icmpNo X0.here hx rfl (hb hby at_24) rfl (teq (hid : sel = (1 : Int32))).2 ?_
        show Steps p.tables e below (s₁.setTop (mkF m 27 #[.val (.int i0), .val (.int i1), .val (.int i2), .val (.int i3), .val (.int sel), .unset, .unset, .unset, .unset, .unset, .unset, .unset, .unset, .unset, .unset, .unset] [])) _
        refine st303 _ ?_
        show Steps p.tables e below (T303.setTop (mkF m 30 #[.val (.int i0), .val (.int i1), .val (.int i2), .val (.int i3), .val (.int sel), .unset, .unset, .unset, .unset, .unset, .unset, .unset, .unset, .unset, .unset, .unset] [(.ref k1)])) _
        refine XS.astore X303.here hx rfl (hb hby at_30) rfl rfl (l' := #[.val (.int i0), .val (.int i1), .val (.int i2), .val (.int i3), .val (.int sel), .val (.ref k1), .unset, .unset, .unset, .unset, .unset, .unset, .unset, .unset, .unset, .unset]) rfl ?_
        show Steps p.tables e below (T303.setTop (mkF m 32 #[.val (.int i0), .val (.int i1), .val (.int i2), .val (.int i3), .val (.int sel), .val (.ref k1), .unset, .unset, .unset, .unset, .unset, .unset, .unset, .unset, .unset, .unset] [])) _
        refine XS.goto X303.here hx rfl (pc0 := 32) (pc' := 68) rfl (hb hby at_32) (by decide) (by decide) ?_
        show Steps p.tables e below (T303.setTop (mkF m 68 #[.val (.int i0), .val (.int i1), .val (.int i2), .val (.int i3), .val (.int sel), .val (.ref k1), .unset, .unset, .unset, .unset, .unset, .unset, .unset, .unset, .unset, .unset] [])) _
        exact kk)
      exact ⟨k1, ⟨fun q => absurd q (not_or.mpr ⟨hdist.1, hdist.2.1⟩), fun q => absurd q (by rw [hid]; decide)⟩, T303, X303, e303, pre309⟩
    · obtain ⟨T304, X304, e304, st304⟩ := getS2 X0 hx hZ0 hown0 (host := "") (Or.inl (hw _ (List.mem_of_getElem? (i := 60) rfl))) Via.refl e0 (q5.ext q2.2) (g := (mkF m 41 #[.val (.int i0), .val (.int i1), .val (.int i2), .val (.int i3), .val (.int sel), .unset, .unset, .unset, .unset, .unset, .unset, .unset, .unset, .unset, .unset, .unset] [])) rfl (hb hby at_41)
      have pre310 : ∀ t, Steps p.tables e below (T304.setTop (mkF m 68 #[.val (.int i0), .val (.int i1), .val (.int i2), .val (.int i3), .val (.int sel), .val (.ref k2), .unset, .unset, .unset, .unset, .unset, .unset, .unset, .unset, .unset, .unset] [])) t → Steps p.tables e below (s₁.setTop (entryFrame m #[(.int i0), (.int i1), (.int i2), (.int i3)] maxLocals)) t := fun t kk => pre301 t (by
        refine XS.iload X0.here hx rfl (hb hby at_8) rfl ?_
        show Steps p.tables e below (s₁.setTop (mkF m 10 #[.val (.int i0), .val (.int i1), .val (.int i2), .val (.int i3), .val (.int sel), .unset, .unset, .unset, .unset, .unset, .unset, .unset, .unset, .unset, .unset, .unset] [(.int sel)])) _
        refine XS.ifYes X0.here hx rfl (pc0 := 10) (pc' := 21) rfl (hb hby at_10) rfl ((if0 _ _).trans (feq ((by rw [hid]; decide) : ¬ (sel = (0 : Int32)))).2) (by decide) (by decide) ?_
        show Steps p.tables e below (s₁.setTop (mkF m 21 #[.val (.int i0), .val (.int i1), .val (.int i2), .val (.int i3), .val (.int sel), .unset, .unset, .unset, .unset, .unset, .unset, .unset, .unset, .unset, .unset, .unset] [])) _
        refine XS.iload X0.here hx rfl (hb hby at_21) rfl ?_
        show Steps p.tables e below (s₁.setTop (mkF m 23 #[.val (.int i0), .val (.int i1), .val (.int i2), .val (.int i3), .val (.int sel), .unset, .unset, .unset, .unset, .unset, .unset, .unset, .unset, .unset, .unset, .unset] [(.int sel)])) _
        refine XS.iconst X0.here hx rfl (hb hby at_23) ?_
        show Steps p.tables e below (s₁.setTop (mkF m 24 #[.val (.int i0), .val (.int i1), .val (.int i2), .val (.int i3), .val (.int sel), .unset, .unset, .unset, .unset, .unset, .unset, .unset, .unset, .unset, .unset, .unset] [(.int (1 : Int32)), (.int sel)])) _
        refine XS.icmpYes X0.here hx rfl (pc0 := 24) (pc' := 35) rfl (hb hby at_24) rfl (feq ((by rw [hid]; decide) : ¬ (sel = (1 : Int32)))).2 (by decide) (by decide) ?_
        show Steps p.tables e below (s₁.setTop (mkF m 35 #[.val (.int i0), .val (.int i1), .val (.int i2), .val (.int i3), .val (.int sel), .unset, .unset, .unset, .unset, .unset, .unset, .unset, .unset, .unset, .unset, .unset] [])) _
        refine XS.iload X0.here hx rfl (hb hby at_35) rfl ?_
        show Steps p.tables e below (s₁.setTop (mkF m 37 #[.val (.int i0), .val (.int i1), .val (.int i2), .val (.int i3), .val (.int sel), .unset, .unset, .unset, .unset, .unset, .unset, .unset, .unset, .unset, .unset, .unset] [(.int sel)])) _
        refine XS.iconst X0.here hx rfl (hb hby at_37) ?_
        show Steps p.tables e below (s₁.setTop (mkF m 38 #[.val (.int i0), .val (.int i1), .val (.int i2), .val (.int i3), .val (.int sel), .unset, .unset, .unset, .unset, .unset, .unset, .unset, .unset, .unset, .unset, .unset] [(.int (2 : Int32)), (.int sel)])) _
        refine XS.icmpNo X0.here hx rfl (hb hby at_38) rfl (teq (hid : sel = (2 : Int32))).2 ?_
        show Steps p.tables e below (s₁.setTop (mkF m 41 #[.val (.int i0), .val (.int i1), .val (.int i2), .val (.int i3), .val (.int sel), .unset, .unset, .unset, .unset, .unset, .unset, .unset, .unset, .unset, .unset, .unset] [])) _
        refine st304 _ ?_
        show Steps p.tables e below (T304.setTop (mkF m 44 #[.val (.int i0), .val (.int i1), .val (.int i2), .val (.int i3), .val (.int sel), .unset, .unset, .unset, .unset, .unset, .unset, .unset, .unset, .unset, .unset, .unset] [(.ref k2)])) _
        refine XS.astore X304.here hx rfl (hb hby at_44) rfl rfl (l' := #[.val (.int i0), .val (.int i1), .val (.int i2), .val (.int i3), .val (.int sel), .val (.ref k2), .unset, .unset, .unset, .unset, .unset, .unset, .unset, .unset, .unset, .unset]) rfl ?_
        show Steps p.tables e below (T304.setTop (mkF m 46 #[.val (.int i0), .val (.int i1), .val (.int i2), .val (.int i3), .val (.int sel), .val (.ref k2), .unset, .unset, .unset, .unset, .unset, .unset, .unset, .unset, .unset, .unset] [])) _
        refine XS.goto X304.here hx rfl (pc0 := 46) (pc' := 68) rfl (hb hby at_46) (by decide) (by decide) ?_
        show Steps p.tables e below (T304.setTop (mkF m 68 #[.val (.int i0), .val (.int i1), .val (.int i2), .val (.int i3), .val (.int sel), .val (.ref k2), .unset, .unset, .unset, .unset, .unset, .unset, .unset, .unset, .unset, .unset] [])) _
        exact kk)
      exact ⟨k2, ⟨fun q => absurd q (not_or.mpr ⟨hdist.2.2.1, hdist.2.2.2.1⟩), fun q => absurd q (by rw [hid]; decide)⟩, T304, X304, e304, pre310⟩
    · obtain ⟨T305, X305, e305, st305⟩ := getS2 X0 hx hZ0 hown0 (host := "") (Or.inl (hw _ (List.mem_of_getElem? (i := 78) rfl))) Via.refl e0 (q6.ext q2.2) (g := (mkF m 55 #[.val (.int i0), .val (.int i1), .val (.int i2), .val (.int i3), .val (.int sel), .unset, .unset, .unset, .unset, .unset, .unset, .unset, .unset, .unset, .unset, .unset] [])) rfl (hb hby at_55)
      have pre311 : ∀ t, Steps p.tables e below (T305.setTop (mkF m 68 #[.val (.int i0), .val (.int i1), .val (.int i2), .val (.int i3), .val (.int sel), .val (.ref k3), .unset, .unset, .unset, .unset, .unset, .unset, .unset, .unset, .unset, .unset] [])) t → Steps p.tables e below (s₁.setTop (entryFrame m #[(.int i0), (.int i1), (.int i2), (.int i3)] maxLocals)) t := fun t kk => pre301 t (by
        refine XS.iload X0.here hx rfl (hb hby at_8) rfl ?_
        show Steps p.tables e below (s₁.setTop (mkF m 10 #[.val (.int i0), .val (.int i1), .val (.int i2), .val (.int i3), .val (.int sel), .unset, .unset, .unset, .unset, .unset, .unset, .unset, .unset, .unset, .unset, .unset] [(.int sel)])) _
        refine XS.ifYes X0.here hx rfl (pc0 := 10) (pc' := 21) rfl (hb hby at_10) rfl ((if0 _ _).trans (feq ((by rw [hid]; decide) : ¬ (sel = (0 : Int32)))).2) (by decide) (by decide) ?_
        show Steps p.tables e below (s₁.setTop (mkF m 21 #[.val (.int i0), .val (.int i1), .val (.int i2), .val (.int i3), .val (.int sel), .unset, .unset, .unset, .unset, .unset, .unset, .unset, .unset, .unset, .unset, .unset] [])) _
        refine XS.iload X0.here hx rfl (hb hby at_21) rfl ?_
        show Steps p.tables e below (s₁.setTop (mkF m 23 #[.val (.int i0), .val (.int i1), .val (.int i2), .val (.int i3), .val (.int sel), .unset, .unset, .unset, .unset, .unset, .unset, .unset, .unset, .unset, .unset, .unset] [(.int sel)])) _
        refine XS.iconst X0.here hx rfl (hb hby at_23) ?_
        show Steps p.tables e below (s₁.setTop (mkF m 24 #[.val (.int i0), .val (.int i1), .val (.int i2), .val (.int i3), .val (.int sel), .unset, .unset, .unset, .unset, .unset, .unset, .unset, .unset, .unset, .unset, .unset] [(.int (1 : Int32)), (.int sel)])) _
        refine XS.icmpYes X0.here hx rfl (pc0 := 24) (pc' := 35) rfl (hb hby at_24) rfl (feq ((by rw [hid]; decide) : ¬ (sel = (1 : Int32)))).2 (by decide) (by decide) ?_
        show Steps p.tables e below (s₁.setTop (mkF m 35 #[.val (.int i0), .val (.int i1), .val (.int i2), .val (.int i3), .val (.int sel), .unset, .unset, .unset, .unset, .unset, .unset, .unset, .unset, .unset, .unset, .unset] [])) _
        refine XS.iload X0.here hx rfl (hb hby at_35) rfl ?_
        show Steps p.tables e below (s₁.setTop (mkF m 37 #[.val (.int i0), .val (.int i1), .val (.int i2), .val (.int i3), .val (.int sel), .unset, .unset, .unset, .unset, .unset, .unset, .unset, .unset, .unset, .unset, .unset] [(.int sel)])) _
        refine XS.iconst X0.here hx rfl (hb hby at_37) ?_
        show Steps p.tables e below (s₁.setTop (mkF m 38 #[.val (.int i0), .val (.int i1), .val (.int i2), .val (.int i3), .val (.int sel), .unset, .unset, .unset, .unset, .unset, .unset, .unset, .unset, .unset, .unset, .unset] [(.int (2 : Int32)), (.int sel)])) _
        refine XS.icmpYes X0.here hx rfl (pc0 := 38) (pc' := 49) rfl (hb hby at_38) rfl (feq ((by rw [hid]; decide) : ¬ (sel = (2 : Int32)))).2 (by decide) (by decide) ?_
        show Steps p.tables e below (s₁.setTop (mkF m 49 #[.val (.int i0), .val (.int i1), .val (.int i2), .val (.int i3), .val (.int sel), .unset, .unset, .unset, .unset, .unset, .unset, .unset, .unset, .unset, .unset, .unset] [])) _
        refine XS.iload X0.here hx rfl (hb hby at_49) rfl ?_
        show Steps p.tables e below (s₁.setTop (mkF m 51 #[.val (.int i0), .val (.int i1), .val (.int i2), .val (.int i3), .val (.int sel), .unset, .unset, .unset, .unset, .unset, .unset, .unset, .unset, .unset, .unset, .unset] [(.int sel)])) _
        refine XS.iconst X0.here hx rfl (hb hby at_51) ?_
        show Steps p.tables e below (s₁.setTop (mkF m 52 #[.val (.int i0), .val (.int i1), .val (.int i2), .val (.int i3), .val (.int sel), .unset, .unset, .unset, .unset, .unset, .unset, .unset, .unset, .unset, .unset, .unset] [(.int (3 : Int32)), (.int sel)])) _
        refine XS.icmpNo X0.here hx rfl (hb hby at_52) rfl (teq (hid : sel = (3 : Int32))).2 ?_
        show Steps p.tables e below (s₁.setTop (mkF m 55 #[.val (.int i0), .val (.int i1), .val (.int i2), .val (.int i3), .val (.int sel), .unset, .unset, .unset, .unset, .unset, .unset, .unset, .unset, .unset, .unset, .unset] [])) _
        refine st305 _ ?_
        show Steps p.tables e below (T305.setTop (mkF m 58 #[.val (.int i0), .val (.int i1), .val (.int i2), .val (.int i3), .val (.int sel), .unset, .unset, .unset, .unset, .unset, .unset, .unset, .unset, .unset, .unset, .unset] [(.ref k3)])) _
        refine XS.astore X305.here hx rfl (hb hby at_58) rfl rfl (l' := #[.val (.int i0), .val (.int i1), .val (.int i2), .val (.int i3), .val (.int sel), .val (.ref k3), .unset, .unset, .unset, .unset, .unset, .unset, .unset, .unset, .unset, .unset]) rfl ?_
        show Steps p.tables e below (T305.setTop (mkF m 60 #[.val (.int i0), .val (.int i1), .val (.int i2), .val (.int i3), .val (.int sel), .val (.ref k3), .unset, .unset, .unset, .unset, .unset, .unset, .unset, .unset, .unset, .unset] [])) _
        refine XS.goto X305.here hx rfl (pc0 := 60) (pc' := 68) rfl (hb hby at_60) (by decide) (by decide) ?_
        show Steps p.tables e below (T305.setTop (mkF m 68 #[.val (.int i0), .val (.int i1), .val (.int i2), .val (.int i3), .val (.int sel), .val (.ref k3), .unset, .unset, .unset, .unset, .unset, .unset, .unset, .unset, .unset, .unset] [])) _
        exact kk)
      exact ⟨k3, ⟨fun _ => Or.inr hid, fun _ => Or.inr rfl⟩, T305, X305, e305, pre311⟩
    · obtain ⟨T306, X306, e306, st306⟩ := getS2 X0 hx hZ0 hown0 (host := "") (Or.inl (hw _ (List.mem_of_getElem? (i := 64) rfl))) Via.refl e0 (q7.ext q2.2) (g := (mkF m 63 #[.val (.int i0), .val (.int i1), .val (.int i2), .val (.int i3), .val (.int sel), .unset, .unset, .unset, .unset, .unset, .unset, .unset, .unset, .unset, .unset, .unset] [])) rfl (hb hby at_63)
      have pre312 : ∀ t, Steps p.tables e below (T306.setTop (mkF m 68 #[.val (.int i0), .val (.int i1), .val (.int i2), .val (.int i3), .val (.int sel), .val (.ref k4), .unset, .unset, .unset, .unset, .unset, .unset, .unset, .unset, .unset, .unset] [])) t → Steps p.tables e below (s₁.setTop (entryFrame m #[(.int i0), (.int i1), (.int i2), (.int i3)] maxLocals)) t := fun t kk => pre301 t (by
        refine XS.iload X0.here hx rfl (hb hby at_8) rfl ?_
        show Steps p.tables e below (s₁.setTop (mkF m 10 #[.val (.int i0), .val (.int i1), .val (.int i2), .val (.int i3), .val (.int sel), .unset, .unset, .unset, .unset, .unset, .unset, .unset, .unset, .unset, .unset, .unset] [(.int sel)])) _
        refine XS.ifYes X0.here hx rfl (pc0 := 10) (pc' := 21) rfl (hb hby at_10) rfl ((if0 _ _).trans (feq ((by rw [hid]; decide) : ¬ (sel = (0 : Int32)))).2) (by decide) (by decide) ?_
        show Steps p.tables e below (s₁.setTop (mkF m 21 #[.val (.int i0), .val (.int i1), .val (.int i2), .val (.int i3), .val (.int sel), .unset, .unset, .unset, .unset, .unset, .unset, .unset, .unset, .unset, .unset, .unset] [])) _
        refine XS.iload X0.here hx rfl (hb hby at_21) rfl ?_
        show Steps p.tables e below (s₁.setTop (mkF m 23 #[.val (.int i0), .val (.int i1), .val (.int i2), .val (.int i3), .val (.int sel), .unset, .unset, .unset, .unset, .unset, .unset, .unset, .unset, .unset, .unset, .unset] [(.int sel)])) _
        refine XS.iconst X0.here hx rfl (hb hby at_23) ?_
        show Steps p.tables e below (s₁.setTop (mkF m 24 #[.val (.int i0), .val (.int i1), .val (.int i2), .val (.int i3), .val (.int sel), .unset, .unset, .unset, .unset, .unset, .unset, .unset, .unset, .unset, .unset, .unset] [(.int (1 : Int32)), (.int sel)])) _
        refine XS.icmpYes X0.here hx rfl (pc0 := 24) (pc' := 35) rfl (hb hby at_24) rfl (feq ((by rw [hid]; decide) : ¬ (sel = (1 : Int32)))).2 (by decide) (by decide) ?_
        show Steps p.tables e below (s₁.setTop (mkF m 35 #[.val (.int i0), .val (.int i1), .val (.int i2), .val (.int i3), .val (.int sel), .unset, .unset, .unset, .unset, .unset, .unset, .unset, .unset, .unset, .unset, .unset] [])) _
        refine XS.iload X0.here hx rfl (hb hby at_35) rfl ?_
        show Steps p.tables e below (s₁.setTop (mkF m 37 #[.val (.int i0), .val (.int i1), .val (.int i2), .val (.int i3), .val (.int sel), .unset, .unset, .unset, .unset, .unset, .unset, .unset, .unset, .unset, .unset, .unset] [(.int sel)])) _
        refine XS.iconst X0.here hx rfl (hb hby at_37) ?_
        show Steps p.tables e below (s₁.setTop (mkF m 38 #[.val (.int i0), .val (.int i1), .val (.int i2), .val (.int i3), .val (.int sel), .unset, .unset, .unset, .unset, .unset, .unset, .unset, .unset, .unset, .unset, .unset] [(.int (2 : Int32)), (.int sel)])) _
        refine XS.icmpYes X0.here hx rfl (pc0 := 38) (pc' := 49) rfl (hb hby at_38) rfl (feq ((by rw [hid]; decide) : ¬ (sel = (2 : Int32)))).2 (by decide) (by decide) ?_
        show Steps p.tables e below (s₁.setTop (mkF m 49 #[.val (.int i0), .val (.int i1), .val (.int i2), .val (.int i3), .val (.int sel), .unset, .unset, .unset, .unset, .unset, .unset, .unset, .unset, .unset, .unset, .unset] [])) _
        refine XS.iload X0.here hx rfl (hb hby at_49) rfl ?_
        show Steps p.tables e below (s₁.setTop (mkF m 51 #[.val (.int i0), .val (.int i1), .val (.int i2), .val (.int i3), .val (.int sel), .unset, .unset, .unset, .unset, .unset, .unset, .unset, .unset, .unset, .unset, .unset] [(.int sel)])) _
        refine XS.iconst X0.here hx rfl (hb hby at_51) ?_
        show Steps p.tables e below (s₁.setTop (mkF m 52 #[.val (.int i0), .val (.int i1), .val (.int i2), .val (.int i3), .val (.int sel), .unset, .unset, .unset, .unset, .unset, .unset, .unset, .unset, .unset, .unset, .unset] [(.int (3 : Int32)), (.int sel)])) _
        refine XS.icmpYes X0.here hx rfl (pc0 := 52) (pc' := 63) rfl (hb hby at_52) rfl (feq ((by rw [hid]; decide) : ¬ (sel = (3 : Int32)))).2 (by decide) (by decide) ?_
        show Steps p.tables e below (s₁.setTop (mkF m 63 #[.val (.int i0), .val (.int i1), .val (.int i2), .val (.int i3), .val (.int sel), .unset, .unset, .unset, .unset, .unset, .unset, .unset, .unset, .unset, .unset, .unset] [])) _
        refine st306 _ ?_
        show Steps p.tables e below (T306.setTop (mkF m 66 #[.val (.int i0), .val (.int i1), .val (.int i2), .val (.int i3), .val (.int sel), .unset, .unset, .unset, .unset, .unset, .unset, .unset, .unset, .unset, .unset, .unset] [(.ref k4)])) _
        refine XS.astore X306.here hx rfl (hb hby at_66) rfl rfl (l' := #[.val (.int i0), .val (.int i1), .val (.int i2), .val (.int i3), .val (.int sel), .val (.ref k4), .unset, .unset, .unset, .unset, .unset, .unset, .unset, .unset, .unset, .unset]) rfl ?_
        show Steps p.tables e below (T306.setTop (mkF m 68 #[.val (.int i0), .val (.int i1), .val (.int i2), .val (.int i3), .val (.int sel), .val (.ref k4), .unset, .unset, .unset, .unset, .unset, .unset, .unset, .unset, .unset, .unset] [])) _
        exact kk)
      exact ⟨k4, ⟨fun q => absurd q (not_or.mpr ⟨hdist.2.2.2.2.1, hdist.2.2.2.2.2⟩), fun q => absurd q (by rw [hid]; decide)⟩, T306, X306, e306, pre312⟩
  have pre313 : ∀ t, Steps p.tables e below (T307.setTop (mkF m 76 #[.val (.int i0), .val (.int i1), .val (.int i2), .val (.int i3), .val (.int sel), .val (.ref kr), .val (.int ((i1 &&& (255 : Int32)).toUInt32.toUInt16.toUInt32.toInt32)), .unset, .unset, .unset, .unset, .unset, .unset, .unset, .unset, .unset] [])) t → Steps p.tables e below (s₁.setTop (entryFrame m #[(.int i0), (.int i1), (.int i2), (.int i3)] maxLocals)) t := fun t kk => pre307 t (by
    refine XS.iloadN X307.here hx rfl (hb hby at_68) rfl ?_
    show Steps p.tables e below (T307.setTop (mkF m 69 #[.val (.int i0), .val (.int i1), .val (.int i2), .val (.int i3), .val (.int sel), .val (.ref kr), .unset, .unset, .unset, .unset, .unset, .unset, .unset, .unset, .unset, .unset] [(.int i1)])) _
    refine XS.sipush X307.here hx rfl (hb hby at_69) ?_
    show Steps p.tables e below (T307.setTop (mkF m 72 #[.val (.int i0), .val (.int i1), .val (.int i2), .val (.int i3), .val (.int sel), .val (.ref kr), .unset, .unset, .unset, .unset, .unset, .unset, .unset, .unset, .unset, .unset] [(.int (255 : Int32)), (.int i1)])) _
    refine XS.iand X307.here hx rfl (hb hby at_72) rfl ?_
    show Steps p.tables e below (T307.setTop (mkF m 73 #[.val (.int i0), .val (.int i1), .val (.int i2), .val (.int i3), .val (.int sel), .val (.ref kr), .unset, .unset, .unset, .unset, .unset, .unset, .unset, .unset, .unset, .unset] [(.int (i1 &&& (255 : Int32)))])) _
    refine XS.i2c X307.here hx rfl (hb hby at_73) rfl ?_
    show Steps p.tables e below (T307.setTop (mkF m 74 #[.val (.int i0), .val (.int i1), .val (.int i2), .val (.int i3), .val (.int sel), .val (.ref kr), .unset, .unset, .unset, .unset, .unset, .unset, .unset, .unset, .unset, .unset] [(.int ((i1 &&& (255 : Int32)).toUInt32.toUInt16.toUInt32.toInt32))])) _
    refine XS.istore X307.here hx rfl (hb hby at_74) rfl (l' := #[.val (.int i0), .val (.int i1), .val (.int i2), .val (.int i3), .val (.int sel), .val (.ref kr), .val (.int ((i1 &&& (255 : Int32)).toUInt32.toUInt16.toUInt32.toInt32)), .unset, .unset, .unset, .unset, .unset, .unset, .unset, .unset, .unset]) rfl ?_
    show Steps p.tables e below (T307.setTop (mkF m 76 #[.val (.int i0), .val (.int i1), .val (.int i2), .val (.int i3), .val (.int sel), .val (.ref kr), .val (.int ((i1 &&& (255 : Int32)).toUInt32.toUInt16.toUInt32.toInt32)), .unset, .unset, .unset, .unset, .unset, .unset, .unset, .unset, .unset] [])) _
    exact kk)
  obtain ⟨t0, h_t0⟩ : ∃ z, z = ((i1 &&& (255 : Int32)).toUInt32.toUInt16.toUInt32.toInt32) := ⟨_, rfl⟩
  rw [← h_t0] at pre313
  have ht0 : own_L t0 := by rw [h_t0]; exact own_lat8 _
  have pre314 : ∀ t, Steps p.tables e below (T307.setTop (mkF m 87 #[.val (.int i0), .val (.int i1), .val (.int i2), .val (.int i3), .val (.int sel), .val (.ref kr), .val (.int t0), .val (.int ((((i1.toUInt32 >>> ((8 : Int32) &&& 31).toUInt32).toInt32) &&& (255 : Int32)).toUInt32.toUInt16.toUInt32.toInt32)), .unset, .unset, .unset, .unset, .unset, .unset, .unset, .unset] [])) t → Steps p.tables e below (s₁.setTop (entryFrame m #[(.int i0), (.int i1), (.int i2), (.int i3)] maxLocals)) t := fun t kk => pre313 t (by
    refine XS.iloadN X307.here hx rfl (hb hby at_76) rfl ?_
    show Steps p.tables e below (T307.setTop (mkF m 77 #[.val (.int i0), .val (.int i1), .val (.int i2), .val (.int i3), .val (.int sel), .val (.ref kr), .val (.int t0), .unset, .unset, .unset, .unset, .unset, .unset, .unset, .unset, .unset] [(.int i1)])) _
    refine XS.bipush X307.here hx rfl (hb hby at_77) ?_
    show Steps p.tables e below (T307.setTop (mkF m 79 #[.val (.int i0), .val (.int i1), .val (.int i2), .val (.int i3), .val (.int sel), .val (.ref kr), .val (.int t0), .unset, .unset, .unset, .unset, .unset, .unset, .unset, .unset, .unset] [(.int (8 : Int32)), (.int i1)])) _
    refine XS.iushr X307.here hx rfl (hb hby at_79) rfl ?_
    show Steps p.tables e below (T307.setTop (mkF m 80 #[.val (.int i0), .val (.int i1), .val (.int i2), .val (.int i3), .val (.int sel), .val (.ref kr), .val (.int t0), .unset, .unset, .unset, .unset, .unset, .unset, .unset, .unset, .unset] [(.int ((i1.toUInt32 >>> ((8 : Int32) &&& 31).toUInt32).toInt32))])) _
    refine XS.sipush X307.here hx rfl (hb hby at_80) ?_
    show Steps p.tables e below (T307.setTop (mkF m 83 #[.val (.int i0), .val (.int i1), .val (.int i2), .val (.int i3), .val (.int sel), .val (.ref kr), .val (.int t0), .unset, .unset, .unset, .unset, .unset, .unset, .unset, .unset, .unset] [(.int (255 : Int32)), (.int ((i1.toUInt32 >>> ((8 : Int32) &&& 31).toUInt32).toInt32))])) _
    refine XS.iand X307.here hx rfl (hb hby at_83) rfl ?_
    show Steps p.tables e below (T307.setTop (mkF m 84 #[.val (.int i0), .val (.int i1), .val (.int i2), .val (.int i3), .val (.int sel), .val (.ref kr), .val (.int t0), .unset, .unset, .unset, .unset, .unset, .unset, .unset, .unset, .unset] [(.int (((i1.toUInt32 >>> ((8 : Int32) &&& 31).toUInt32).toInt32) &&& (255 : Int32)))])) _
    refine XS.i2c X307.here hx rfl (hb hby at_84) rfl ?_
    show Steps p.tables e below (T307.setTop (mkF m 85 #[.val (.int i0), .val (.int i1), .val (.int i2), .val (.int i3), .val (.int sel), .val (.ref kr), .val (.int t0), .unset, .unset, .unset, .unset, .unset, .unset, .unset, .unset, .unset] [(.int ((((i1.toUInt32 >>> ((8 : Int32) &&& 31).toUInt32).toInt32) &&& (255 : Int32)).toUInt32.toUInt16.toUInt32.toInt32))])) _
    refine XS.istore X307.here hx rfl (hb hby at_85) rfl (l' := #[.val (.int i0), .val (.int i1), .val (.int i2), .val (.int i3), .val (.int sel), .val (.ref kr), .val (.int t0), .val (.int ((((i1.toUInt32 >>> ((8 : Int32) &&& 31).toUInt32).toInt32) &&& (255 : Int32)).toUInt32.toUInt16.toUInt32.toInt32)), .unset, .unset, .unset, .unset, .unset, .unset, .unset, .unset]) rfl ?_
    show Steps p.tables e below (T307.setTop (mkF m 87 #[.val (.int i0), .val (.int i1), .val (.int i2), .val (.int i3), .val (.int sel), .val (.ref kr), .val (.int t0), .val (.int ((((i1.toUInt32 >>> ((8 : Int32) &&& 31).toUInt32).toInt32) &&& (255 : Int32)).toUInt32.toUInt16.toUInt32.toInt32)), .unset, .unset, .unset, .unset, .unset, .unset, .unset, .unset] [])) _
    exact kk)
  obtain ⟨t1, h_t1⟩ : ∃ z, z = ((((i1.toUInt32 >>> ((8 : Int32) &&& 31).toUInt32).toInt32) &&& (255 : Int32)).toUInt32.toUInt16.toUInt32.toInt32) := ⟨_, rfl⟩
  rw [← h_t1] at pre314
  have ht1 : own_L t1 := by rw [h_t1]; exact own_lat8 _
  have pre315 : ∀ t, Steps p.tables e below (T307.setTop (mkF m 99 #[.val (.int i0), .val (.int i1), .val (.int i2), .val (.int i3), .val (.int sel), .val (.ref kr), .val (.int t0), .val (.int t1), .val (.int ((((i1.toUInt32 >>> ((16 : Int32) &&& 31).toUInt32).toInt32) &&& (255 : Int32)) % (3 : Int32))), .unset, .unset, .unset, .unset, .unset, .unset, .unset] [])) t → Steps p.tables e below (s₁.setTop (entryFrame m #[(.int i0), (.int i1), (.int i2), (.int i3)] maxLocals)) t := fun t kk => pre314 t (by
    refine XS.iloadN X307.here hx rfl (hb hby at_87) rfl ?_
    show Steps p.tables e below (T307.setTop (mkF m 88 #[.val (.int i0), .val (.int i1), .val (.int i2), .val (.int i3), .val (.int sel), .val (.ref kr), .val (.int t0), .val (.int t1), .unset, .unset, .unset, .unset, .unset, .unset, .unset, .unset] [(.int i1)])) _
    refine XS.bipush X307.here hx rfl (hb hby at_88) ?_
    show Steps p.tables e below (T307.setTop (mkF m 90 #[.val (.int i0), .val (.int i1), .val (.int i2), .val (.int i3), .val (.int sel), .val (.ref kr), .val (.int t0), .val (.int t1), .unset, .unset, .unset, .unset, .unset, .unset, .unset, .unset] [(.int (16 : Int32)), (.int i1)])) _
    refine XS.iushr X307.here hx rfl (hb hby at_90) rfl ?_
    show Steps p.tables e below (T307.setTop (mkF m 91 #[.val (.int i0), .val (.int i1), .val (.int i2), .val (.int i3), .val (.int sel), .val (.ref kr), .val (.int t0), .val (.int t1), .unset, .unset, .unset, .unset, .unset, .unset, .unset, .unset] [(.int ((i1.toUInt32 >>> ((16 : Int32) &&& 31).toUInt32).toInt32))])) _
    refine XS.sipush X307.here hx rfl (hb hby at_91) ?_
    show Steps p.tables e below (T307.setTop (mkF m 94 #[.val (.int i0), .val (.int i1), .val (.int i2), .val (.int i3), .val (.int sel), .val (.ref kr), .val (.int t0), .val (.int t1), .unset, .unset, .unset, .unset, .unset, .unset, .unset, .unset] [(.int (255 : Int32)), (.int ((i1.toUInt32 >>> ((16 : Int32) &&& 31).toUInt32).toInt32))])) _
    refine XS.iand X307.here hx rfl (hb hby at_94) rfl ?_
    show Steps p.tables e below (T307.setTop (mkF m 95 #[.val (.int i0), .val (.int i1), .val (.int i2), .val (.int i3), .val (.int sel), .val (.ref kr), .val (.int t0), .val (.int t1), .unset, .unset, .unset, .unset, .unset, .unset, .unset, .unset] [(.int (((i1.toUInt32 >>> ((16 : Int32) &&& 31).toUInt32).toInt32) &&& (255 : Int32)))])) _
    refine XS.iconst X307.here hx rfl (hb hby at_95) ?_
    show Steps p.tables e below (T307.setTop (mkF m 96 #[.val (.int i0), .val (.int i1), .val (.int i2), .val (.int i3), .val (.int sel), .val (.ref kr), .val (.int t0), .val (.int t1), .unset, .unset, .unset, .unset, .unset, .unset, .unset, .unset] [(.int (3 : Int32)), (.int (((i1.toUInt32 >>> ((16 : Int32) &&& 31).toUInt32).toInt32) &&& (255 : Int32)))])) _
    refine iremM X307 hx rfl (hb hby at_96) rfl (by decide) ?_
    show Steps p.tables e below (T307.setTop (mkF m 97 #[.val (.int i0), .val (.int i1), .val (.int i2), .val (.int i3), .val (.int sel), .val (.ref kr), .val (.int t0), .val (.int t1), .unset, .unset, .unset, .unset, .unset, .unset, .unset, .unset] [(.int ((((i1.toUInt32 >>> ((16 : Int32) &&& 31).toUInt32).toInt32) &&& (255 : Int32)) % (3 : Int32)))])) _
    refine XS.istore X307.here hx rfl (hb hby at_97) rfl (l' := #[.val (.int i0), .val (.int i1), .val (.int i2), .val (.int i3), .val (.int sel), .val (.ref kr), .val (.int t0), .val (.int t1), .val (.int ((((i1.toUInt32 >>> ((16 : Int32) &&& 31).toUInt32).toInt32) &&& (255 : Int32)) % (3 : Int32))), .unset, .unset, .unset, .unset, .unset, .unset, .unset]) rfl ?_
    show Steps p.tables e below (T307.setTop (mkF m 99 #[.val (.int i0), .val (.int i1), .val (.int i2), .val (.int i3), .val (.int sel), .val (.ref kr), .val (.int t0), .val (.int t1), .val (.int ((((i1.toUInt32 >>> ((16 : Int32) &&& 31).toUInt32).toInt32) &&& (255 : Int32)) % (3 : Int32))), .unset, .unset, .unset, .unset, .unset, .unset, .unset] [])) _
    exact kk)
  obtain ⟨la, h_la⟩ : ∃ z, z = ((((i1.toUInt32 >>> ((16 : Int32) &&& 31).toUInt32).toInt32) &&& (255 : Int32)) % (3 : Int32)) := ⟨_, rfl⟩
  rw [← h_la] at pre315
  have hla : la = (0 : Int32) ∨ la = (1 : Int32) ∨ la = (2 : Int32) := by rw [h_la]; exact own_a3 _
  have pre316 : ∀ t, Steps p.tables e below (T307.setTop (mkF m 107 #[.val (.int i0), .val (.int i1), .val (.int i2), .val (.int i3), .val (.int sel), .val (.ref kr), .val (.int t0), .val (.int t1), .val (.int la), .val (.int ((i2 &&& (255 : Int32)).toUInt32.toUInt16.toUInt32.toInt32)), .unset, .unset, .unset, .unset, .unset, .unset] [])) t → Steps p.tables e below (s₁.setTop (entryFrame m #[(.int i0), (.int i1), (.int i2), (.int i3)] maxLocals)) t := fun t kk => pre315 t (by
    refine XS.iloadN X307.here hx rfl (hb hby at_99) rfl ?_
    show Steps p.tables e below (T307.setTop (mkF m 100 #[.val (.int i0), .val (.int i1), .val (.int i2), .val (.int i3), .val (.int sel), .val (.ref kr), .val (.int t0), .val (.int t1), .val (.int la), .unset, .unset, .unset, .unset, .unset, .unset, .unset] [(.int i2)])) _
    refine XS.sipush X307.here hx rfl (hb hby at_100) ?_
    show Steps p.tables e below (T307.setTop (mkF m 103 #[.val (.int i0), .val (.int i1), .val (.int i2), .val (.int i3), .val (.int sel), .val (.ref kr), .val (.int t0), .val (.int t1), .val (.int la), .unset, .unset, .unset, .unset, .unset, .unset, .unset] [(.int (255 : Int32)), (.int i2)])) _
    refine XS.iand X307.here hx rfl (hb hby at_103) rfl ?_
    show Steps p.tables e below (T307.setTop (mkF m 104 #[.val (.int i0), .val (.int i1), .val (.int i2), .val (.int i3), .val (.int sel), .val (.ref kr), .val (.int t0), .val (.int t1), .val (.int la), .unset, .unset, .unset, .unset, .unset, .unset, .unset] [(.int (i2 &&& (255 : Int32)))])) _
    refine XS.i2c X307.here hx rfl (hb hby at_104) rfl ?_
    show Steps p.tables e below (T307.setTop (mkF m 105 #[.val (.int i0), .val (.int i1), .val (.int i2), .val (.int i3), .val (.int sel), .val (.ref kr), .val (.int t0), .val (.int t1), .val (.int la), .unset, .unset, .unset, .unset, .unset, .unset, .unset] [(.int ((i2 &&& (255 : Int32)).toUInt32.toUInt16.toUInt32.toInt32))])) _
    refine XS.istore X307.here hx rfl (hb hby at_105) rfl (l' := #[.val (.int i0), .val (.int i1), .val (.int i2), .val (.int i3), .val (.int sel), .val (.ref kr), .val (.int t0), .val (.int t1), .val (.int la), .val (.int ((i2 &&& (255 : Int32)).toUInt32.toUInt16.toUInt32.toInt32)), .unset, .unset, .unset, .unset, .unset, .unset]) rfl ?_
    show Steps p.tables e below (T307.setTop (mkF m 107 #[.val (.int i0), .val (.int i1), .val (.int i2), .val (.int i3), .val (.int sel), .val (.ref kr), .val (.int t0), .val (.int t1), .val (.int la), .val (.int ((i2 &&& (255 : Int32)).toUInt32.toUInt16.toUInt32.toInt32)), .unset, .unset, .unset, .unset, .unset, .unset] [])) _
    exact kk)
  obtain ⟨u0, h_u0⟩ : ∃ z, z = ((i2 &&& (255 : Int32)).toUInt32.toUInt16.toUInt32.toInt32) := ⟨_, rfl⟩
  rw [← h_u0] at pre316
  have hu0 : own_L u0 := by rw [h_u0]; exact own_lat8 _
  have pre317 : ∀ t, Steps p.tables e below (T307.setTop (mkF m 118 #[.val (.int i0), .val (.int i1), .val (.int i2), .val (.int i3), .val (.int sel), .val (.ref kr), .val (.int t0), .val (.int t1), .val (.int la), .val (.int u0), .val (.int ((((i2.toUInt32 >>> ((8 : Int32) &&& 31).toUInt32).toInt32) &&& (255 : Int32)).toUInt32.toUInt16.toUInt32.toInt32)), .unset, .unset, .unset, .unset, .unset] [])) t → Steps p.tables e below (s₁.setTop (entryFrame m #[(.int i0), (.int i1), (.int i2), (.int i3)] maxLocals)) t := fun t kk => pre316 t (by
    refine XS.iloadN X307.here hx rfl (hb hby at_107) rfl ?_
    show Steps p.tables e below (T307.setTop (mkF m 108 #[.val (.int i0), .val (.int i1), .val (.int i2), .val (.int i3), .val (.int sel), .val (.ref kr), .val (.int t0), .val (.int t1), .val (.int la), .val (.int u0), .unset, .unset, .unset, .unset, .unset, .unset] [(.int i2)])) _
    refine XS.bipush X307.here hx rfl (hb hby at_108) ?_
    show Steps p.tables e below (T307.setTop (mkF m 110 #[.val (.int i0), .val (.int i1), .val (.int i2), .val (.int i3), .val (.int sel), .val (.ref kr), .val (.int t0), .val (.int t1), .val (.int la), .val (.int u0), .unset, .unset, .unset, .unset, .unset, .unset] [(.int (8 : Int32)), (.int i2)])) _
    refine XS.iushr X307.here hx rfl (hb hby at_110) rfl ?_
    show Steps p.tables e below (T307.setTop (mkF m 111 #[.val (.int i0), .val (.int i1), .val (.int i2), .val (.int i3), .val (.int sel), .val (.ref kr), .val (.int t0), .val (.int t1), .val (.int la), .val (.int u0), .unset, .unset, .unset, .unset, .unset, .unset] [(.int ((i2.toUInt32 >>> ((8 : Int32) &&& 31).toUInt32).toInt32))])) _
    refine XS.sipush X307.here hx rfl (hb hby at_111) ?_
    show Steps p.tables e below (T307.setTop (mkF m 114 #[.val (.int i0), .val (.int i1), .val (.int i2), .val (.int i3), .val (.int sel), .val (.ref kr), .val (.int t0), .val (.int t1), .val (.int la), .val (.int u0), .unset, .unset, .unset, .unset, .unset, .unset] [(.int (255 : Int32)), (.int ((i2.toUInt32 >>> ((8 : Int32) &&& 31).toUInt32).toInt32))])) _
    refine XS.iand X307.here hx rfl (hb hby at_114) rfl ?_
    show Steps p.tables e below (T307.setTop (mkF m 115 #[.val (.int i0), .val (.int i1), .val (.int i2), .val (.int i3), .val (.int sel), .val (.ref kr), .val (.int t0), .val (.int t1), .val (.int la), .val (.int u0), .unset, .unset, .unset, .unset, .unset, .unset] [(.int (((i2.toUInt32 >>> ((8 : Int32) &&& 31).toUInt32).toInt32) &&& (255 : Int32)))])) _
    refine XS.i2c X307.here hx rfl (hb hby at_115) rfl ?_
    show Steps p.tables e below (T307.setTop (mkF m 116 #[.val (.int i0), .val (.int i1), .val (.int i2), .val (.int i3), .val (.int sel), .val (.ref kr), .val (.int t0), .val (.int t1), .val (.int la), .val (.int u0), .unset, .unset, .unset, .unset, .unset, .unset] [(.int ((((i2.toUInt32 >>> ((8 : Int32) &&& 31).toUInt32).toInt32) &&& (255 : Int32)).toUInt32.toUInt16.toUInt32.toInt32))])) _
    refine XS.istore X307.here hx rfl (hb hby at_116) rfl (l' := #[.val (.int i0), .val (.int i1), .val (.int i2), .val (.int i3), .val (.int sel), .val (.ref kr), .val (.int t0), .val (.int t1), .val (.int la), .val (.int u0), .val (.int ((((i2.toUInt32 >>> ((8 : Int32) &&& 31).toUInt32).toInt32) &&& (255 : Int32)).toUInt32.toUInt16.toUInt32.toInt32)), .unset, .unset, .unset, .unset, .unset]) rfl ?_
    show Steps p.tables e below (T307.setTop (mkF m 118 #[.val (.int i0), .val (.int i1), .val (.int i2), .val (.int i3), .val (.int sel), .val (.ref kr), .val (.int t0), .val (.int t1), .val (.int la), .val (.int u0), .val (.int ((((i2.toUInt32 >>> ((8 : Int32) &&& 31).toUInt32).toInt32) &&& (255 : Int32)).toUInt32.toUInt16.toUInt32.toInt32)), .unset, .unset, .unset, .unset, .unset] [])) _
    exact kk)
  obtain ⟨u1, h_u1⟩ : ∃ z, z = ((((i2.toUInt32 >>> ((8 : Int32) &&& 31).toUInt32).toInt32) &&& (255 : Int32)).toUInt32.toUInt16.toUInt32.toInt32) := ⟨_, rfl⟩
  rw [← h_u1] at pre317
  have hu1 : own_L u1 := by rw [h_u1]; exact own_lat8 _
  have pre318 : ∀ t, Steps p.tables e below (T307.setTop (mkF m 130 #[.val (.int i0), .val (.int i1), .val (.int i2), .val (.int i3), .val (.int sel), .val (.ref kr), .val (.int t0), .val (.int t1), .val (.int la), .val (.int u0), .val (.int u1), .val (.int ((((i2.toUInt32 >>> ((16 : Int32) &&& 31).toUInt32).toInt32) &&& (255 : Int32)) % (3 : Int32))), .unset, .unset, .unset, .unset] [])) t → Steps p.tables e below (s₁.setTop (entryFrame m #[(.int i0), (.int i1), (.int i2), (.int i3)] maxLocals)) t := fun t kk => pre317 t (by
    refine XS.iloadN X307.here hx rfl (hb hby at_118) rfl ?_
    show Steps p.tables e below (T307.setTop (mkF m 119 #[.val (.int i0), .val (.int i1), .val (.int i2), .val (.int i3), .val (.int sel), .val (.ref kr), .val (.int t0), .val (.int t1), .val (.int la), .val (.int u0), .val (.int u1), .unset, .unset, .unset, .unset, .unset] [(.int i2)])) _
    refine XS.bipush X307.here hx rfl (hb hby at_119) ?_
    show Steps p.tables e below (T307.setTop (mkF m 121 #[.val (.int i0), .val (.int i1), .val (.int i2), .val (.int i3), .val (.int sel), .val (.ref kr), .val (.int t0), .val (.int t1), .val (.int la), .val (.int u0), .val (.int u1), .unset, .unset, .unset, .unset, .unset] [(.int (16 : Int32)), (.int i2)])) _
    refine XS.iushr X307.here hx rfl (hb hby at_121) rfl ?_
    show Steps p.tables e below (T307.setTop (mkF m 122 #[.val (.int i0), .val (.int i1), .val (.int i2), .val (.int i3), .val (.int sel), .val (.ref kr), .val (.int t0), .val (.int t1), .val (.int la), .val (.int u0), .val (.int u1), .unset, .unset, .unset, .unset, .unset] [(.int ((i2.toUInt32 >>> ((16 : Int32) &&& 31).toUInt32).toInt32))])) _
    refine XS.sipush X307.here hx rfl (hb hby at_122) ?_
    show Steps p.tables e below (T307.setTop (mkF m 125 #[.val (.int i0), .val (.int i1), .val (.int i2), .val (.int i3), .val (.int sel), .val (.ref kr), .val (.int t0), .val (.int t1), .val (.int la), .val (.int u0), .val (.int u1), .unset, .unset, .unset, .unset, .unset] [(.int (255 : Int32)), (.int ((i2.toUInt32 >>> ((16 : Int32) &&& 31).toUInt32).toInt32))])) _
    refine XS.iand X307.here hx rfl (hb hby at_125) rfl ?_
    show Steps p.tables e below (T307.setTop (mkF m 126 #[.val (.int i0), .val (.int i1), .val (.int i2), .val (.int i3), .val (.int sel), .val (.ref kr), .val (.int t0), .val (.int t1), .val (.int la), .val (.int u0), .val (.int u1), .unset, .unset, .unset, .unset, .unset] [(.int (((i2.toUInt32 >>> ((16 : Int32) &&& 31).toUInt32).toInt32) &&& (255 : Int32)))])) _
    refine XS.iconst X307.here hx rfl (hb hby at_126) ?_
    show Steps p.tables e below (T307.setTop (mkF m 127 #[.val (.int i0), .val (.int i1), .val (.int i2), .val (.int i3), .val (.int sel), .val (.ref kr), .val (.int t0), .val (.int t1), .val (.int la), .val (.int u0), .val (.int u1), .unset, .unset, .unset, .unset, .unset] [(.int (3 : Int32)), (.int (((i2.toUInt32 >>> ((16 : Int32) &&& 31).toUInt32).toInt32) &&& (255 : Int32)))])) _
    refine iremM X307 hx rfl (hb hby at_127) rfl (by decide) ?_
    show Steps p.tables e below (T307.setTop (mkF m 128 #[.val (.int i0), .val (.int i1), .val (.int i2), .val (.int i3), .val (.int sel), .val (.ref kr), .val (.int t0), .val (.int t1), .val (.int la), .val (.int u0), .val (.int u1), .unset, .unset, .unset, .unset, .unset] [(.int ((((i2.toUInt32 >>> ((16 : Int32) &&& 31).toUInt32).toInt32) &&& (255 : Int32)) % (3 : Int32)))])) _
    refine XS.istore X307.here hx rfl (hb hby at_128) rfl (l' := #[.val (.int i0), .val (.int i1), .val (.int i2), .val (.int i3), .val (.int sel), .val (.ref kr), .val (.int t0), .val (.int t1), .val (.int la), .val (.int u0), .val (.int u1), .val (.int ((((i2.toUInt32 >>> ((16 : Int32) &&& 31).toUInt32).toInt32) &&& (255 : Int32)) % (3 : Int32))), .unset, .unset, .unset, .unset]) rfl ?_
    show Steps p.tables e below (T307.setTop (mkF m 130 #[.val (.int i0), .val (.int i1), .val (.int i2), .val (.int i3), .val (.int sel), .val (.ref kr), .val (.int t0), .val (.int t1), .val (.int la), .val (.int u0), .val (.int u1), .val (.int ((((i2.toUInt32 >>> ((16 : Int32) &&& 31).toUInt32).toInt32) &&& (255 : Int32)) % (3 : Int32))), .unset, .unset, .unset, .unset] [])) _
    exact kk)
  obtain ⟨lb, h_lb⟩ : ∃ z, z = ((((i2.toUInt32 >>> ((16 : Int32) &&& 31).toUInt32).toInt32) &&& (255 : Int32)) % (3 : Int32)) := ⟨_, rfl⟩
  rw [← h_lb] at pre318
  have hlb : lb = (0 : Int32) ∨ lb = (1 : Int32) ∨ lb = (2 : Int32) := by rw [h_lb]; exact own_a3 _
  have pre319 : ∀ t, Steps p.tables e below (T307.setTop (mkF m 136 #[.val (.int i0), .val (.int i1), .val (.int i2), .val (.int i3), .val (.int sel), .val (.ref kr), .val (.int t0), .val (.int t1), .val (.int la), .val (.int u0), .val (.int u1), .val (.int lb), .unset, .unset, .unset, .unset] [(.int (((i2.toUInt32 >>> ((24 : Int32) &&& 31).toUInt32).toInt32) &&& (1 : Int32)))])) t → Steps p.tables e below (s₁.setTop (entryFrame m #[(.int i0), (.int i1), (.int i2), (.int i3)] maxLocals)) t := fun t kk => pre318 t (by
    refine XS.iloadN X307.here hx rfl (hb hby at_130) rfl ?_
    show Steps p.tables e below (T307.setTop (mkF m 131 #[.val (.int i0), .val (.int i1), .val (.int i2), .val (.int i3), .val (.int sel), .val (.ref kr), .val (.int t0), .val (.int t1), .val (.int la), .val (.int u0), .val (.int u1), .val (.int lb), .unset, .unset, .unset, .unset] [(.int i2)])) _
    refine XS.bipush X307.here hx rfl (hb hby at_131) ?_
    show Steps p.tables e below (T307.setTop (mkF m 133 #[.val (.int i0), .val (.int i1), .val (.int i2), .val (.int i3), .val (.int sel), .val (.ref kr), .val (.int t0), .val (.int t1), .val (.int la), .val (.int u0), .val (.int u1), .val (.int lb), .unset, .unset, .unset, .unset] [(.int (24 : Int32)), (.int i2)])) _
    refine XS.iushr X307.here hx rfl (hb hby at_133) rfl ?_
    show Steps p.tables e below (T307.setTop (mkF m 134 #[.val (.int i0), .val (.int i1), .val (.int i2), .val (.int i3), .val (.int sel), .val (.ref kr), .val (.int t0), .val (.int t1), .val (.int la), .val (.int u0), .val (.int u1), .val (.int lb), .unset, .unset, .unset, .unset] [(.int ((i2.toUInt32 >>> ((24 : Int32) &&& 31).toUInt32).toInt32))])) _
    refine XS.iconst X307.here hx rfl (hb hby at_134) ?_
    show Steps p.tables e below (T307.setTop (mkF m 135 #[.val (.int i0), .val (.int i1), .val (.int i2), .val (.int i3), .val (.int sel), .val (.ref kr), .val (.int t0), .val (.int t1), .val (.int la), .val (.int u0), .val (.int u1), .val (.int lb), .unset, .unset, .unset, .unset] [(.int (1 : Int32)), (.int ((i2.toUInt32 >>> ((24 : Int32) &&& 31).toUInt32).toInt32))])) _
    refine XS.iand X307.here hx rfl (hb hby at_135) rfl ?_
    show Steps p.tables e below (T307.setTop (mkF m 136 #[.val (.int i0), .val (.int i1), .val (.int i2), .val (.int i3), .val (.int sel), .val (.ref kr), .val (.int t0), .val (.int t1), .val (.int la), .val (.int u0), .val (.int u1), .val (.int lb), .unset, .unset, .unset, .unset] [(.int (((i2.toUInt32 >>> ((24 : Int32) &&& 31).toUInt32).toInt32) &&& (1 : Int32)))])) _
    exact kk)
  obtain ⟨s0, s1, hs0, hs1, pre320⟩ : ∃ s0 : Int32, ∃ s1 : Int32, (own_L s0) ∧ (own_L s1) ∧ ∀ t, Steps p.tables e below (T307.setTop (mkF m 147 #[.val (.int i0), .val (.int i1), .val (.int i2), .val (.int i3), .val (.int sel), .val (.ref kr), .val (.int t0), .val (.int t1), .val (.int la), .val (.int s0), .val (.int s1), .val (.int lb), .unset, .unset, .unset, .unset] [])) t → Steps p.tables e below (s₁.setTop (entryFrame m #[(.int i0), (.int i1), (.int i2), (.int i3)] maxLocals)) t := by
    by_cases hb1 : (((i2.toUInt32 >>> ((24 : Int32) &&& 31).toUInt32).toInt32) &&& (1 : Int32)) = (0 : Int32)
    · have pre321 : ∀ t, Steps p.tables e below (T307.setTop (mkF m 147 #[.val (.int i0), .val (.int i1), .val (.int i2), .val (.int i3), .val (.int sel), .val (.ref kr), .val (.int t0), .val (.int t1), .val (.int la), .val (.int u0), .val (.int u1), .val (.int lb), .unset, .unset, .unset, .unset] [])) t → Steps p.tables e below (s₁.setTop (entryFrame m #[(.int i0), (.int i1), (.int i2), (.int i3)] maxLocals)) t := fun t kk => pre319 t (by
        refine XS.ifYes X307.here hx rfl (pc0 := 136) (pc' := 147) rfl (hb hby at_136) rfl ((if0 _ _).trans (teq (hb1 : (((i2.toUInt32 >>> ((24 : Int32) &&& 31).toUInt32).toInt32) &&& (1 : Int32)) = (0 : Int32))).1) (by decide) (by decide) ?_
        show Steps p.tables e below (T307.setTop (mkF m 147 #[.val (.int i0), .val (.int i1), .val (.int i2), .val (.int i3), .val (.int sel), .val (.ref kr), .val (.int t0), .val (.int t1), .val (.int la), .val (.int u0), .val (.int u1), .val (.int lb), .unset, .unset, .unset, .unset] [])) _
        exact kk)
      exact ⟨u0, u1, hu0, hu1, pre321⟩
    · have pre322 : ∀ t, Steps p.tables e below (T307.setTop (mkF m 147 #[.val (.int i0), .val (.int i1), .val (.int i2), .val (.int i3), .val (.int sel), .val (.ref kr), .val (.int t0), .val (.int t1), .val (.int la), .val (.int t0), .val (.int t1), .val (.int lb), .unset, .unset, .unset, .unset] [])) t → Steps p.tables e below (s₁.setTop (entryFrame m #[(.int i0), (.int i1), (.int i2), (.int i3)] maxLocals)) t := fun t kk => pre319 t (by
        refine XS.ifNo X307.here hx rfl (hb hby at_136) rfl ((if0 _ _).trans (feq (hb1 : ¬ ((((i2.toUInt32 >>> ((24 : Int32) &&& 31).toUInt32).toInt32) &&& (1 : Int32)) = (0 : Int32)))).1) ?_
        show Steps p.tables e below (T307.setTop (mkF m 139 #[.val (.int i0), .val (.int i1), .val (.int i2), .val (.int i3), .val (.int sel), .val (.ref kr), .val (.int t0), .val (.int t1), .val (.int la), .val (.int u0), .val (.int u1), .val (.int lb), .unset, .unset, .unset, .unset] [])) _
        refine XS.iload X307.here hx rfl (hb hby at_139) rfl ?_
        show Steps p.tables e below (T307.setTop (mkF m 141 #[.val (.int i0), .val (.int i1), .val (.int i2), .val (.int i3), .val (.int sel), .val (.ref kr), .val (.int t0), .val (.int t1), .val (.int la), .val (.int u0), .val (.int u1), .val (.int lb), .unset, .unset, .unset, .unset] [(.int t0)])) _
        refine XS.istore X307.here hx rfl (hb hby at_141) rfl (l' := #[.val (.int i0), .val (.int i1), .val (.int i2), .val (.int i3), .val (.int sel), .val (.ref kr), .val (.int t0), .val (.int t1), .val (.int la), .val (.int t0), .val (.int u1), .val (.int lb), .unset, .unset, .unset, .unset]) rfl ?_
        show Steps p.tables e below (T307.setTop (mkF m 143 #[.val (.int i0), .val (.int i1), .val (.int i2), .val (.int i3), .val (.int sel), .val (.ref kr), .val (.int t0), .val (.int t1), .val (.int la), .val (.int t0), .val (.int u1), .val (.int lb), .unset, .unset, .unset, .unset] [])) _
        refine XS.iload X307.here hx rfl (hb hby at_143) rfl ?_
        show Steps p.tables e below (T307.setTop (mkF m 145 #[.val (.int i0), .val (.int i1), .val (.int i2), .val (.int i3), .val (.int sel), .val (.ref kr), .val (.int t0), .val (.int t1), .val (.int la), .val (.int t0), .val (.int u1), .val (.int lb), .unset, .unset, .unset, .unset] [(.int t1)])) _
        refine XS.istore X307.here hx rfl (hb hby at_145) rfl (l' := #[.val (.int i0), .val (.int i1), .val (.int i2), .val (.int i3), .val (.int sel), .val (.ref kr), .val (.int t0), .val (.int t1), .val (.int la), .val (.int t0), .val (.int t1), .val (.int lb), .unset, .unset, .unset, .unset]) rfl ?_
        show Steps p.tables e below (T307.setTop (mkF m 147 #[.val (.int i0), .val (.int i1), .val (.int i2), .val (.int i3), .val (.int sel), .val (.ref kr), .val (.int t0), .val (.int t1), .val (.int la), .val (.int t0), .val (.int t1), .val (.int lb), .unset, .unset, .unset, .unset] [])) _
        exact kk)
      exact ⟨t0, t1, ht0, ht1, pre322⟩
  obtain ⟨_, _, ⟨T323, L323, k323, n323⟩, -, X323', hS323', hz323', ⟨Lc323, hQ323, l323, y323, z323, ch323⟩, st323⟩ := callSS X307 hx (y := (⟨"com/example/confluens/confluens/RuleTokenIsPinLaw", "mk", "(ICC)Ljava/lang/String;"⟩ : MethodName)) hown0 (mvT hZ0 (hw _ (List.mem_of_getElem? (i := 4) rfl))) (mvT hZ0 (hw _ (List.mem_of_getElem? (i := 5) rfl))) (mvT hZ0 (hw _ (List.mem_of_getElem? (i := 6) rfl))) (mvT hZ0 (hw _ (List.mem_of_getElem? (i := 7) rfl))) (by decide) (backOfSH (W := 0) (rm_make l Z a0 hw [] la t0 t1 G h0 n0 Z0 q0 hCS q2 (hla) (ht0.1) (ht1.1) (ht0.2) (ht1.2)) hZ0 (hw _ (List.mem_of_getElem? (i := 7) rfl)) (hw _ (List.mem_of_getElem? (i := 6) rfl)) (by decide) (by decide) (own_EW hw) CR0.1) (g := (mkF m 153 #[.val (.int i0), .val (.int i1), .val (.int i2), .val (.int i3), .val (.int sel), .val (.ref kr), .val (.int t0), .val (.int t1), .val (.int la), .val (.int s0), .val (.int s1), .val (.int lb), .unset, .unset, .unset, .unset] [(.int t1), (.int t0), (.int la)])) rfl (by rw [hml]; rfl) (argsL := [(.int la), (.int t0), (.int t1)]) (rest := []) (lenOf pd_7 rfl) rfl (by show 2 * 0 + _ ≤ _; exact Nat.le_of_eq rfl) (hb hby at_153) (fun _ _ => ⟨rfl, e307, (by decide : 0 + 6 ≤ _), (by decide : 0 + 12 ≤ _)⟩)
  dsimp only [Pt.U, Pt.locs, Pt.cells, Pt.slots] at X323' l323 y323 z323 st323 hQ323 hS323' hz323' ch323
  subst l323 y323 z323
  obtain ⟨xr_323, tt_323, kt_323, nn_323, vs_323, rfl, Nq323, K323, f323_0, f323_1, f323_2, f323_3, f323_4, f323_5⟩ := hQ323
  have N323 := Fr.app N0 Nq323
  obtain ⟨X323, hS323, hZ323, hown323⟩ := rebS hS0 (by rw [e307]; exact hk0) X323' hS323' hz323' hZ0 hown0
  have CR324 : CHr Z [("java/lang/String", 7)] s.vm h0 T323.vm T323.heap := CR0.trans ch323
  have c325 : Old Z n0 T323.heap := (q2.keep K323 all0)
  obtain ⟨_, _, ⟨T326, L326, k326, n326⟩, -, X326', hS326', hz326', ⟨Lc326, hQ326, l326, y326, z326, ch326⟩, st326⟩ := callSS X323 hx (y := (⟨"com/example/confluens/confluens/RuleTokenIsPinLaw", "mk", "(ICC)Ljava/lang/String;"⟩ : MethodName)) hown323 (mvT hZ323 (hw _ (List.mem_of_getElem? (i := 4) rfl))) (mvT hZ323 (hw _ (List.mem_of_getElem? (i := 5) rfl))) (mvT hZ323 (hw _ (List.mem_of_getElem? (i := 6) rfl))) (mvT hZ323 (hw _ (List.mem_of_getElem? (i := 7) rfl))) (by decide) (backOfSH (W := 0) (rm_make l Z a0 hw [] lb s0 s1 G T323.heap n0 (Nat.le_trans Z0 K323.1) q0 hCS c325 (hlb) (hs0.1) (hs1.1) (hs0.2) (hs1.2)) hZ323 (hw _ (List.mem_of_getElem? (i := 7) rfl)) (hw _ (List.mem_of_getElem? (i := 6) rfl)) (by decide) (by decide) (own_EW hw) CR324.1) (g := (mkF m 164 #[.val (.int i0), .val (.int i1), .val (.int i2), .val (.int i3), .val (.int sel), .val (.ref kr), .val (.int t0), .val (.int t1), .val (.int la), .val (.int s0), .val (.int s1), .val (.int lb), .val (.ref xr_323), .unset, .unset, .unset] [(.int s1), (.int s0), (.int lb)])) rfl (by rw [hml]; rfl) (argsL := [(.int lb), (.int s0), (.int s1)]) (rest := []) (lenOf pd_7 rfl) rfl (by show 2 * 0 + _ ≤ _; exact Nat.le_of_eq rfl) (hb hby at_164) (fun _ _ => ⟨rfl, rfl, (by decide : 6 + 6 ≤ _), (by decide : 12 + 12 ≤ _)⟩)
  dsimp only [Pt.U, Pt.locs, Pt.cells, Pt.slots] at X326' l326 y326 z326 st326 hQ326 hS326' hz326' ch326
  subst l326 y326 z326
  obtain ⟨xr_326, tt_326, kt_326, nn_326, vs_326, rfl, Nq326, K326, f326_0, f326_1, f326_2, f326_3, f326_4, f326_5⟩ := hQ326
  have N326 := Fr.app N323 Nq326
  obtain ⟨X326, hS326, hZ326, hown326⟩ := rebS hS323 (Nat.le_refl _) X326' hS326' hz326' hZ323 hown323
  have CR327 : CHr Z [("java/lang/String", 7)] s.vm h0 T326.vm T326.heap := CR324.trans ch326
  obtain ⟨T328, h328, X328, e328, E328, A328, D328, -, st328⟩ := newO X326 hx hZ326 hown326 (hw _ (List.mem_of_getElem? (i := 30) rfl)) (hw _ (List.mem_of_getElem? (i := 31) rfl)) (hw _ (List.mem_of_getElem? (i := 32) rfl)) rfl (g := (mkF m 169 #[.val (.int i0), .val (.int i1), .val (.int i2), .val (.int i3), .val (.int sel), .val (.ref kr), .val (.int t0), .val (.int t1), .val (.int la), .val (.int s0), .val (.int s1), .val (.int lb), .val (.ref xr_323), .val (.ref xr_326), .unset, .unset] [])) rfl (hb hby at_169) (by decide) (by decide)
  obtain ⟨b328, g328⟩ : ∃ z, z = T326.heap.size := ⟨_, rfl⟩
  rw [← g328] at A328 D328 st328
  have D328_kind : Fld Z h328 b328 "com/example/confluens/confluens/RuleToken" "kind" "Lcom/example/confluens/confluens/RuleToken$Kind;" .null := D328 (Or.inr (hw _ (List.mem_of_getElem? (i := 38) rfl))) (ty := (.object "com/example/confluens/confluens/RuleToken$Kind")) (by decide)
  have D328_text : Fld Z h328 b328 "com/example/confluens/confluens/RuleToken" "text" "Ljava/lang/String;" .null := D328 (Or.inr (hw _ (List.mem_of_getElem? (i := 40) rfl))) (ty := (.object "java/lang/String")) (by decide)
  have D328_line : Fld Z h328 b328 "com/example/confluens/confluens/RuleToken" "line" "I" (.int (0 : Int32)) := D328 (Or.inr (hw _ (List.mem_of_getElem? (i := 42) rfl))) (ty := .int) (by decide)
  have ge329 : n0 ≤ b328 := Nat.le_trans Z0 (Nat.le_trans (Nat.le_trans K323.1 K326.1) (Nat.le_of_eq g328.symm))
  obtain ⟨_, _, ⟨T330, L330, k330, n330⟩, -, X330, ⟨Lc330, hQ330, l330, y330, z330⟩, st330⟩ := X328.specialBack hx (y := (⟨"com/example/confluens/confluens/RuleToken", "<init>", "(Lcom/example/confluens/confluens/RuleToken$Kind;Ljava/lang/String;I)V"⟩ : MethodName)) rfl hown326 (mvT hZ326 (hw _ (List.mem_of_getElem? (i := 33) rfl))) (mvT hZ326 (hw _ (List.mem_of_getElem? (i := 34) rfl))) (mvT hZ326 (hw _ (List.mem_of_getElem? (i := 35) rfl))) (by decide) (backOf (W := 1) (rm_tokI l Z a0 hw [] b328 kr xr_323 i3 h328 n0 (Nat.le_trans Z0 (Nat.le_trans (Nat.le_trans K323.1 K326.1) E328.1)) A328 D328_kind D328_text D328_line ge329) hZ326 (hw _ (List.mem_of_getElem? (i := 35) rfl)) (hw _ (List.mem_of_getElem? (i := 32) rfl)) (by decide) (by decide)) (g := (mkF m 178 #[.val (.int i0), .val (.int i1), .val (.int i2), .val (.int i3), .val (.int sel), .val (.ref kr), .val (.int t0), .val (.int t1), .val (.int la), .val (.int s0), .val (.int s1), .val (.int lb), .val (.ref xr_323), .val (.ref xr_326), .unset, .unset] [(.int i3), (.ref xr_323), (.ref kr), (.ref b328), (.ref b328)])) rfl (by rw [hml]; rfl) (Steps.refl _) (a := b328) (argsL := [(.ref kr), (.ref xr_323), (.int i3)]) (rest := [(.ref b328)]) (lenOf pd_8 rfl) rfl (by show 2 * 0 + _ ≤ _; exact Nat.le_of_eq rfl) (hb hby at_178) (fun _ _ => ⟨rfl, e328, (by decide : 13 + 0 ≤ _), (by decide : 27 + 0 ≤ _)⟩)
  dsimp only [Pt.U, Pt.locs, Pt.cells, Pt.slots] at X330 l330 y330 z330 st330 hQ330
  subst l330 y330 z330
  obtain ⟨rfl, Nq330, K330, f330_0, f330_1⟩ := hQ330
  have N330 := Fr.app N326 Nq330
  have pre331 : ∀ t, Steps p.tables e below (T330.setTop (mkF m 185 #[.val (.int i0), .val (.int i1), .val (.int i2), .val (.int i3), .val (.int sel), .val (.ref kr), .val (.int t0), .val (.int t1), .val (.int la), .val (.int s0), .val (.int s1), .val (.int lb), .val (.ref xr_323), .val (.ref xr_326), .val (.ref b328), .unset] [(.int sel)])) t → Steps p.tables e below (s₁.setTop (entryFrame m #[(.int i0), (.int i1), (.int i2), (.int i3)] maxLocals)) t := fun t kk => pre320 t (by
    refine XS.iload X307.here hx rfl (hb hby at_147) rfl ?_
    show Steps p.tables e below (T307.setTop (mkF m 149 #[.val (.int i0), .val (.int i1), .val (.int i2), .val (.int i3), .val (.int sel), .val (.ref kr), .val (.int t0), .val (.int t1), .val (.int la), .val (.int s0), .val (.int s1), .val (.int lb), .unset, .unset, .unset, .unset] [(.int la)])) _
    refine XS.iload X307.here hx rfl (hb hby at_149) rfl ?_
    show Steps p.tables e below (T307.setTop (mkF m 151 #[.val (.int i0), .val (.int i1), .val (.int i2), .val (.int i3), .val (.int sel), .val (.ref kr), .val (.int t0), .val (.int t1), .val (.int la), .val (.int s0), .val (.int s1), .val (.int lb), .unset, .unset, .unset, .unset] [(.int t0), (.int la)])) _
    refine XS.iload X307.here hx rfl (hb hby at_151) rfl ?_
    show Steps p.tables e below (T307.setTop (mkF m 153 #[.val (.int i0), .val (.int i1), .val (.int i2), .val (.int i3), .val (.int sel), .val (.ref kr), .val (.int t0), .val (.int t1), .val (.int la), .val (.int s0), .val (.int s1), .val (.int lb), .unset, .unset, .unset, .unset] [(.int t1), (.int t0), (.int la)])) _
    refine st323.trans ?_
    show Steps p.tables e below (T323.setTop (mkF m 156 #[.val (.int i0), .val (.int i1), .val (.int i2), .val (.int i3), .val (.int sel), .val (.ref kr), .val (.int t0), .val (.int t1), .val (.int la), .val (.int s0), .val (.int s1), .val (.int lb), .unset, .unset, .unset, .unset] [(.ref xr_323)])) _
    refine XS.astore X323.here hx rfl (hb hby at_156) rfl rfl (l' := #[.val (.int i0), .val (.int i1), .val (.int i2), .val (.int i3), .val (.int sel), .val (.ref kr), .val (.int t0), .val (.int t1), .val (.int la), .val (.int s0), .val (.int s1), .val (.int lb), .val (.ref xr_323), .unset, .unset, .unset]) rfl ?_
    show Steps p.tables e below (T323.setTop (mkF m 158 #[.val (.int i0), .val (.int i1), .val (.int i2), .val (.int i3), .val (.int sel), .val (.ref kr), .val (.int t0), .val (.int t1), .val (.int la), .val (.int s0), .val (.int s1), .val (.int lb), .val (.ref xr_323), .unset, .unset, .unset] [])) _
    refine XS.iload X323.here hx rfl (hb hby at_158) rfl ?_
    show Steps p.tables e below (T323.setTop (mkF m 160 #[.val (.int i0), .val (.int i1), .val (.int i2), .val (.int i3), .val (.int sel), .val (.ref kr), .val (.int t0), .val (.int t1), .val (.int la), .val (.int s0), .val (.int s1), .val (.int lb), .val (.ref xr_323), .unset, .unset, .unset] [(.int lb)])) _
    refine XS.iload X323.here hx rfl (hb hby at_160) rfl ?_
    show Steps p.tables e below (T323.setTop (mkF m 162 #[.val (.int i0), .val (.int i1), .val (.int i2), .val (.int i3), .val (.int sel), .val (.ref kr), .val (.int t0), .val (.int t1), .val (.int la), .val (.int s0), .val (.int s1), .val (.int lb), .val (.ref xr_323), .unset, .unset, .unset] [(.int s0), (.int lb)])) _
    refine XS.iload X323.here hx rfl (hb hby at_162) rfl ?_
    show Steps p.tables e below (T323.setTop (mkF m 164 #[.val (.int i0), .val (.int i1), .val (.int i2), .val (.int i3), .val (.int sel), .val (.ref kr), .val (.int t0), .val (.int t1), .val (.int la), .val (.int s0), .val (.int s1), .val (.int lb), .val (.ref xr_323), .unset, .unset, .unset] [(.int s1), (.int s0), (.int lb)])) _
    refine st326.trans ?_
    show Steps p.tables e below (T326.setTop (mkF m 167 #[.val (.int i0), .val (.int i1), .val (.int i2), .val (.int i3), .val (.int sel), .val (.ref kr), .val (.int t0), .val (.int t1), .val (.int la), .val (.int s0), .val (.int s1), .val (.int lb), .val (.ref xr_323), .unset, .unset, .unset] [(.ref xr_326)])) _
    refine XS.astore X326.here hx rfl (hb hby at_167) rfl rfl (l' := #[.val (.int i0), .val (.int i1), .val (.int i2), .val (.int i3), .val (.int sel), .val (.ref kr), .val (.int t0), .val (.int t1), .val (.int la), .val (.int s0), .val (.int s1), .val (.int lb), .val (.ref xr_323), .val (.ref xr_326), .unset, .unset]) rfl ?_
    show Steps p.tables e below (T326.setTop (mkF m 169 #[.val (.int i0), .val (.int i1), .val (.int i2), .val (.int i3), .val (.int sel), .val (.ref kr), .val (.int t0), .val (.int t1), .val (.int la), .val (.int s0), .val (.int s1), .val (.int lb), .val (.ref xr_323), .val (.ref xr_326), .unset, .unset] [])) _
    refine st328 _ ?_
    show Steps p.tables e below (T328.setTop (mkF m 172 #[.val (.int i0), .val (.int i1), .val (.int i2), .val (.int i3), .val (.int sel), .val (.ref kr), .val (.int t0), .val (.int t1), .val (.int la), .val (.int s0), .val (.int s1), .val (.int lb), .val (.ref xr_323), .val (.ref xr_326), .unset, .unset] [(.ref b328)])) _
    refine XS.dup X328.here hx rfl (hb hby at_172) rfl rfl ?_
    show Steps p.tables e below (T328.setTop (mkF m 173 #[.val (.int i0), .val (.int i1), .val (.int i2), .val (.int i3), .val (.int sel), .val (.ref kr), .val (.int t0), .val (.int t1), .val (.int la), .val (.int s0), .val (.int s1), .val (.int lb), .val (.ref xr_323), .val (.ref xr_326), .unset, .unset] [(.ref b328), (.ref b328)])) _
    refine XS.aload X328.here hx rfl (hb hby at_173) rfl rfl ?_
    show Steps p.tables e below (T328.setTop (mkF m 175 #[.val (.int i0), .val (.int i1), .val (.int i2), .val (.int i3), .val (.int sel), .val (.ref kr), .val (.int t0), .val (.int t1), .val (.int la), .val (.int s0), .val (.int s1), .val (.int lb), .val (.ref xr_323), .val (.ref xr_326), .unset, .unset] [(.ref kr), (.ref b328), (.ref b328)])) _
    refine XS.aload X328.here hx rfl (hb hby at_175) rfl rfl ?_
    show Steps p.tables e below (T328.setTop (mkF m 177 #[.val (.int i0), .val (.int i1), .val (.int i2), .val (.int i3), .val (.int sel), .val (.ref kr), .val (.int t0), .val (.int t1), .val (.int la), .val (.int s0), .val (.int s1), .val (.int lb), .val (.ref xr_323), .val (.ref xr_326), .unset, .unset] [(.ref xr_323), (.ref kr), (.ref b328), (.ref b328)])) _
    refine XS.iloadN X328.here hx rfl (hb hby at_177) rfl ?_
    show Steps p.tables e below (T328.setTop (mkF m 178 #[.val (.int i0), .val (.int i1), .val (.int i2), .val (.int i3), .val (.int sel), .val (.ref kr), .val (.int t0), .val (.int t1), .val (.int la), .val (.int s0), .val (.int s1), .val (.int lb), .val (.ref xr_323), .val (.ref xr_326), .unset, .unset] [(.int i3), (.ref xr_323), (.ref kr), (.ref b328), (.ref b328)])) _
    refine st330.trans ?_
    show Steps p.tables e below (T330.setTop (mkF m 181 #[.val (.int i0), .val (.int i1), .val (.int i2), .val (.int i3), .val (.int sel), .val (.ref kr), .val (.int t0), .val (.int t1), .val (.int la), .val (.int s0), .val (.int s1), .val (.int lb), .val (.ref xr_323), .val (.ref xr_326), .unset, .unset] [(.ref b328)])) _
    refine XS.astore X330.here hx rfl (hb hby at_181) rfl rfl (l' := #[.val (.int i0), .val (.int i1), .val (.int i2), .val (.int i3), .val (.int sel), .val (.ref kr), .val (.int t0), .val (.int t1), .val (.int la), .val (.int s0), .val (.int s1), .val (.int lb), .val (.ref xr_323), .val (.ref xr_326), .val (.ref b328), .unset]) rfl ?_
    show Steps p.tables e below (T330.setTop (mkF m 183 #[.val (.int i0), .val (.int i1), .val (.int i2), .val (.int i3), .val (.int sel), .val (.ref kr), .val (.int t0), .val (.int t1), .val (.int la), .val (.int s0), .val (.int s1), .val (.int lb), .val (.ref xr_323), .val (.ref xr_326), .val (.ref b328), .unset] [])) _
    refine XS.iload X330.here hx rfl (hb hby at_183) rfl ?_
    show Steps p.tables e below (T330.setTop (mkF m 185 #[.val (.int i0), .val (.int i1), .val (.int i2), .val (.int i3), .val (.int sel), .val (.ref kr), .val (.int t0), .val (.int t1), .val (.int la), .val (.int s0), .val (.int s1), .val (.int lb), .val (.ref xr_323), .val (.ref xr_326), .val (.ref b328), .unset] [(.int sel)])) _
    exact kk)
  obtain ⟨ev, hev, pre332⟩ : ∃ ev : Int32, ev = (if (sel = (0 : Int32) ∨ sel = (3 : Int32)) ∧ la = lb ∧ (la < (1 : Int32) ∨ t0 = s0) ∧ (la < (2 : Int32) ∨ t1 = s1) then (1 : Int32) else (0 : Int32)) ∧ ∀ t, Steps p.tables e below (T330.setTop (mkF m 232 #[.val (.int i0), .val (.int i1), .val (.int i2), .val (.int i3), .val (.int sel), .val (.ref kr), .val (.int t0), .val (.int t1), .val (.int la), .val (.int s0), .val (.int s1), .val (.int lb), .val (.ref xr_323), .val (.ref xr_326), .val (.ref b328), .unset] [(.int ev)])) t → Steps p.tables e below (s₁.setTop (entryFrame m #[(.int i0), (.int i1), (.int i2), (.int i3)] maxLocals)) t := by
    skip
    · by_cases g0 : sel = (0 : Int32)
      · have pre333 : ∀ t, Steps p.tables e below (T330.setTop (mkF m 198 #[.val (.int i0), .val (.int i1), .val (.int i2), .val (.int i3), .val (.int sel), .val (.ref kr), .val (.int t0), .val (.int t1), .val (.int la), .val (.int s0), .val (.int s1), .val (.int lb), .val (.ref xr_323), .val (.ref xr_326), .val (.ref b328), .unset] [(.int lb), (.int la)])) t → Steps p.tables e below (s₁.setTop (entryFrame m #[(.int i0), (.int i1), (.int i2), (.int i3)] maxLocals)) t := fun t kk => pre331 t (by
          refine XS.ifYes X330.here hx rfl (pc0 := 185) (pc' := 194) rfl (hb hby at_185) rfl ((if0 _ _).trans (teq (g0 : sel = (0 : Int32))).1) (by decide) (by decide) ?_
          show Steps p.tables e below (T330.setTop (mkF m 194 #[.val (.int i0), .val (.int i1), .val (.int i2), .val (.int i3), .val (.int sel), .val (.ref kr), .val (.int t0), .val (.int t1), .val (.int la), .val (.int s0), .val (.int s1), .val (.int lb), .val (.ref xr_323), .val (.ref xr_326), .val (.ref b328), .unset] [])) _
          refine XS.iload X330.here hx rfl (hb hby at_194) rfl ?_
          show Steps p.tables e below (T330.setTop (mkF m 196 #[.val (.int i0), .val (.int i1), .val (.int i2), .val (.int i3), .val (.int sel), .val (.ref kr), .val (.int t0), .val (.int t1), .val (.int la), .val (.int s0), .val (.int s1), .val (.int lb), .val (.ref xr_323), .val (.ref xr_326), .val (.ref b328), .unset] [(.int la)])) _
          refine XS.iload X330.here hx rfl (hb hby at_196) rfl ?_
          show Steps p.tables e below (T330.setTop (mkF m 198 #[.val (.int i0), .val (.int i1), .val (.int i2), .val (.int i3), .val (.int sel), .val (.ref kr), .val (.int t0), .val (.int t1), .val (.int la), .val (.int s0), .val (.int s1), .val (.int lb), .val (.ref xr_323), .val (.ref xr_326), .val (.ref b328), .unset] [(.int lb), (.int la)])) _
          exact kk)
        by_cases g2 : la = lb
        · have pre335 : ∀ t, Steps p.tables e below (T330.setTop (mkF m 204 #[.val (.int i0), .val (.int i1), .val (.int i2), .val (.int i3), .val (.int sel), .val (.ref kr), .val (.int t0), .val (.int t1), .val (.int la), .val (.int s0), .val (.int s1), .val (.int lb), .val (.ref xr_323), .val (.ref xr_326), .val (.ref b328), .unset] [(.int (1 : Int32)), (.int la)])) t → Steps p.tables e below (s₁.setTop (entryFrame m #[(.int i0), (.int i1), (.int i2), (.int i3)] maxLocals)) t := fun t kk => pre333 t (by
            refine XS.icmpNo X330.here hx rfl (hb hby at_198) rfl (teq (g2 : la = lb)).2 ?_
            show Steps p.tables e below (T330.setTop (mkF m 201 #[.val (.int i0), .val (.int i1), .val (.int i2), .val (.int i3), .val (.int sel), .val (.ref kr), .val (.int t0), .val (.int t1), .val (.int la), .val (.int s0), .val (.int s1), .val (.int lb), .val (.ref xr_323), .val (.ref xr_326), .val (.ref b328), .unset] [])) _
            refine XS.iload X330.here hx rfl (hb hby at_201) rfl ?_
            show Steps p.tables e below (T330.setTop (mkF m 203 #[.val (.int i0), .val (.int i1), .val (.int i2), .val (.int i3), .val (.int sel), .val (.ref kr), .val (.int t0), .val (.int t1), .val (.int la), .val (.int s0), .val (.int s1), .val (.int lb), .val (.ref xr_323), .val (.ref xr_326), .val (.ref b328), .unset] [(.int la)])) _
            refine XS.iconst X330.here hx rfl (hb hby at_203) ?_
            show Steps p.tables e below (T330.setTop (mkF m 204 #[.val (.int i0), .val (.int i1), .val (.int i2), .val (.int i3), .val (.int sel), .val (.ref kr), .val (.int t0), .val (.int t1), .val (.int la), .val (.int s0), .val (.int s1), .val (.int lb), .val (.ref xr_323), .val (.ref xr_326), .val (.ref b328), .unset] [(.int (1 : Int32)), (.int la)])) _
            exact kk)
          by_cases g3 : la < (1 : Int32)
          · have pre336 : ∀ t, Steps p.tables e below (T330.setTop (mkF m 232 #[.val (.int i0), .val (.int i1), .val (.int i2), .val (.int i3), .val (.int sel), .val (.ref kr), .val (.int t0), .val (.int t1), .val (.int la), .val (.int s0), .val (.int s1), .val (.int lb), .val (.ref xr_323), .val (.ref xr_326), .val (.ref b328), .unset] [(.int (1 : Int32))])) t → Steps p.tables e below (s₁.setTop (entryFrame m #[(.int i0), (.int i1), (.int i2), (.int i3)] maxLocals)) t := fun t kk => pre335 t (by
              refine XS.icmpYes X330.here hx rfl (pc0 := 204) (pc' := 214) rfl (hb hby at_204) rfl (tlt (g3 : la < (1 : Int32))).1 (by decide) (by decide) ?_
              show Steps p.tables e below (T330.setTop (mkF m 214 #[.val (.int i0), .val (.int i1), .val (.int i2), .val (.int i3), .val (.int sel), .val (.ref kr), .val (.int t0), .val (.int t1), .val (.int la), .val (.int s0), .val (.int s1), .val (.int lb), .val (.ref xr_323), .val (.ref xr_326), .val (.ref b328), .unset] [])) _
              refine XS.iload X330.here hx rfl (hb hby at_214) rfl ?_
              show Steps p.tables e below (T330.setTop (mkF m 216 #[.val (.int i0), .val (.int i1), .val (.int i2), .val (.int i3), .val (.int sel), .val (.ref kr), .val (.int t0), .val (.int t1), .val (.int la), .val (.int s0), .val (.int s1), .val (.int lb), .val (.ref xr_323), .val (.ref xr_326), .val (.ref b328), .unset] [(.int la)])) _
              refine XS.iconst X330.here hx rfl (hb hby at_216) ?_
              show Steps p.tables e below (T330.setTop (mkF m 217 #[.val (.int i0), .val (.int i1), .val (.int i2), .val (.int i3), .val (.int sel), .val (.ref kr), .val (.int t0), .val (.int t1), .val (.int la), .val (.int s0), .val (.int s1), .val (.int lb), .val (.ref xr_323), .val (.ref xr_326), .val (.ref b328), .unset] [(.int (2 : Int32)), (.int la)])) _
              refine XS.icmpYes X330.here hx rfl (pc0 := 217) (pc' := 227) rfl (hb hby at_217) rfl (tlt (own_lt12 g3 : la < (2 : Int32))).1 (by decide) (by decide) ?_
              show Steps p.tables e below (T330.setTop (mkF m 227 #[.val (.int i0), .val (.int i1), .val (.int i2), .val (.int i3), .val (.int sel), .val (.ref kr), .val (.int t0), .val (.int t1), .val (.int la), .val (.int s0), .val (.int s1), .val (.int lb), .val (.ref xr_323), .val (.ref xr_326), .val (.ref b328), .unset] [])) _
              refine XS.iconst X330.here hx rfl (hb hby at_227) ?_
              show Steps p.tables e below (T330.setTop (mkF m 228 #[.val (.int i0), .val (.int i1), .val (.int i2), .val (.int i3), .val (.int sel), .val (.ref kr), .val (.int t0), .val (.int t1), .val (.int la), .val (.int s0), .val (.int s1), .val (.int lb), .val (.ref xr_323), .val (.ref xr_326), .val (.ref b328), .unset] [(.int (1 : Int32))])) _
              refine XS.goto X330.here hx rfl (pc0 := 228) (pc' := 232) rfl (hb hby at_228) (by decide) (by decide) ?_
              show Steps p.tables e below (T330.setTop (mkF m 232 #[.val (.int i0), .val (.int i1), .val (.int i2), .val (.int i3), .val (.int sel), .val (.ref kr), .val (.int t0), .val (.int t1), .val (.int la), .val (.int s0), .val (.int s1), .val (.int lb), .val (.ref xr_323), .val (.ref xr_326), .val (.ref b328), .unset] [(.int (1 : Int32))])) _
              exact kk)
            exact ⟨(1 : Int32), by simp [g0, g2, (g2 ▸ g3 : lb < (1 : Int32)), own_lt12 (g2 ▸ g3 : lb < (1 : Int32))], pre336⟩
          · have pre337 : ∀ t, Steps p.tables e below (T330.setTop (mkF m 211 #[.val (.int i0), .val (.int i1), .val (.int i2), .val (.int i3), .val (.int sel), .val (.ref kr), .val (.int t0), .val (.int t1), .val (.int la), .val (.int s0), .val (.int s1), .val (.int lb), .val (.ref xr_323), .val (.ref xr_326), .val (.ref b328), .unset] [(.int s0), (.int t0)])) t → Steps p.tables e below (s₁.setTop (entryFrame m #[(.int i0), (.int i1), (.int i2), (.int i3)] maxLocals)) t := fun t kk => pre335 t (by
              refine XS.icmpNo X330.here hx rfl (hb hby at_204) rfl (flt (g3 : ¬ (la < (1 : Int32)))).1 ?_
              show Steps p.tables e below (T330.setTop (mkF m 207 #[.val (.int i0), .val (.int i1), .val (.int i2), .val (.int i3), .val (.int sel), .val (.ref kr), .val (.int t0), .val (.int t1), .val (.int la), .val (.int s0), .val (.int s1), .val (.int lb), .val (.ref xr_323), .val (.ref xr_326), .val (.ref b328), .unset] [])) _
              refine XS.iload X330.here hx rfl (hb hby at_207) rfl ?_
              show Steps p.tables e below (T330.setTop (mkF m 209 #[.val (.int i0), .val (.int i1), .val (.int i2), .val (.int i3), .val (.int sel), .val (.ref kr), .val (.int t0), .val (.int t1), .val (.int la), .val (.int s0), .val (.int s1), .val (.int lb), .val (.ref xr_323), .val (.ref xr_326), .val (.ref b328), .unset] [(.int t0)])) _
              refine XS.iload X330.here hx rfl (hb hby at_209) rfl ?_
              show Steps p.tables e below (T330.setTop (mkF m 211 #[.val (.int i0), .val (.int i1), .val (.int i2), .val (.int i3), .val (.int sel), .val (.ref kr), .val (.int t0), .val (.int t1), .val (.int la), .val (.int s0), .val (.int s1), .val (.int lb), .val (.ref xr_323), .val (.ref xr_326), .val (.ref b328), .unset] [(.int s0), (.int t0)])) _
              exact kk)
            by_cases g4 : t0 = s0
            · have pre339 : ∀ t, Steps p.tables e below (T330.setTop (mkF m 217 #[.val (.int i0), .val (.int i1), .val (.int i2), .val (.int i3), .val (.int sel), .val (.ref kr), .val (.int t0), .val (.int t1), .val (.int la), .val (.int s0), .val (.int s1), .val (.int lb), .val (.ref xr_323), .val (.ref xr_326), .val (.ref b328), .unset] [(.int (2 : Int32)), (.int la)])) t → Steps p.tables e below (s₁.setTop (entryFrame m #[(.int i0), (.int i1), (.int i2), (.int i3)] maxLocals)) t := fun t kk => pre337 t (by
                refine XS.icmpNo X330.here hx rfl (hb hby at_211) rfl (teq (g4 : t0 = s0)).2 ?_
                show Steps p.tables e below (T330.setTop (mkF m 214 #[.val (.int i0), .val (.int i1), .val (.int i2), .val (.int i3), .val (.int sel), .val (.ref kr), .val (.int t0), .val (.int t1), .val (.int la), .val (.int s0), .val (.int s1), .val (.int lb), .val (.ref xr_323), .val (.ref xr_326), .val (.ref b328), .unset] [])) _
                refine XS.iload X330.here hx rfl (hb hby at_214) rfl ?_
                show Steps p.tables e below (T330.setTop (mkF m 216 #[.val (.int i0), .val (.int i1), .val (.int i2), .val (.int i3), .val (.int sel), .val (.ref kr), .val (.int t0), .val (.int t1), .val (.int la), .val (.int s0), .val (.int s1), .val (.int lb), .val (.ref xr_323), .val (.ref xr_326), .val (.ref b328), .unset] [(.int la)])) _
                refine XS.iconst X330.here hx rfl (hb hby at_216) ?_
                show Steps p.tables e below (T330.setTop (mkF m 217 #[.val (.int i0), .val (.int i1), .val (.int i2), .val (.int i3), .val (.int sel), .val (.ref kr), .val (.int t0), .val (.int t1), .val (.int la), .val (.int s0), .val (.int s1), .val (.int lb), .val (.ref xr_323), .val (.ref xr_326), .val (.ref b328), .unset] [(.int (2 : Int32)), (.int la)])) _
                exact kk)
              by_cases g5 : la < (2 : Int32)
              · have pre340 : ∀ t, Steps p.tables e below (T330.setTop (mkF m 232 #[.val (.int i0), .val (.int i1), .val (.int i2), .val (.int i3), .val (.int sel), .val (.ref kr), .val (.int t0), .val (.int t1), .val (.int la), .val (.int s0), .val (.int s1), .val (.int lb), .val (.ref xr_323), .val (.ref xr_326), .val (.ref b328), .unset] [(.int (1 : Int32))])) t → Steps p.tables e below (s₁.setTop (entryFrame m #[(.int i0), (.int i1), (.int i2), (.int i3)] maxLocals)) t := fun t kk => pre339 t (by
                  refine XS.icmpYes X330.here hx rfl (pc0 := 217) (pc' := 227) rfl (hb hby at_217) rfl (tlt (g5 : la < (2 : Int32))).1 (by decide) (by decide) ?_
                  show Steps p.tables e below (T330.setTop (mkF m 227 #[.val (.int i0), .val (.int i1), .val (.int i2), .val (.int i3), .val (.int sel), .val (.ref kr), .val (.int t0), .val (.int t1), .val (.int la), .val (.int s0), .val (.int s1), .val (.int lb), .val (.ref xr_323), .val (.ref xr_326), .val (.ref b328), .unset] [])) _
                  refine XS.iconst X330.here hx rfl (hb hby at_227) ?_
                  show Steps p.tables e below (T330.setTop (mkF m 228 #[.val (.int i0), .val (.int i1), .val (.int i2), .val (.int i3), .val (.int sel), .val (.ref kr), .val (.int t0), .val (.int t1), .val (.int la), .val (.int s0), .val (.int s1), .val (.int lb), .val (.ref xr_323), .val (.ref xr_326), .val (.ref b328), .unset] [(.int (1 : Int32))])) _
                  refine XS.goto X330.here hx rfl (pc0 := 228) (pc' := 232) rfl (hb hby at_228) (by decide) (by decide) ?_
                  show Steps p.tables e below (T330.setTop (mkF m 232 #[.val (.int i0), .val (.int i1), .val (.int i2), .val (.int i3), .val (.int sel), .val (.ref kr), .val (.int t0), .val (.int t1), .val (.int la), .val (.int s0), .val (.int s1), .val (.int lb), .val (.ref xr_323), .val (.ref xr_326), .val (.ref b328), .unset] [(.int (1 : Int32))])) _
                  exact kk)
                exact ⟨(1 : Int32), by simp [g0, g2, g4, (g2 ▸ g5 : lb < (2 : Int32))], pre340⟩
              · have pre341 : ∀ t, Steps p.tables e below (T330.setTop (mkF m 224 #[.val (.int i0), .val (.int i1), .val (.int i2), .val (.int i3), .val (.int sel), .val (.ref kr), .val (.int t0), .val (.int t1), .val (.int la), .val (.int s0), .val (.int s1), .val (.int lb), .val (.ref xr_323), .val (.ref xr_326), .val (.ref b328), .unset] [(.int s1), (.int t1)])) t → Steps p.tables e below (s₁.setTop (entryFrame m #[(.int i0), (.int i1), (.int i2), (.int i3)] maxLocals)) t := fun t kk => pre339 t (by
                  refine XS.icmpNo X330.here hx rfl (hb hby at_217) rfl (flt (g5 : ¬ (la < (2 : Int32)))).1 ?_
                  show Steps p.tables e below (T330.setTop (mkF m 220 #[.val (.int i0), .val (.int i1), .val (.int i2), .val (.int i3), .val (.int sel), .val (.ref kr), .val (.int t0), .val (.int t1), .val (.int la), .val (.int s0), .val (.int s1), .val (.int lb), .val (.ref xr_323), .val (.ref xr_326), .val (.ref b328), .unset] [])) _
                  refine XS.iload X330.here hx rfl (hb hby at_220) rfl ?_
                  show Steps p.tables e below (T330.setTop (mkF m 222 #[.val (.int i0), .val (.int i1), .val (.int i2), .val (.int i3), .val (.int sel), .val (.ref kr), .val (.int t0), .val (.int t1), .val (.int la), .val (.int s0), .val (.int s1), .val (.int lb), .val (.ref xr_323), .val (.ref xr_326), .val (.ref b328), .unset] [(.int t1)])) _
                  refine XS.iload X330.here hx rfl (hb hby at_222) rfl ?_
                  show Steps p.tables e below (T330.setTop (mkF m 224 #[.val (.int i0), .val (.int i1), .val (.int i2), .val (.int i3), .val (.int sel), .val (.ref kr), .val (.int t0), .val (.int t1), .val (.int la), .val (.int s0), .val (.int s1), .val (.int lb), .val (.ref xr_323), .val (.ref xr_326), .val (.ref b328), .unset] [(.int s1), (.int t1)])) _
                  exact kk)
                by_cases g6 : t1 = s1
                · have pre343 : ∀ t, Steps p.tables e below (T330.setTop (mkF m 232 #[.val (.int i0), .val (.int i1), .val (.int i2), .val (.int i3), .val (.int sel), .val (.ref kr), .val (.int t0), .val (.int t1), .val (.int la), .val (.int s0), .val (.int s1), .val (.int lb), .val (.ref xr_323), .val (.ref xr_326), .val (.ref b328), .unset] [(.int (1 : Int32))])) t → Steps p.tables e below (s₁.setTop (entryFrame m #[(.int i0), (.int i1), (.int i2), (.int i3)] maxLocals)) t := fun t kk => pre341 t (by
                    refine XS.icmpNo X330.here hx rfl (hb hby at_224) rfl (teq (g6 : t1 = s1)).2 ?_
                    show Steps p.tables e below (T330.setTop (mkF m 227 #[.val (.int i0), .val (.int i1), .val (.int i2), .val (.int i3), .val (.int sel), .val (.ref kr), .val (.int t0), .val (.int t1), .val (.int la), .val (.int s0), .val (.int s1), .val (.int lb), .val (.ref xr_323), .val (.ref xr_326), .val (.ref b328), .unset] [])) _
                    refine XS.iconst X330.here hx rfl (hb hby at_227) ?_
                    show Steps p.tables e below (T330.setTop (mkF m 228 #[.val (.int i0), .val (.int i1), .val (.int i2), .val (.int i3), .val (.int sel), .val (.ref kr), .val (.int t0), .val (.int t1), .val (.int la), .val (.int s0), .val (.int s1), .val (.int lb), .val (.ref xr_323), .val (.ref xr_326), .val (.ref b328), .unset] [(.int (1 : Int32))])) _
                    refine XS.goto X330.here hx rfl (pc0 := 228) (pc' := 232) rfl (hb hby at_228) (by decide) (by decide) ?_
                    show Steps p.tables e below (T330.setTop (mkF m 232 #[.val (.int i0), .val (.int i1), .val (.int i2), .val (.int i3), .val (.int sel), .val (.ref kr), .val (.int t0), .val (.int t1), .val (.int la), .val (.int s0), .val (.int s1), .val (.int lb), .val (.ref xr_323), .val (.ref xr_326), .val (.ref b328), .unset] [(.int (1 : Int32))])) _
                    exact kk)
                  exact ⟨(1 : Int32), by simp [g0, g2, g4, g6], pre343⟩
                · have pre342 : ∀ t, Steps p.tables e below (T330.setTop (mkF m 232 #[.val (.int i0), .val (.int i1), .val (.int i2), .val (.int i3), .val (.int sel), .val (.ref kr), .val (.int t0), .val (.int t1), .val (.int la), .val (.int s0), .val (.int s1), .val (.int lb), .val (.ref xr_323), .val (.ref xr_326), .val (.ref b328), .unset] [(.int (0 : Int32))])) t → Steps p.tables e below (s₁.setTop (entryFrame m #[(.int i0), (.int i1), (.int i2), (.int i3)] maxLocals)) t := fun t kk => pre341 t (by
                    refine XS.icmpYes X330.here hx rfl (pc0 := 224) (pc' := 231) rfl (hb hby at_224) rfl (feq (g6 : ¬ (t1 = s1))).2 (by decide) (by decide) ?_
                    show Steps p.tables e below (T330.setTop (mkF m 231 #[.val (.int i0), .val (.int i1), .val (.int i2), .val (.int i3), .val (.int sel), .val (.ref kr), .val (.int t0), .val (.int t1), .val (.int la), .val (.int s0), .val (.int s1), .val (.int lb), .val (.ref xr_323), .val (.ref xr_326), .val (.ref b328), .unset] [])) _
                    refine XS.iconst X330.here hx rfl (hb hby at_231) ?_
                    show Steps p.tables e below (T330.setTop (mkF m 232 #[.val (.int i0), .val (.int i1), .val (.int i2), .val (.int i3), .val (.int sel), .val (.ref kr), .val (.int t0), .val (.int t1), .val (.int la), .val (.int s0), .val (.int s1), .val (.int lb), .val (.ref xr_323), .val (.ref xr_326), .val (.ref b328), .unset] [(.int (0 : Int32))])) _
                    exact kk)
                  exact ⟨(0 : Int32), by simp [g0, g2, g4, (g2 ▸ g5 : ¬ lb < (2 : Int32)), g6], pre342⟩
            · have pre338 : ∀ t, Steps p.tables e below (T330.setTop (mkF m 232 #[.val (.int i0), .val (.int i1), .val (.int i2), .val (.int i3), .val (.int sel), .val (.ref kr), .val (.int t0), .val (.int t1), .val (.int la), .val (.int s0), .val (.int s1), .val (.int lb), .val (.ref xr_323), .val (.ref xr_326), .val (.ref b328), .unset] [(.int (0 : Int32))])) t → Steps p.tables e below (s₁.setTop (entryFrame m #[(.int i0), (.int i1), (.int i2), (.int i3)] maxLocals)) t := fun t kk => pre337 t (by
                refine XS.icmpYes X330.here hx rfl (pc0 := 211) (pc' := 231) rfl (hb hby at_211) rfl (feq (g4 : ¬ (t0 = s0))).2 (by decide) (by decide) ?_
                show Steps p.tables e below (T330.setTop (mkF m 231 #[.val (.int i0), .val (.int i1), .val (.int i2), .val (.int i3), .val (.int sel), .val (.ref kr), .val (.int t0), .val (.int t1), .val (.int la), .val (.int s0), .val (.int s1), .val (.int lb), .val (.ref xr_323), .val (.ref xr_326), .val (.ref b328), .unset] [])) _
                refine XS.iconst X330.here hx rfl (hb hby at_231) ?_
                show Steps p.tables e below (T330.setTop (mkF m 232 #[.val (.int i0), .val (.int i1), .val (.int i2), .val (.int i3), .val (.int sel), .val (.ref kr), .val (.int t0), .val (.int t1), .val (.int la), .val (.int s0), .val (.int s1), .val (.int lb), .val (.ref xr_323), .val (.ref xr_326), .val (.ref b328), .unset] [(.int (0 : Int32))])) _
                exact kk)
              exact ⟨(0 : Int32), by simp [g0, g2, (g2 ▸ g3 : ¬ lb < (1 : Int32)), g4], pre338⟩
        · have pre334 : ∀ t, Steps p.tables e below (T330.setTop (mkF m 232 #[.val (.int i0), .val (.int i1), .val (.int i2), .val (.int i3), .val (.int sel), .val (.ref kr), .val (.int t0), .val (.int t1), .val (.int la), .val (.int s0), .val (.int s1), .val (.int lb), .val (.ref xr_323), .val (.ref xr_326), .val (.ref b328), .unset] [(.int (0 : Int32))])) t → Steps p.tables e below (s₁.setTop (entryFrame m #[(.int i0), (.int i1), (.int i2), (.int i3)] maxLocals)) t := fun t kk => pre333 t (by
            refine XS.icmpYes X330.here hx rfl (pc0 := 198) (pc' := 231) rfl (hb hby at_198) rfl (feq (g2 : ¬ (la = lb))).2 (by decide) (by decide) ?_
            show Steps p.tables e below (T330.setTop (mkF m 231 #[.val (.int i0), .val (.int i1), .val (.int i2), .val (.int i3), .val (.int sel), .val (.ref kr), .val (.int t0), .val (.int t1), .val (.int la), .val (.int s0), .val (.int s1), .val (.int lb), .val (.ref xr_323), .val (.ref xr_326), .val (.ref b328), .unset] [])) _
            refine XS.iconst X330.here hx rfl (hb hby at_231) ?_
            show Steps p.tables e below (T330.setTop (mkF m 232 #[.val (.int i0), .val (.int i1), .val (.int i2), .val (.int i3), .val (.int sel), .val (.ref kr), .val (.int t0), .val (.int t1), .val (.int la), .val (.int s0), .val (.int s1), .val (.int lb), .val (.ref xr_323), .val (.ref xr_326), .val (.ref b328), .unset] [(.int (0 : Int32))])) _
            exact kk)
          exact ⟨(0 : Int32), by simp [g0, g2], pre334⟩
      · have pre344 : ∀ t, Steps p.tables e below (T330.setTop (mkF m 191 #[.val (.int i0), .val (.int i1), .val (.int i2), .val (.int i3), .val (.int sel), .val (.ref kr), .val (.int t0), .val (.int t1), .val (.int la), .val (.int s0), .val (.int s1), .val (.int lb), .val (.ref xr_323), .val (.ref xr_326), .val (.ref b328), .unset] [(.int (3 : Int32)), (.int sel)])) t → Steps p.tables e below (s₁.setTop (entryFrame m #[(.int i0), (.int i1), (.int i2), (.int i3)] maxLocals)) t := fun t kk => pre331 t (by
          refine XS.ifNo X330.here hx rfl (hb hby at_185) rfl ((if0 _ _).trans (feq (g0 : ¬ (sel = (0 : Int32)))).1) ?_
          show Steps p.tables e below (T330.setTop (mkF m 188 #[.val (.int i0), .val (.int i1), .val (.int i2), .val (.int i3), .val (.int sel), .val (.ref kr), .val (.int t0), .val (.int t1), .val (.int la), .val (.int s0), .val (.int s1), .val (.int lb), .val (.ref xr_323), .val (.ref xr_326), .val (.ref b328), .unset] [])) _
          refine XS.iload X330.here hx rfl (hb hby at_188) rfl ?_
          show Steps p.tables e below (T330.setTop (mkF m 190 #[.val (.int i0), .val (.int i1), .val (.int i2), .val (.int i3), .val (.int sel), .val (.ref kr), .val (.int t0), .val (.int t1), .val (.int la), .val (.int s0), .val (.int s1), .val (.int lb), .val (.ref xr_323), .val (.ref xr_326), .val (.ref b328), .unset] [(.int sel)])) _
          refine XS.iconst X330.here hx rfl (hb hby at_190) ?_
          show Steps p.tables e below (T330.setTop (mkF m 191 #[.val (.int i0), .val (.int i1), .val (.int i2), .val (.int i3), .val (.int sel), .val (.ref kr), .val (.int t0), .val (.int t1), .val (.int la), .val (.int s0), .val (.int s1), .val (.int lb), .val (.ref xr_323), .val (.ref xr_326), .val (.ref b328), .unset] [(.int (3 : Int32)), (.int sel)])) _
          exact kk)
        by_cases g1 : sel = (3 : Int32)
        · have pre345 : ∀ t, Steps p.tables e below (T330.setTop (mkF m 198 #[.val (.int i0), .val (.int i1), .val (.int i2), .val (.int i3), .val (.int sel), .val (.ref kr), .val (.int t0), .val (.int t1), .val (.int la), .val (.int s0), .val (.int s1), .val (.int lb), .val (.ref xr_323), .val (.ref xr_326), .val (.ref b328), .unset] [(.int lb), (.int la)])) t → Steps p.tables e below (s₁.setTop (entryFrame m #[(.int i0), (.int i1), (.int i2), (.int i3)] maxLocals)) t := fun t kk => pre344 t (by
            refine XS.icmpNo X330.here hx rfl (hb hby at_191) rfl (teq (g1 : sel = (3 : Int32))).2 ?_
            show Steps p.tables e below (T330.setTop (mkF m 194 #[.val (.int i0), .val (.int i1), .val (.int i2), .val (.int i3), .val (.int sel), .val (.ref kr), .val (.int t0), .val (.int t1), .val (.int la), .val (.int s0), .val (.int s1), .val (.int lb), .val (.ref xr_323), .val (.ref xr_326), .val (.ref b328), .unset] [])) _
            refine XS.iload X330.here hx rfl (hb hby at_194) rfl ?_
            show Steps p.tables e below (T330.setTop (mkF m 196 #[.val (.int i0), .val (.int i1), .val (.int i2), .val (.int i3), .val (.int sel), .val (.ref kr), .val (.int t0), .val (.int t1), .val (.int la), .val (.int s0), .val (.int s1), .val (.int lb), .val (.ref xr_323), .val (.ref xr_326), .val (.ref b328), .unset] [(.int la)])) _
            refine XS.iload X330.here hx rfl (hb hby at_196) rfl ?_
            show Steps p.tables e below (T330.setTop (mkF m 198 #[.val (.int i0), .val (.int i1), .val (.int i2), .val (.int i3), .val (.int sel), .val (.ref kr), .val (.int t0), .val (.int t1), .val (.int la), .val (.int s0), .val (.int s1), .val (.int lb), .val (.ref xr_323), .val (.ref xr_326), .val (.ref b328), .unset] [(.int lb), (.int la)])) _
            exact kk)
          by_cases g2 : la = lb
          · have pre347 : ∀ t, Steps p.tables e below (T330.setTop (mkF m 204 #[.val (.int i0), .val (.int i1), .val (.int i2), .val (.int i3), .val (.int sel), .val (.ref kr), .val (.int t0), .val (.int t1), .val (.int la), .val (.int s0), .val (.int s1), .val (.int lb), .val (.ref xr_323), .val (.ref xr_326), .val (.ref b328), .unset] [(.int (1 : Int32)), (.int la)])) t → Steps p.tables e below (s₁.setTop (entryFrame m #[(.int i0), (.int i1), (.int i2), (.int i3)] maxLocals)) t := fun t kk => pre345 t (by
              refine XS.icmpNo X330.here hx rfl (hb hby at_198) rfl (teq (g2 : la = lb)).2 ?_
              show Steps p.tables e below (T330.setTop (mkF m 201 #[.val (.int i0), .val (.int i1), .val (.int i2), .val (.int i3), .val (.int sel), .val (.ref kr), .val (.int t0), .val (.int t1), .val (.int la), .val (.int s0), .val (.int s1), .val (.int lb), .val (.ref xr_323), .val (.ref xr_326), .val (.ref b328), .unset] [])) _
              refine XS.iload X330.here hx rfl (hb hby at_201) rfl ?_
              show Steps p.tables e below (T330.setTop (mkF m 203 #[.val (.int i0), .val (.int i1), .val (.int i2), .val (.int i3), .val (.int sel), .val (.ref kr), .val (.int t0), .val (.int t1), .val (.int la), .val (.int s0), .val (.int s1), .val (.int lb), .val (.ref xr_323), .val (.ref xr_326), .val (.ref b328), .unset] [(.int la)])) _
              refine XS.iconst X330.here hx rfl (hb hby at_203) ?_
              show Steps p.tables e below (T330.setTop (mkF m 204 #[.val (.int i0), .val (.int i1), .val (.int i2), .val (.int i3), .val (.int sel), .val (.ref kr), .val (.int t0), .val (.int t1), .val (.int la), .val (.int s0), .val (.int s1), .val (.int lb), .val (.ref xr_323), .val (.ref xr_326), .val (.ref b328), .unset] [(.int (1 : Int32)), (.int la)])) _
              exact kk)
            by_cases g3 : la < (1 : Int32)
            · have pre348 : ∀ t, Steps p.tables e below (T330.setTop (mkF m 232 #[.val (.int i0), .val (.int i1), .val (.int i2), .val (.int i3), .val (.int sel), .val (.ref kr), .val (.int t0), .val (.int t1), .val (.int la), .val (.int s0), .val (.int s1), .val (.int lb), .val (.ref xr_323), .val (.ref xr_326), .val (.ref b328), .unset] [(.int (1 : Int32))])) t → Steps p.tables e below (s₁.setTop (entryFrame m #[(.int i0), (.int i1), (.int i2), (.int i3)] maxLocals)) t := fun t kk => pre347 t (by
                refine XS.icmpYes X330.here hx rfl (pc0 := 204) (pc' := 214) rfl (hb hby at_204) rfl (tlt (g3 : la < (1 : Int32))).1 (by decide) (by decide) ?_
                show Steps p.tables e below (T330.setTop (mkF m 214 #[.val (.int i0), .val (.int i1), .val (.int i2), .val (.int i3), .val (.int sel), .val (.ref kr), .val (.int t0), .val (.int t1), .val (.int la), .val (.int s0), .val (.int s1), .val (.int lb), .val (.ref xr_323), .val (.ref xr_326), .val (.ref b328), .unset] [])) _
                refine XS.iload X330.here hx rfl (hb hby at_214) rfl ?_
                show Steps p.tables e below (T330.setTop (mkF m 216 #[.val (.int i0), .val (.int i1), .val (.int i2), .val (.int i3), .val (.int sel), .val (.ref kr), .val (.int t0), .val (.int t1), .val (.int la), .val (.int s0), .val (.int s1), .val (.int lb), .val (.ref xr_323), .val (.ref xr_326), .val (.ref b328), .unset] [(.int la)])) _
                refine XS.iconst X330.here hx rfl (hb hby at_216) ?_
                show Steps p.tables e below (T330.setTop (mkF m 217 #[.val (.int i0), .val (.int i1), .val (.int i2), .val (.int i3), .val (.int sel), .val (.ref kr), .val (.int t0), .val (.int t1), .val (.int la), .val (.int s0), .val (.int s1), .val (.int lb), .val (.ref xr_323), .val (.ref xr_326), .val (.ref b328), .unset] [(.int (2 : Int32)), (.int la)])) _
                refine XS.icmpYes X330.here hx rfl (pc0 := 217) (pc' := 227) rfl (hb hby at_217) rfl (tlt (own_lt12 g3 : la < (2 : Int32))).1 (by decide) (by decide) ?_
                show Steps p.tables e below (T330.setTop (mkF m 227 #[.val (.int i0), .val (.int i1), .val (.int i2), .val (.int i3), .val (.int sel), .val (.ref kr), .val (.int t0), .val (.int t1), .val (.int la), .val (.int s0), .val (.int s1), .val (.int lb), .val (.ref xr_323), .val (.ref xr_326), .val (.ref b328), .unset] [])) _
                refine XS.iconst X330.here hx rfl (hb hby at_227) ?_
                show Steps p.tables e below (T330.setTop (mkF m 228 #[.val (.int i0), .val (.int i1), .val (.int i2), .val (.int i3), .val (.int sel), .val (.ref kr), .val (.int t0), .val (.int t1), .val (.int la), .val (.int s0), .val (.int s1), .val (.int lb), .val (.ref xr_323), .val (.ref xr_326), .val (.ref b328), .unset] [(.int (1 : Int32))])) _
                refine XS.goto X330.here hx rfl (pc0 := 228) (pc' := 232) rfl (hb hby at_228) (by decide) (by decide) ?_
                show Steps p.tables e below (T330.setTop (mkF m 232 #[.val (.int i0), .val (.int i1), .val (.int i2), .val (.int i3), .val (.int sel), .val (.ref kr), .val (.int t0), .val (.int t1), .val (.int la), .val (.int s0), .val (.int s1), .val (.int lb), .val (.ref xr_323), .val (.ref xr_326), .val (.ref b328), .unset] [(.int (1 : Int32))])) _
                exact kk)
              exact ⟨(1 : Int32), by simp [g1, g2, (g2 ▸ g3 : lb < (1 : Int32)), own_lt12 (g2 ▸ g3 : lb < (1 : Int32))], pre348⟩
            · have pre349 : ∀ t, Steps p.tables e below (T330.setTop (mkF m 211 #[.val (.int i0), .val (.int i1), .val (.int i2), .val (.int i3), .val (.int sel), .val (.ref kr), .val (.int t0), .val (.int t1), .val (.int la), .val (.int s0), .val (.int s1), .val (.int lb), .val (.ref xr_323), .val (.ref xr_326), .val (.ref b328), .unset] [(.int s0), (.int t0)])) t → Steps p.tables e below (s₁.setTop (entryFrame m #[(.int i0), (.int i1), (.int i2), (.int i3)] maxLocals)) t := fun t kk => pre347 t (by
                refine XS.icmpNo X330.here hx rfl (hb hby at_204) rfl (flt (g3 : ¬ (la < (1 : Int32)))).1 ?_
                show Steps p.tables e below (T330.setTop (mkF m 207 #[.val (.int i0), .val (.int i1), .val (.int i2), .val (.int i3), .val (.int sel), .val (.ref kr), .val (.int t0), .val (.int t1), .val (.int la), .val (.int s0), .val (.int s1), .val (.int lb), .val (.ref xr_323), .val (.ref xr_326), .val (.ref b328), .unset] [])) _
                refine XS.iload X330.here hx rfl (hb hby at_207) rfl ?_
                show Steps p.tables e below (T330.setTop (mkF m 209 #[.val (.int i0), .val (.int i1), .val (.int i2), .val (.int i3), .val (.int sel), .val (.ref kr), .val (.int t0), .val (.int t1), .val (.int la), .val (.int s0), .val (.int s1), .val (.int lb), .val (.ref xr_323), .val (.ref xr_326), .val (.ref b328), .unset] [(.int t0)])) _
                refine XS.iload X330.here hx rfl (hb hby at_209) rfl ?_
                show Steps p.tables e below (T330.setTop (mkF m 211 #[.val (.int i0), .val (.int i1), .val (.int i2), .val (.int i3), .val (.int sel), .val (.ref kr), .val (.int t0), .val (.int t1), .val (.int la), .val (.int s0), .val (.int s1), .val (.int lb), .val (.ref xr_323), .val (.ref xr_326), .val (.ref b328), .unset] [(.int s0), (.int t0)])) _
                exact kk)
              by_cases g4 : t0 = s0
              · have pre351 : ∀ t, Steps p.tables e below (T330.setTop (mkF m 217 #[.val (.int i0), .val (.int i1), .val (.int i2), .val (.int i3), .val (.int sel), .val (.ref kr), .val (.int t0), .val (.int t1), .val (.int la), .val (.int s0), .val (.int s1), .val (.int lb), .val (.ref xr_323), .val (.ref xr_326), .val (.ref b328), .unset] [(.int (2 : Int32)), (.int la)])) t → Steps p.tables e below (s₁.setTop (entryFrame m #[(.int i0), (.int i1), (.int i2), (.int i3)] maxLocals)) t := fun t kk => pre349 t (by
                  refine XS.icmpNo X330.here hx rfl (hb hby at_211) rfl (teq (g4 : t0 = s0)).2 ?_
                  show Steps p.tables e below (T330.setTop (mkF m 214 #[.val (.int i0), .val (.int i1), .val (.int i2), .val (.int i3), .val (.int sel), .val (.ref kr), .val (.int t0), .val (.int t1), .val (.int la), .val (.int s0), .val (.int s1), .val (.int lb), .val (.ref xr_323), .val (.ref xr_326), .val (.ref b328), .unset] [])) _
                  refine XS.iload X330.here hx rfl (hb hby at_214) rfl ?_
                  show Steps p.tables e below (T330.setTop (mkF m 216 #[.val (.int i0), .val (.int i1), .val (.int i2), .val (.int i3), .val (.int sel), .val (.ref kr), .val (.int t0), .val (.int t1), .val (.int la), .val (.int s0), .val (.int s1), .val (.int lb), .val (.ref xr_323), .val (.ref xr_326), .val (.ref b328), .unset] [(.int la)])) _
                  refine XS.iconst X330.here hx rfl (hb hby at_216) ?_
                  show Steps p.tables e below (T330.setTop (mkF m 217 #[.val (.int i0), .val (.int i1), .val (.int i2), .val (.int i3), .val (.int sel), .val (.ref kr), .val (.int t0), .val (.int t1), .val (.int la), .val (.int s0), .val (.int s1), .val (.int lb), .val (.ref xr_323), .val (.ref xr_326), .val (.ref b328), .unset] [(.int (2 : Int32)), (.int la)])) _
                  exact kk)
                by_cases g5 : la < (2 : Int32)
                · have pre352 : ∀ t, Steps p.tables e below (T330.setTop (mkF m 232 #[.val (.int i0), .val (.int i1), .val (.int i2), .val (.int i3), .val (.int sel), .val (.ref kr), .val (.int t0), .val (.int t1), .val (.int la), .val (.int s0), .val (.int s1), .val (.int lb), .val (.ref xr_323), .val (.ref xr_326), .val (.ref b328), .unset] [(.int (1 : Int32))])) t → Steps p.tables e below (s₁.setTop (entryFrame m #[(.int i0), (.int i1), (.int i2), (.int i3)] maxLocals)) t := fun t kk => pre351 t (by
                    refine XS.icmpYes X330.here hx rfl (pc0 := 217) (pc' := 227) rfl (hb hby at_217) rfl (tlt (g5 : la < (2 : Int32))).1 (by decide) (by decide) ?_
                    show Steps p.tables e below (T330.setTop (mkF m 227 #[.val (.int i0), .val (.int i1), .val (.int i2), .val (.int i3), .val (.int sel), .val (.ref kr), .val (.int t0), .val (.int t1), .val (.int la), .val (.int s0), .val (.int s1), .val (.int lb), .val (.ref xr_323), .val (.ref xr_326), .val (.ref b328), .unset] [])) _
                    refine XS.iconst X330.here hx rfl (hb hby at_227) ?_
                    show Steps p.tables e below (T330.setTop (mkF m 228 #[.val (.int i0), .val (.int i1), .val (.int i2), .val (.int i3), .val (.int sel), .val (.ref kr), .val (.int t0), .val (.int t1), .val (.int la), .val (.int s0), .val (.int s1), .val (.int lb), .val (.ref xr_323), .val (.ref xr_326), .val (.ref b328), .unset] [(.int (1 : Int32))])) _
                    refine XS.goto X330.here hx rfl (pc0 := 228) (pc' := 232) rfl (hb hby at_228) (by decide) (by decide) ?_
                    show Steps p.tables e below (T330.setTop (mkF m 232 #[.val (.int i0), .val (.int i1), .val (.int i2), .val (.int i3), .val (.int sel), .val (.ref kr), .val (.int t0), .val (.int t1), .val (.int la), .val (.int s0), .val (.int s1), .val (.int lb), .val (.ref xr_323), .val (.ref xr_326), .val (.ref b328), .unset] [(.int (1 : Int32))])) _
                    exact kk)
                  exact ⟨(1 : Int32), by simp [g1, g2, g4, (g2 ▸ g5 : lb < (2 : Int32))], pre352⟩
                · have pre353 : ∀ t, Steps p.tables e below (T330.setTop (mkF m 224 #[.val (.int i0), .val (.int i1), .val (.int i2), .val (.int i3), .val (.int sel), .val (.ref kr), .val (.int t0), .val (.int t1), .val (.int la), .val (.int s0), .val (.int s1), .val (.int lb), .val (.ref xr_323), .val (.ref xr_326), .val (.ref b328), .unset] [(.int s1), (.int t1)])) t → Steps p.tables e below (s₁.setTop (entryFrame m #[(.int i0), (.int i1), (.int i2), (.int i3)] maxLocals)) t := fun t kk => pre351 t (by
                    refine XS.icmpNo X330.here hx rfl (hb hby at_217) rfl (flt (g5 : ¬ (la < (2 : Int32)))).1 ?_
                    show Steps p.tables e below (T330.setTop (mkF m 220 #[.val (.int i0), .val (.int i1), .val (.int i2), .val (.int i3), .val (.int sel), .val (.ref kr), .val (.int t0), .val (.int t1), .val (.int la), .val (.int s0), .val (.int s1), .val (.int lb), .val (.ref xr_323), .val (.ref xr_326), .val (.ref b328), .unset] [])) _
                    refine XS.iload X330.here hx rfl (hb hby at_220) rfl ?_
                    show Steps p.tables e below (T330.setTop (mkF m 222 #[.val (.int i0), .val (.int i1), .val (.int i2), .val (.int i3), .val (.int sel), .val (.ref kr), .val (.int t0), .val (.int t1), .val (.int la), .val (.int s0), .val (.int s1), .val (.int lb), .val (.ref xr_323), .val (.ref xr_326), .val (.ref b328), .unset] [(.int t1)])) _
                    refine XS.iload X330.here hx rfl (hb hby at_222) rfl ?_
                    show Steps p.tables e below (T330.setTop (mkF m 224 #[.val (.int i0), .val (.int i1), .val (.int i2), .val (.int i3), .val (.int sel), .val (.ref kr), .val (.int t0), .val (.int t1), .val (.int la), .val (.int s0), .val (.int s1), .val (.int lb), .val (.ref xr_323), .val (.ref xr_326), .val (.ref b328), .unset] [(.int s1), (.int t1)])) _
                    exact kk)
                  by_cases g6 : t1 = s1
                  · have pre355 : ∀ t, Steps p.tables e below (T330.setTop (mkF m 232 #[.val (.int i0), .val (.int i1), .val (.int i2), .val (.int i3), .val (.int sel), .val (.ref kr), .val (.int t0), .val (.int t1), .val (.int la), .val (.int s0), .val (.int s1), .val (.int lb), .val (.ref xr_323), .val (.ref xr_326), .val (.ref b328), .unset] [(.int (1 : Int32))])) t → Steps p.tables e below (s₁.setTop (entryFrame m #[(.int i0), (.int i1), (.int i2), (.int i3)] maxLocals)) t := fun t kk => pre353 t (by
                      refine XS.icmpNo X330.here hx rfl (hb hby at_224) rfl (teq (g6 : t1 = s1)).2 ?_
                      show Steps p.tables e below (T330.setTop (mkF m 227 #[.val (.int i0), .val (.int i1), .val (.int i2), .val (.int i3), .val (.int sel), .val (.ref kr), .val (.int t0), .val (.int t1), .val (.int la), .val (.int s0), .val (.int s1), .val (.int lb), .val (.ref xr_323), .val (.ref xr_326), .val (.ref b328), .unset] [])) _
                      refine XS.iconst X330.here hx rfl (hb hby at_227) ?_
                      show Steps p.tables e below (T330.setTop (mkF m 228 #[.val (.int i0), .val (.int i1), .val (.int i2), .val (.int i3), .val (.int sel), .val (.ref kr), .val (.int t0), .val (.int t1), .val (.int la), .val (.int s0), .val (.int s1), .val (.int lb), .val (.ref xr_323), .val (.ref xr_326), .val (.ref b328), .unset] [(.int (1 : Int32))])) _
                      refine XS.goto X330.here hx rfl (pc0 := 228) (pc' := 232) rfl (hb hby at_228) (by decide) (by decide) ?_
                      show Steps p.tables e below (T330.setTop (mkF m 232 #[.val (.int i0), .val (.int i1), .val (.int i2), .val (.int i3), .val (.int sel), .val (.ref kr), .val (.int t0), .val (.int t1), .val (.int la), .val (.int s0), .val (.int s1), .val (.int lb), .val (.ref xr_323), .val (.ref xr_326), .val (.ref b328), .unset] [(.int (1 : Int32))])) _
                      exact kk)
                    exact ⟨(1 : Int32), by simp [g1, g2, g4, g6], pre355⟩
                  · have pre354 : ∀ t, Steps p.tables e below (T330.setTop (mkF m 232 #[.val (.int i0), .val (.int i1), .val (.int i2), .val (.int i3), .val (.int sel), .val (.ref kr), .val (.int t0), .val (.int t1), .val (.int la), .val (.int s0), .val (.int s1), .val (.int lb), .val (.ref xr_323), .val (.ref xr_326), .val (.ref b328), .unset] [(.int (0 : Int32))])) t → Steps p.tables e below (s₁.setTop (entryFrame m #[(.int i0), (.int i1), (.int i2), (.int i3)] maxLocals)) t := fun t kk => pre353 t (by
                      refine XS.icmpYes X330.here hx rfl (pc0 := 224) (pc' := 231) rfl (hb hby at_224) rfl (feq (g6 : ¬ (t1 = s1))).2 (by decide) (by decide) ?_
                      show Steps p.tables e below (T330.setTop (mkF m 231 #[.val (.int i0), .val (.int i1), .val (.int i2), .val (.int i3), .val (.int sel), .val (.ref kr), .val (.int t0), .val (.int t1), .val (.int la), .val (.int s0), .val (.int s1), .val (.int lb), .val (.ref xr_323), .val (.ref xr_326), .val (.ref b328), .unset] [])) _
                      refine XS.iconst X330.here hx rfl (hb hby at_231) ?_
                      show Steps p.tables e below (T330.setTop (mkF m 232 #[.val (.int i0), .val (.int i1), .val (.int i2), .val (.int i3), .val (.int sel), .val (.ref kr), .val (.int t0), .val (.int t1), .val (.int la), .val (.int s0), .val (.int s1), .val (.int lb), .val (.ref xr_323), .val (.ref xr_326), .val (.ref b328), .unset] [(.int (0 : Int32))])) _
                      exact kk)
                    exact ⟨(0 : Int32), by simp [g1, g2, g4, (g2 ▸ g5 : ¬ lb < (2 : Int32)), g6], pre354⟩
              · have pre350 : ∀ t, Steps p.tables e below (T330.setTop (mkF m 232 #[.val (.int i0), .val (.int i1), .val (.int i2), .val (.int i3), .val (.int sel), .val (.ref kr), .val (.int t0), .val (.int t1), .val (.int la), .val (.int s0), .val (.int s1), .val (.int lb), .val (.ref xr_323), .val (.ref xr_326), .val (.ref b328), .unset] [(.int (0 : Int32))])) t → Steps p.tables e below (s₁.setTop (entryFrame m #[(.int i0), (.int i1), (.int i2), (.int i3)] maxLocals)) t := fun t kk => pre349 t (by
                  refine XS.icmpYes X330.here hx rfl (pc0 := 211) (pc' := 231) rfl (hb hby at_211) rfl (feq (g4 : ¬ (t0 = s0))).2 (by decide) (by decide) ?_
                  show Steps p.tables e below (T330.setTop (mkF m 231 #[.val (.int i0), .val (.int i1), .val (.int i2), .val (.int i3), .val (.int sel), .val (.ref kr), .val (.int t0), .val (.int t1), .val (.int la), .val (.int s0), .val (.int s1), .val (.int lb), .val (.ref xr_323), .val (.ref xr_326), .val (.ref b328), .unset] [])) _
                  refine XS.iconst X330.here hx rfl (hb hby at_231) ?_
                  show Steps p.tables e below (T330.setTop (mkF m 232 #[.val (.int i0), .val (.int i1), .val (.int i2), .val (.int i3), .val (.int sel), .val (.ref kr), .val (.int t0), .val (.int t1), .val (.int la), .val (.int s0), .val (.int s1), .val (.int lb), .val (.ref xr_323), .val (.ref xr_326), .val (.ref b328), .unset] [(.int (0 : Int32))])) _
                  exact kk)
                exact ⟨(0 : Int32), by simp [g1, g2, (g2 ▸ g3 : ¬ lb < (1 : Int32)), g4], pre350⟩
          · have pre346 : ∀ t, Steps p.tables e below (T330.setTop (mkF m 232 #[.val (.int i0), .val (.int i1), .val (.int i2), .val (.int i3), .val (.int sel), .val (.ref kr), .val (.int t0), .val (.int t1), .val (.int la), .val (.int s0), .val (.int s1), .val (.int lb), .val (.ref xr_323), .val (.ref xr_326), .val (.ref b328), .unset] [(.int (0 : Int32))])) t → Steps p.tables e below (s₁.setTop (entryFrame m #[(.int i0), (.int i1), (.int i2), (.int i3)] maxLocals)) t := fun t kk => pre345 t (by
              refine XS.icmpYes X330.here hx rfl (pc0 := 198) (pc' := 231) rfl (hb hby at_198) rfl (feq (g2 : ¬ (la = lb))).2 (by decide) (by decide) ?_
              show Steps p.tables e below (T330.setTop (mkF m 231 #[.val (.int i0), .val (.int i1), .val (.int i2), .val (.int i3), .val (.int sel), .val (.ref kr), .val (.int t0), .val (.int t1), .val (.int la), .val (.int s0), .val (.int s1), .val (.int lb), .val (.ref xr_323), .val (.ref xr_326), .val (.ref b328), .unset] [])) _
              refine XS.iconst X330.here hx rfl (hb hby at_231) ?_
              show Steps p.tables e below (T330.setTop (mkF m 232 #[.val (.int i0), .val (.int i1), .val (.int i2), .val (.int i3), .val (.int sel), .val (.ref kr), .val (.int t0), .val (.int t1), .val (.int la), .val (.int s0), .val (.int s1), .val (.int lb), .val (.ref xr_323), .val (.ref xr_326), .val (.ref b328), .unset] [(.int (0 : Int32))])) _
              exact kk)
            exact ⟨(0 : Int32), by simp [g1, g2], pre346⟩
        · have pre356 : ∀ t, Steps p.tables e below (T330.setTop (mkF m 232 #[.val (.int i0), .val (.int i1), .val (.int i2), .val (.int i3), .val (.int sel), .val (.ref kr), .val (.int t0), .val (.int t1), .val (.int la), .val (.int s0), .val (.int s1), .val (.int lb), .val (.ref xr_323), .val (.ref xr_326), .val (.ref b328), .unset] [(.int (0 : Int32))])) t → Steps p.tables e below (s₁.setTop (entryFrame m #[(.int i0), (.int i1), (.int i2), (.int i3)] maxLocals)) t := fun t kk => pre344 t (by
            refine XS.icmpYes X330.here hx rfl (pc0 := 191) (pc' := 231) rfl (hb hby at_191) rfl (feq (g1 : ¬ (sel = (3 : Int32)))).2 (by decide) (by decide) ?_
            show Steps p.tables e below (T330.setTop (mkF m 231 #[.val (.int i0), .val (.int i1), .val (.int i2), .val (.int i3), .val (.int sel), .val (.ref kr), .val (.int t0), .val (.int t1), .val (.int la), .val (.int s0), .val (.int s1), .val (.int lb), .val (.ref xr_323), .val (.ref xr_326), .val (.ref b328), .unset] [])) _
            refine XS.iconst X330.here hx rfl (hb hby at_231) ?_
            show Steps p.tables e below (T330.setTop (mkF m 232 #[.val (.int i0), .val (.int i1), .val (.int i2), .val (.int i3), .val (.int sel), .val (.ref kr), .val (.int t0), .val (.int t1), .val (.int la), .val (.int s0), .val (.int s1), .val (.int lb), .val (.ref xr_323), .val (.ref xr_326), .val (.ref b328), .unset] [(.int (0 : Int32))])) _
            exact kk)
          exact ⟨(0 : Int32), by simp [g0, g1], pre356⟩
  have c357 : Exa Z T330.heap b328 "com/example/confluens/confluens/RuleToken" := (A328.keep K330)
  have c358 : Old Z n0 T330.heap := (((c325.keep K326 all0).ext E328).keep K330 (allS ge329 all0))
  have c359 : Exa Z T330.heap xr_323 "java/lang/String" := (((f323_1.keep K326).ext E328).keep K330)
  have ne360 : xr_323 ≠ b328 := Nat.ne_of_lt (Nat.lt_of_lt_of_le (Nat.lt_of_lt_of_le f323_2.lt K326.1) (Nat.le_of_eq g328.symm))
  have c361 : Fld Z T330.heap xr_323 "java/lang/String" "value" "[B" (.ref tt_323) := (((f323_2.keep K326 nin0).ext E328).keep K330 (ninS ne360 nin0))
  have c362 : Fld Z T330.heap xr_323 "java/lang/String" "coder" "B" (.int (0 : Int32)) := (((f323_3.keep K326 nin0).ext E328).keep K330 (ninS ne360 nin0))
  have ne363 : tt_323 ≠ b328 := Nat.ne_of_lt (Nat.lt_of_lt_of_le (Nat.lt_of_lt_of_le f323_4.lt K326.1) (Nat.le_of_eq g328.symm))
  have c364 : Arv Z T330.heap tt_323 kt_323 .byte nn_323 vs_323 (.int 0) := (((f323_4.keep K326 nin0).ext E328).keep K330 (ninS ne363 nin0))
  have c365 : Exa Z T330.heap xr_326 "java/lang/String" := ((f326_1.ext E328).keep K330)
  have ne366 : xr_326 ≠ b328 := Nat.ne_of_lt (Nat.lt_of_lt_of_le f326_2.lt (Nat.le_of_eq g328.symm))
  have c367 : Fld Z T330.heap xr_326 "java/lang/String" "value" "[B" (.ref tt_326) := ((f326_2.ext E328).keep K330 (ninS ne366 nin0))
  have c368 : Fld Z T330.heap xr_326 "java/lang/String" "coder" "B" (.int (0 : Int32)) := ((f326_3.ext E328).keep K330 (ninS ne366 nin0))
  have ne369 : tt_326 ≠ b328 := Nat.ne_of_lt (Nat.lt_of_lt_of_le f326_4.lt (Nat.le_of_eq g328.symm))
  have c370 : Arv Z T330.heap tt_326 kt_326 .byte nn_326 vs_326 (.int 0) := ((f326_4.ext E328).keep K330 (ninS ne369 nin0))
  obtain ⟨cq371, kq371, q371a, q371b, q371c⟩ := isOf hZ326 rfl c357
  obtain ⟨_, _, ⟨T371, L371, k371, n371⟩, -, X371, ⟨Lc371, hQ371, l371, y371, z371⟩, st371⟩ := X330.virtualBack hx (y := (⟨"com/example/confluens/confluens/RuleToken", "is", "(Ljava/lang/String;)Z"⟩ : MethodName)) (z := (⟨"com/example/confluens/confluens/RuleToken", "is", "(Ljava/lang/String;)Z"⟩ : MethodName)) hown326 (mvT hZ326 (hw _ (List.mem_of_getElem? (i := 43) rfl))) (mvT hZ326 (hw _ (List.mem_of_getElem? (i := 44) rfl))) (notFace_of_selects (args := #[]) (mvT hZ326 (hw _ (List.mem_of_getElem? (i := 46) rfl)))) (mvT hZ326 (hw _ (List.mem_of_getElem? (i := 46) rfl))) (mvT hZ326 (hw _ (List.mem_of_getElem? (i := 45) rfl))) (by decide) (backOf (W := 0) (rm_isT l Z a0 hw [] b328 xr_326 kr k0 k3 xr_323 G tt_323 kt_323 nn_323 vs_323 (own_cs la t0 t1) tt_326 kt_326 nn_326 vs_326 (own_cs lb s0 s1) T330.heap n0 (Nat.le_trans Z0 (Nat.le_trans (Nat.le_trans (Nat.le_trans K323.1 K326.1) E328.1) K330.1)) q0 hCS c358 q3 q6 f330_0 f330_1 c359 c361 c362 c364 (f323_5) (own_csb _ _ _ ht0 ht1) (own_csl _ _ _) c365 c367 c368 c370 (f326_5) (own_csb _ _ _ hs0 hs1) (own_csl _ _ _)) hZ326 (hw _ (List.mem_of_getElem? (i := 47) rfl)) (hw _ (List.mem_of_getElem? (i := 32) rfl)) (by decide) (by decide)) q371a q371c (g := (mkF m 238 #[.val (.int i0), .val (.int i1), .val (.int i2), .val (.int i3), .val (.int sel), .val (.ref kr), .val (.int t0), .val (.int t1), .val (.int la), .val (.int s0), .val (.int s1), .val (.int lb), .val (.ref xr_323), .val (.ref xr_326), .val (.ref b328), .val (.int ev)] [(.ref xr_326), (.ref b328)])) rfl (by rw [hml]; rfl) (Steps.refl _) (argsL := [(.ref xr_326)]) (rest := []) (lenOf pd_9 rfl) rfl (by show 2 * 0 + _ ≤ _; exact Nat.le_of_eq rfl) (hb hby at_238) (fun _ _ => ⟨rfl, rfl, (by decide : 13 + 0 ≤ _), (by decide : 27 + 0 ≤ _)⟩)
  dsimp only [Pt.U, Pt.locs, Pt.cells, Pt.slots] at X371 l371 y371 z371 st371 hQ371
  subst l371 y371 z371
  obtain ⟨rv_371, rfl, Nq371, e371, f371_0⟩ := hQ371
  have N371 := Fr.app N330 Nq371
  have hx5 := own_exp sel la lb t0 t1 s0 s1 rv_371 _ _ _ hkr hla hlb f371_0
  obtain ⟨fs, hr, hrun, hended, hEnd⟩ := X371.leaveW hS326 (by rw [e371]; exact (Nat.le_trans (Nat.le_refl _) (Nat.le_trans E328.1 K330.1))) (v := some (.int (1 : Int32))) (fun h => by rw [Bd.returns] at h; cases h)
  refine ⟨_, _, pre332 _ ?_, hrun, hended, _, _, rfl, ?_, hEnd.1, hEnd.2.1, hEnd.2.2.1, hEnd.2.2.2.mono (by decide) (by decide)⟩
  · refine XS.istore X330.here hx rfl (hb hby at_232) rfl (l' := #[.val (.int i0), .val (.int i1), .val (.int i2), .val (.int i3), .val (.int sel), .val (.ref kr), .val (.int t0), .val (.int t1), .val (.int la), .val (.int s0), .val (.int s1), .val (.int lb), .val (.ref xr_323), .val (.ref xr_326), .val (.ref b328), .val (.int ev)]) rfl ?_
    show Steps p.tables e below (T330.setTop (mkF m 234 #[.val (.int i0), .val (.int i1), .val (.int i2), .val (.int i3), .val (.int sel), .val (.ref kr), .val (.int t0), .val (.int t1), .val (.int la), .val (.int s0), .val (.int s1), .val (.int lb), .val (.ref xr_323), .val (.ref xr_326), .val (.ref b328), .val (.int ev)] [])) _
    refine XS.aload X330.here hx rfl (hb hby at_234) rfl rfl ?_
    show Steps p.tables e below (T330.setTop (mkF m 236 #[.val (.int i0), .val (.int i1), .val (.int i2), .val (.int i3), .val (.int sel), .val (.ref kr), .val (.int t0), .val (.int t1), .val (.int la), .val (.int s0), .val (.int s1), .val (.int lb), .val (.ref xr_323), .val (.ref xr_326), .val (.ref b328), .val (.int ev)] [(.ref b328)])) _
    refine XS.aload X330.here hx rfl (hb hby at_236) rfl rfl ?_
    show Steps p.tables e below (T330.setTop (mkF m 238 #[.val (.int i0), .val (.int i1), .val (.int i2), .val (.int i3), .val (.int sel), .val (.ref kr), .val (.int t0), .val (.int t1), .val (.int la), .val (.int s0), .val (.int s1), .val (.int lb), .val (.ref xr_323), .val (.ref xr_326), .val (.ref b328), .val (.int ev)] [(.ref xr_326), (.ref b328)])) _
    refine st371.trans ?_
    show Steps p.tables e below (T371.setTop (mkF m 241 #[.val (.int i0), .val (.int i1), .val (.int i2), .val (.int i3), .val (.int sel), .val (.ref kr), .val (.int t0), .val (.int t1), .val (.int la), .val (.int s0), .val (.int s1), .val (.int lb), .val (.ref xr_323), .val (.ref xr_326), .val (.ref b328), .val (.int ev)] [(.int rv_371)])) _
    refine XS.iload X371.here hx rfl (hb hby at_241) rfl ?_
    show Steps p.tables e below (T371.setTop (mkF m 243 #[.val (.int i0), .val (.int i1), .val (.int i2), .val (.int i3), .val (.int sel), .val (.ref kr), .val (.int t0), .val (.int t1), .val (.int la), .val (.int s0), .val (.int s1), .val (.int lb), .val (.ref xr_323), .val (.ref xr_326), .val (.ref b328), .val (.int ev)] [(.int ev), (.int rv_371)])) _
    refine XS.icmpNo X371.here hx rfl (hb hby at_243) rfl (teq ((hx5.trans hev.symm) : rv_371 = ev)).2 ?_
    show Steps p.tables e below (T371.setTop (mkF m 246 #[.val (.int i0), .val (.int i1), .val (.int i2), .val (.int i3), .val (.int sel), .val (.ref kr), .val (.int t0), .val (.int t1), .val (.int la), .val (.int s0), .val (.int s1), .val (.int lb), .val (.ref xr_323), .val (.ref xr_326), .val (.ref b328), .val (.int ev)] [])) _
    refine XS.iconst X371.here hx rfl (hb hby at_246) ?_
    show Steps p.tables e below (T371.setTop (mkF m 247 #[.val (.int i0), .val (.int i1), .val (.int i2), .val (.int i3), .val (.int sel), .val (.ref kr), .val (.int t0), .val (.int t1), .val (.int la), .val (.int s0), .val (.int s1), .val (.int lb), .val (.ref xr_323), .val (.ref xr_326), .val (.ref b328), .val (.int ev)] [(.int (1 : Int32))])) _
    refine XS.goto X371.here hx rfl (pc0 := 247) (pc' := 251) rfl (hb hby at_247) (by decide) (by decide) ?_
    show Steps p.tables e below (T371.setTop (mkF m 251 #[.val (.int i0), .val (.int i1), .val (.int i2), .val (.int i3), .val (.int sel), .val (.ref kr), .val (.int t0), .val (.int t1), .val (.int la), .val (.int s0), .val (.int s1), .val (.int lb), .val (.ref xr_323), .val (.ref xr_326), .val (.ref b328), .val (.int ev)] [(.int (1 : Int32))])) _
    exact retN X371 hx (t := .boolean) Bd.returns (by simp) (hb hby at_251) hr
  · show Q_law Z i0 i1 i2 i3 G k0 k1 k2 k3 k4 h0 n0 _ T371.heap _
    rw [e371]
    exact ⟨rfl, N371⟩
set_option maxRecDepth 65536 in
set_option maxHeartbeats 40000000 in
theorem comes_1 {Post : Tables → Env → Array Value → State → Outcome → State → Prop} (hpost : ∀ tb e args s v u, (limb_1_1.after args s (.returned v) u = true ∧ limb_1_2.after args s (.returned v) u = true ∧ True) → ReturnedEndW s (.returned v) u (Jvm.fieldLocs frame_1_writes args s ++ Jvm.arrayLocs frame_1_arrays args s ++ Jvm.staticLocs frame_1_statics s) 24 1152 → Post tb e args s (.returned v) u) :
    ArmFor flags0 classFile x code maxLocals ret World_1 tables_1 room_1 Calls_1 rest_1 Pre_1 Post := by
  intro l hfl _ _ p e ha hc hk s m args below hf hA hF happ hP
  obtain ⟨hcalls, hrest, hpre⟩ := hP
  obtain ⟨-, -, -, hnamed, -, -, -, hat⟩ := (Spec.applies_iff hf).mp happ
  obtain ⟨hg, hn⟩ := and_e (Cond.before_iff.mp (show (Jvm.Cond.and given_1 narrow_1).before args s = true from hpre))
  obtain ⟨hcount, hg0⟩ := and_e hg
  obtain ⟨ha0, hg1⟩ := and_e hg0
  obtain ⟨ha1, hg2⟩ := and_e hg1
  obtain ⟨ha2, hg3⟩ := and_e hg2
  obtain ⟨w0, w1, w2, w3, rfl⟩ : ∃ w0 w1 w2 w3 : Value, args = #[w0, w1, w2, w3] := by
    have hs : args.size = 4 := by simpa [Cond.value, given_1] using hcount
    obtain ⟨L⟩ := args
    match L, hs with
    | [w0, w1, w2, w3], _ => exact ⟨w0, w1, w2, w3, rfl⟩
  have hw := fun d (hd : d ∈ tables_1) => atoms_spec (ws := Jvm.Cond.code x code maxLocals ret :: tables_1) hat d (List.mem_cons_of_mem _ hd)
  obtain ⟨hsets, hown0⟩ := atoms_of _ (rest_1_c_eq ▸ (show rest_1_c.before _ s = true from hrest))
  have hfit : Fit s := fun {y c} hc i hi => by
    obtain ⟨ha, rfl⟩ := Array.getElem?_eq_some_iff.mp hc
    have q := List.all_eq_true.mp ((Array.all_eq_true_iff_forall_mem.mp hF) _ (Array.getElem_mem ha)) i (List.mem_range.mpr hi)
    simpa [Array.getElem?_eq_getElem hi] using q
  obtain ⟨i0, ei0⟩ := is_v ha0
  obtain rfl : w0 = (.int i0) := Option.some.inj ei0
  obtain ⟨i1, ei1⟩ := is_v ha1
  obtain rfl : w1 = (.int i1) := Option.some.inj ei1
  obtain ⟨i2, ei2⟩ := is_v ha2
  obtain rfl : w2 = (.int i2) := Option.some.inj ei2
  obtain ⟨i3, ei3⟩ := is_v hg3
  obtain rfl : w3 = (.int i3) := Option.some.inj ei3
  have nz0 := not_v (Cond.before_iff.mp (hsets _ (List.mem_of_getElem? (i := 2) rfl)))
  obtain ⟨G, eG⟩ := is_v (Cond.before_iff.mp (hsets _ (List.mem_of_getElem? (i := 1) rfl)))
  have SG : Sta s s.heap "java/lang/String" "COMPACT_STRINGS" "Z" (.int G) := Sta.start eG (Or.inl (hsets _ (List.mem_of_getElem? (i := 0) rfl)))
  have nz : ¬ (G = (0 : Int32)) := gotF (Cond.eq_ints eG (Term.int_eval (0))) nz0
  obtain ⟨hn0, hnr0⟩ := and_e hn
  obtain ⟨hn1, hnr1⟩ := and_e hnr0
  obtain ⟨hn2, hnr2⟩ := and_e hnr1
  obtain ⟨hn3, hnr3⟩ := and_e hnr2
  obtain ⟨hn4, hnr4⟩ := and_e hnr3
  obtain ⟨hn5, hnr5⟩ := and_e hnr4
  obtain ⟨hn6, hnr6⟩ := and_e hnr5
  obtain ⟨hn7, hnr7⟩ := and_e hnr6
  obtain ⟨hn8, hnr8⟩ := and_e hnr7
  have hn9 := hnr8
  obtain ⟨k0, ek0⟩ := exa_v hn0
  have SK0 : Sta s s.heap "com/example/confluens/confluens/RuleToken$Kind" "WORD" "Lcom/example/confluens/confluens/RuleToken$Kind;" (.ref k0) := Sta.start ek0 (Or.inr ⟨hw _ (List.mem_of_getElem? (i := 2) rfl), hw _ (List.mem_of_getElem? (i := 3) rfl)⟩)
  obtain ⟨k2, ek2⟩ := exa_v hn1
  have SK2 : Sta s s.heap "com/example/confluens/confluens/RuleToken$Kind" "INTEGER" "Lcom/example/confluens/confluens/RuleToken$Kind;" (.ref k2) := Sta.start ek2 (Or.inr ⟨hw _ (List.mem_of_getElem? (i := 2) rfl), hw _ (List.mem_of_getElem? (i := 61) rfl)⟩)
  obtain ⟨k3, ek3⟩ := exa_v hn4
  have SK3 : Sta s s.heap "com/example/confluens/confluens/RuleToken$Kind" "SYMBOL" "Lcom/example/confluens/confluens/RuleToken$Kind;" (.ref k3) := Sta.start ek3 (Or.inr ⟨hw _ (List.mem_of_getElem? (i := 2) rfl), hw _ (List.mem_of_getElem? (i := 63) rfl)⟩)
  obtain ⟨k4, ek4⟩ := exa_v hn6
  have SK4 : Sta s s.heap "com/example/confluens/confluens/RuleToken$Kind" "END" "Lcom/example/confluens/confluens/RuleToken$Kind;" (.ref k4) := Sta.start ek4 (Or.inr ⟨hw _ (List.mem_of_getElem? (i := 2) rfl), hw _ (List.mem_of_getElem? (i := 65) rfl)⟩)
  obtain ⟨k1, ek1⟩ := exa_v hn8
  have SK1 : Sta s s.heap "com/example/confluens/confluens/RuleToken$Kind" "STRING" "Lcom/example/confluens/confluens/RuleToken$Kind;" (.ref k1) := Sta.start ek1 (Or.inr ⟨hw _ (List.mem_of_getElem? (i := 2) rfl), hw _ (List.mem_of_getElem? (i := 77) rfl)⟩)
  have FO2 : Fld s s.heap k2 "java/lang/Enum" "ordinal" "I" (.int (2 : Int32)) := Fld.start ((fld_at ek2).symm.trans (eqv_i (Term.int_eval (2)) hn2))
  have FO0 : Fld s s.heap k0 "java/lang/Enum" "ordinal" "I" (.int (0 : Int32)) := Fld.start ((fld_at ek0).symm.trans (eqv_i (Term.int_eval (0)) hn3))
  have FO3 : Fld s s.heap k3 "java/lang/Enum" "ordinal" "I" (.int (3 : Int32)) := Fld.start ((fld_at ek3).symm.trans (eqv_i (Term.int_eval (3)) hn5))
  have FO4 : Fld s s.heap k4 "java/lang/Enum" "ordinal" "I" (.int (4 : Int32)) := Fld.start ((fld_at ek4).symm.trans (eqv_i (Term.int_eval (4)) hn7))
  have FO1 : Fld s s.heap k1 "java/lang/Enum" "ordinal" "I" (.int (1 : Int32)) := Fld.start ((fld_at ek1).symm.trans (eqv_i (Term.int_eval (1)) hn9))
  have hdist : k1 ≠ k0 ∧ k1 ≠ k3 ∧ k2 ≠ k0 ∧ k2 ≠ k3 ∧ k4 ≠ k0 ∧ k4 ≠ k3 := ⟨FO1.ne FO0 (by decide), FO1.ne FO3 (by decide), FO2.ne FO0 (by decide), FO2.ne FO3 (by decide), FO4.ne FO0 (by decide), FO4.ne FO3 (by decide)⟩
  have CHs : CHv s [("java/lang/String", 7)] s.vm s.heap := CHv.start (own_EW hw) (fun p hp => by simp only [List.mem_cons, List.not_mem_nil, or_false] at hp; subst hp; exact hcalls.1 _ (List.mem_of_getElem? (i := 0) rfl)) (hsets _ (List.mem_of_getElem? (i := 2) rfl)) (hw _ (List.mem_of_getElem? (i := 23) rfl)) (hw _ (List.mem_of_getElem? (i := 9) rfl))
  obtain ⟨n, o, h1, h2, h3, _, L, rfl, ⟨rfl, N⟩, hq⟩ := rm_law l s _ hw tables_1 i0 i1 i2 i3 G k0 k1 k2 k3 k4 s.heap s.heap.size (Nat.le_refl _) SG nz (Old.start s) SK0 SK1 SK2 SK3 SK4 hdist p e ha hc hk s m _ below hf ((Spec.applies_iff_loose hf).mp happ).1 ⟨rfl, State.Warmed39.refl s, rfl, CHs⟩ trivial
  refine ⟨n, _, h1, h2, h3, hpost _ _ _ _ _ _ ⟨Cond.after_iff.mpr rfl, Cond.after_iff.mpr (eq_i res_at (Term.int_eval (1)) rfl), trivial⟩ ⟨hq.1, hq.2.1, hq.2.2.1, (hq.2.2.2.sift fun y hy => Or.inr (N y hy)).mono (by decide) (by decide)⟩⟩
theorem main_1_1 : Claimed_1_1 := comes_1 fun _ _ _ _ _ _ h hF => ⟨h.1, hF⟩
theorem main_1_2 : Claimed_1_2 := comes_1 fun _ _ _ _ _ _ h hF => ⟨h.2.1, hF⟩
end Jvm.Pilot.@@N@@
namespace Jvm.Pilot.@@N@@
open Jvm Jvm.ClassFile Sem Op Lib Jvm.Free Jvm.Stand Jvm.Pilot.@@N@@.Jvm.D
/-! MADE BY PROGRAM (witnessworld.py) out of the Statement's table words and the real class files: 22 classes; the members and pool entries that the words name. The judged class is class 1, her method 2. -/
namespace start1
open Jvm.ClassFile
def u (s : String) : CpInfo := .utf8 (stringToUtf16 s)
/-- a pool by its gaps: so many unusable entries, then the entry; so many at the end -/
def gap : Nat → List CpInfo → List CpInfo
  | 0, r => r
  | n + 1, r => .unusable :: gap n r
def poolList (es : List (Nat × CpInfo)) (last : Nat) : List CpInfo := es.foldr (fun e r => gap e.1 (e.2 :: r)) (gap last [])
def pool (es : List (Nat × CpInfo)) (last : Nat) : Array CpInfo := ⟨poolList es last⟩
def fileOf (pool : Array CpInfo) (this : Nat) (attrs : Array Attribute := #[]) (ms : Array MethodInfo := #[]) (fl : Nat := 33) (sup : Nat := 0) (ifs : Array Nat := #[]) (fds : Array FieldInfo := #[]) : ClassFile where
  minorVersion := 0
  majorVersion := 65
  constantPool := pool
  accessFlags := fl
  thisClass := this
  superClass := sup
  interfaces := ifs
  fields := fds
  methods := ms
  attributes := attrs
def plain (name : String) (sup : Option ClassId) : Class where
  name := name
  kind := .ordinary
  loader := none
  accessFlags := 33
  super := sup
  interfaces := #[]
  cf := none
  fields := #[]
  methods := #[]
  instanceTypes := #[]
  staticTypes := #[]
  resolved := #[]
  callSites := []
  init := .initialized
  statics := none
  mirror := none

def pool0 : Array CpInfo := pool [(5, u "<init>"), (0, u "()V"), (1, .class_ 10), (1, u "java/lang/Object")] 113

def k0c0 : Code := { maxStack := 0, maxLocals := 1, code := object_method_1_code, exceptionTable := #[], attributes := #[] }
def k0m0 : Method := { name := "<init>", desc := "()V", sig := { parameters := [], returnType := none }, accessFlags := 1, code := some k0c0 }
/-- java/lang/Object -/
def k0 : Class := { plain "java/lang/Object" none with
  accessFlags := 33
  interfaces := #[]
  cf := some (fileOf pool0 8 #[] #[{ accessFlags := 1, nameIndex := 5, descriptorIndex := 6, attributes := #[] }] 33 0 #[] #[])
  fields := #[]
  methods := #[k0m0]
  instanceTypes := #[]
  staticTypes := #[]
  resolved := Array.replicate 124 none
  statics := none }

def pool1 : Array CpInfo := pool [(2, .class_ 4), (1, u "java/lang/Object"), (0, u "<init>"), (0, u "()V"), (0, .class_ 8), (0, u "java/lang/String"), (0, .methodref 7 10), (0, .nameAndType 5 11), (0, u "([C)V"), (0, .methodref 7 13), (0, .nameAndType 14 15), (0, u "valueOf"), (0, u "(C)Ljava/lang/String;"), (0, .integer 2147483647), (0, .fieldref 18 19), (0, .class_ 20), (0, .nameAndType 21 22), (0, u "com/example/confluens/confluens/RuleToken$Kind"), (0, u "WORD"), (0, u "Lcom/example/confluens/confluens/RuleToken$Kind;"), (0, .fieldref 18 24), (0, .nameAndType 25 22), (0, u "STRING"), (0, .fieldref 18 27), (0, .nameAndType 28 22), (0, u "INTEGER"), (0, .fieldref 18 30), (0, .nameAndType 31 22), (0, u "SYMBOL"), (0, .fieldref 18 33), (0, .nameAndType 34 22), (0, u "END"), (0, .methodref 36 37), (0, .class_ 38), (0, .nameAndType 39 40), (0, u "com/example/confluens/confluens/RuleTokenIsPinLaw"), (0, u "mk"), (0, u "(ICC)Ljava/lang/String;"), (0, .class_ 42), (0, u "com/example/confluens/confluens/RuleToken"), (0, .methodref 41 44), (0, .nameAndType 5 45), (0, u "(Lcom/example/confluens/confluens/RuleToken$Kind;Ljava/lang/String;I)V"), (0, .methodref 41 47), (0, .nameAndType 48 49), (0, u "is"), (0, u "(Ljava/lang/String;)Z"), (3, u "law"), (0, u "(IIII)Z")] 4

def k1m0 : Method := { name := "<init>", desc := "()V", sig := { parameters := [], returnType := none }, accessFlags := 1, code := none }
def k1c1 : Code := { maxStack := 6, maxLocals := 3, code := method_2_code, exceptionTable := #[], attributes := #[] }
def k1m1 : Method := { name := "mk", desc := "(ICC)Ljava/lang/String;", sig := { parameters := [.int, .char, .char], returnType := some (.object "java/lang/String") }, accessFlags := 10, code := some k1c1 }
def k1c2 : Code := { maxStack := 5, maxLocals := 16, code := code, exceptionTable := #[], attributes := #[] }
def k1m2 : Method := { name := "law", desc := "(IIII)Z", sig := { parameters := [.int, .int, .int, .int], returnType := some .boolean }, accessFlags := 9, code := some k1c2 }
/-- com/example/confluens/confluens/RuleTokenIsPinLaw -/
def k1 : Class := { plain "com/example/confluens/confluens/RuleTokenIsPinLaw" (some 0) with
  accessFlags := 49
  interfaces := #[]
  cf := some (fileOf pool1 36 #[] #[{ accessFlags := 1, nameIndex := 5, descriptorIndex := 6, attributes := #[] }, { accessFlags := 10, nameIndex := 39, descriptorIndex := 40, attributes := #[] }, { accessFlags := 9, nameIndex := 53, descriptorIndex := 54, attributes := #[] }] 49 2 #[] #[])
  fields := #[]
  methods := #[k1m0, k1m1, k1m2]
  instanceTypes := #[]
  staticTypes := #[]
  resolved := Array.replicate 59 none
  statics := none }

def pool2 : Array CpInfo := pool [(1, .class_ 2), (0, u "java/lang/constant/Constable"), (0, .class_ 4), (0, u "java/lang/Object")] 6

/-- java/lang/constant/Constable -/
def k2 : Class := { plain "java/lang/constant/Constable" (some 0) with
  accessFlags := 1537
  interfaces := #[]
  cf := some (fileOf pool2 1 #[] #[] 1537 3 #[] #[])
  fields := #[]
  methods := #[]
  instanceTypes := #[]
  staticTypes := #[]
  resolved := Array.replicate 11 none
  statics := none }

def pool3 : Array CpInfo := pool [(1, .class_ 2), (0, u "java/lang/Comparable"), (0, .class_ 4), (0, u "java/lang/Object")] 7

/-- java/lang/Comparable -/
def k3 : Class := { plain "java/lang/Comparable" (some 0) with
  accessFlags := 1537
  interfaces := #[]
  cf := some (fileOf pool3 1 #[] #[] 1537 3 #[] #[])
  fields := #[]
  methods := #[]
  instanceTypes := #[]
  staticTypes := #[]
  resolved := Array.replicate 12 none
  statics := none }

def pool4 : Array CpInfo := pool [(1, .class_ 2), (0, u "java/io/Serializable"), (0, .class_ 4), (0, u "java/lang/Object")] 2

/-- java/io/Serializable -/
def k4 : Class := { plain "java/io/Serializable" (some 0) with
  accessFlags := 1537
  interfaces := #[]
  cf := some (fileOf pool4 1 #[] #[] 1537 3 #[] #[])
  fields := #[]
  methods := #[]
  instanceTypes := #[]
  staticTypes := #[]
  resolved := Array.replicate 7 none
  statics := none }

def pool5 : Array CpInfo := pool [(2, .class_ 4), (1, u "java/lang/Enum"), (0, u "name"), (0, u "Ljava/lang/String;"), (2, u "ordinal"), (0, u "I"), (1, .class_ 14), (1, u "java/lang/Object"), (4, u "hash"), (86, .class_ 108), (1, u "java/lang/Enum$EnumDesc"), (2, .class_ 112), (0, u "java/lang/constant/Constable"), (0, .class_ 114), (0, u "java/lang/Comparable"), (0, .class_ 116), (0, u "java/io/Serializable")] 87

/-- java/lang/Enum -/
def k5 : Class := { plain "java/lang/Enum" (some 0) with
  accessFlags := 1057
  interfaces := #[2, 3, 4]
  cf := some (fileOf pool5 2 #[.nestMembers #[106]] #[] 1057 12 #[111, 113, 115] #[{ accessFlags := 18, nameIndex := 5, descriptorIndex := 6, attributes := #[] }, { accessFlags := 18, nameIndex := 9, descriptorIndex := 10, attributes := #[] }, { accessFlags := 2, nameIndex := 19, descriptorIndex := 10, attributes := #[] }])
  fields := #[{ name := "name", type := (.object "java/lang/String"), accessFlags := 18, slot := 0, constantValue := 0 }, { name := "ordinal", type := .int, accessFlags := 18, slot := 1, constantValue := 0 }, { name := "hash", type := .int, accessFlags := 2, slot := 2, constantValue := 0 }]
  methods := #[]
  instanceTypes := #[(.object "java/lang/String"), .int, .int]
  staticTypes := #[]
  resolved := Array.replicate 204 none
  statics := none }

def pool6 : Array CpInfo := pool [(1, .class_ 2), (0, u "com/example/confluens/confluens/RuleToken$Kind"), (2, u "WORD"), (0, u "Lcom/example/confluens/confluens/RuleToken$Kind;"), (2, u "STRING"), (2, u "INTEGER"), (2, u "SYMBOL"), (2, u "END"), (2, u "$VALUES"), (0, u "[Lcom/example/confluens/confluens/RuleToken$Kind;"), (6, .class_ 31), (1, u "java/lang/Enum"), (28, .class_ 61), (0, u "com/example/confluens/confluens/RuleToken")] 2

/-- com/example/confluens/confluens/RuleToken$Kind -/
def k6 : Class := { plain "com/example/confluens/confluens/RuleToken$Kind" (some 5) with
  accessFlags := 16432
  interfaces := #[]
  cf := some (fileOf pool6 1 #[.nestHost 60] #[] 16432 29 #[] #[{ accessFlags := 16409, nameIndex := 5, descriptorIndex := 6, attributes := #[] }, { accessFlags := 16409, nameIndex := 9, descriptorIndex := 6, attributes := #[] }, { accessFlags := 16409, nameIndex := 12, descriptorIndex := 6, attributes := #[] }, { accessFlags := 16409, nameIndex := 15, descriptorIndex := 6, attributes := #[] }, { accessFlags := 16409, nameIndex := 18, descriptorIndex := 6, attributes := #[] }, { accessFlags := 4122, nameIndex := 21, descriptorIndex := 22, attributes := #[] }])
  fields := #[{ name := "WORD", type := (.object "com/example/confluens/confluens/RuleToken$Kind"), accessFlags := 16409, slot := 0, constantValue := 0 }, { name := "STRING", type := (.object "com/example/confluens/confluens/RuleToken$Kind"), accessFlags := 16409, slot := 1, constantValue := 0 }, { name := "INTEGER", type := (.object "com/example/confluens/confluens/RuleToken$Kind"), accessFlags := 16409, slot := 2, constantValue := 0 }, { name := "SYMBOL", type := (.object "com/example/confluens/confluens/RuleToken$Kind"), accessFlags := 16409, slot := 3, constantValue := 0 }, { name := "END", type := (.object "com/example/confluens/confluens/RuleToken$Kind"), accessFlags := 16409, slot := 4, constantValue := 0 }, { name := "$VALUES", type := (.array (.object "com/example/confluens/confluens/RuleToken$Kind")), accessFlags := 4122, slot := 5, constantValue := 0 }]
  methods := #[]
  instanceTypes := #[(.object "java/lang/String"), .int, .int]
  staticTypes := #[(.object "com/example/confluens/confluens/RuleToken$Kind"), (.object "com/example/confluens/confluens/RuleToken$Kind"), (.object "com/example/confluens/confluens/RuleToken$Kind"), (.object "com/example/confluens/confluens/RuleToken$Kind"), (.object "com/example/confluens/confluens/RuleToken$Kind"), (.array (.object "com/example/confluens/confluens/RuleToken$Kind"))]
  resolved := Array.replicate 64 none
  statics := some 0 }

def pool7 : Array CpInfo := pool [(2, .class_ 4), (1, u "java/lang/CharSequence"), (42, .class_ 48), (0, u "java/lang/CharSequence$1CodePointIterator"), (10, .class_ 60), (0, u "java/lang/CharSequence$1CharIterator"), (5, .class_ 67), (0, u "java/lang/Object")] 63

/-- java/lang/CharSequence -/
def k7 : Class := { plain "java/lang/CharSequence" (some 0) with
  accessFlags := 1537
  interfaces := #[]
  cf := some (fileOf pool7 2 #[.nestMembers #[47, 59]] #[] 1537 66 #[] #[])
  fields := #[]
  methods := #[]
  instanceTypes := #[]
  staticTypes := #[]
  resolved := Array.replicate 131 none
  statics := none }

def pool8 : Array CpInfo := pool [(1, .class_ 2), (0, u "java/lang/constant/ConstantDesc"), (0, .class_ 4), (0, u "java/lang/Object")] 32

/-- java/lang/constant/ConstantDesc -/
def k8 : Class := { plain "java/lang/constant/ConstantDesc" (some 0) with
  accessFlags := 1537
  interfaces := #[]
  cf := some (fileOf pool8 1 #[] #[] 1537 3 #[] #[])
  fields := #[]
  methods := #[]
  instanceTypes := #[]
  staticTypes := #[]
  resolved := Array.replicate 37 none
  statics := none }

def pool9 : Array CpInfo := pool [(1, .methodref 2 3), (0, .class_ 4), (0, .nameAndType 5 6), (0, u "java/lang/Object"), (0, u "<init>"), (0, u "()V"), (0, .string 8), (0, u ""), (0, .fieldref 10 11), (0, .class_ 12), (0, .nameAndType 13 14), (0, u "java/lang/String"), (0, u "value"), (0, u "[B"), (0, .fieldref 10 16), (0, .nameAndType 17 18), (0, u "coder"), (0, u "B"), (2, u "hash"), (0, u "I"), (2, u "hashIsZero"), (0, u "Z"), (0, .methodref 10 28), (0, .nameAndType 5 29), (0, u "([CIILjava/lang/Void;)V"), (8, .fieldref 10 39), (0, .nameAndType 40 26), (0, u "COMPACT_STRINGS"), (1, .class_ 44), (1, u "java/lang/StringUTF16"), (0, u "compress"), (1, .methodref 42 48), (0, .nameAndType 49 50), (0, u "coderFromArrayLen"), (0, u "([BI)B"), (2, u "toBytes"), (53, .class_ 109), (1, u "java/lang/StringLatin1"), (67, .methodref 42 178), (0, .nameAndType 45 179), (0, u "([CII)[B"), (29, .methodref 10 210), (0, .nameAndType 5 211), (0, u "([BB)V"), (157, u "(C)Z"), (171, .methodref 107 542), (0, .nameAndType 543 544), (0, u "equals"), (0, u "([B[B)Z"), (28, u "(Ljava/lang/Object;)Z"), (1, .class_ 576), (0, u "java/lang/CharSequence"), (22, u "CASE_INSENSITIVE_ORDER"), (0, u "Ljava/util/Comparator;"), (181, u "valueOf"), (0, u "(C)Ljava/lang/String;"), (226, u "([C)V"), (4, .methodref 107 1016), (0, .nameAndType 1017 369), (0, u "canEncode"), (0, .methodref 107 1019), (0, .nameAndType 53 1020), (0, u "(C)[B"), (80, u "serialPersistentFields"), (0, u "[Ljava/io/ObjectStreamField;"), (0, .class_ 1104), (0, u "java/lang/String$CaseInsensitiveComparator"), (1, .class_ 1107), (0, u "java/io/Serializable"), (0, .class_ 1109), (0, u "java/lang/Comparable"), (0, .class_ 1111), (0, u "java/lang/constant/Constable"), (0, .class_ 1113), (0, u "java/lang/constant/ConstantDesc"), (2, u "serialVersionUID"), (0, u "J"), (3, u "REPL"), (0, u "C"), (2, u "LATIN1"), (1, u "UTF16")] 323

def k9m0 : Method := { name := "<init>", desc := "()V", sig := { parameters := [], returnType := none }, accessFlags := 1, code := none }
def k9c1 : Code := { maxStack := 5, maxLocals := 2, code := jdk_42_method_3_code, exceptionTable := #[], attributes := #[] }
def k9m1 : Method := { name := "<init>", desc := "([C)V", sig := { parameters := [(.array .char)], returnType := none }, accessFlags := 1, code := some k9c1 }
def k9c2 : Code := { maxStack := 2, maxLocals := 3, code := jdk_42_method_66_code, exceptionTable := #[], attributes := #[] }
def k9m2 : Method := { name := "equals", desc := "(Ljava/lang/Object;)Z", sig := { parameters := [(.object "java/lang/Object")], returnType := some .boolean }, accessFlags := 1, code := some k9c2 }
def k9c3 : Code := { maxStack := 4, maxLocals := 1, code := jdk_42_method_139_code, exceptionTable := #[], attributes := #[] }
def k9m3 : Method := { name := "valueOf", desc := "(C)Ljava/lang/String;", sig := { parameters := [.char], returnType := some (.object "java/lang/String") }, accessFlags := 9, code := some k9c3 }
def k9c4 : Code := { maxStack := 4, maxLocals := 6, code := jdk_42_method_149_code, exceptionTable := #[], attributes := #[] }
def k9m4 : Method := { name := "<init>", desc := "([CIILjava/lang/Void;)V", sig := { parameters := [(.array .char), .int, .int, (.object "java/lang/Void")], returnType := none }, accessFlags := 2, code := some k9c4 }
def k9c5 : Code := { maxStack := 2, maxLocals := 3, code := jdk_42_method_151_code, exceptionTable := #[], attributes := #[] }
def k9m5 : Method := { name := "<init>", desc := "([BB)V", sig := { parameters := [(.array .byte), .byte], returnType := none }, accessFlags := 0, code := some k9c5 }
/-- java/lang/String -/
def k9 : Class := { plain "java/lang/String" (some 0) with
  accessFlags := 49
  interfaces := #[4, 3, 7, 2, 8]
  cf := some (fileOf pool9 10 #[.nestMembers #[1103]] #[{ accessFlags := 1, nameIndex := 5, descriptorIndex := 6, attributes := #[] }, { accessFlags := 1, nameIndex := 5, descriptorIndex := 1010, attributes := #[] }, { accessFlags := 1, nameIndex := 543, descriptorIndex := 573, attributes := #[] }, { accessFlags := 9, nameIndex := 782, descriptorIndex := 783, attributes := #[] }, { accessFlags := 2, nameIndex := 5, descriptorIndex := 29, attributes := #[] }, { accessFlags := 0, nameIndex := 5, descriptorIndex := 211, attributes := #[] }] 49 2 #[1106, 1108, 575, 1110, 1112] #[{ accessFlags := 18, nameIndex := 13, descriptorIndex := 14, attributes := #[] }, { accessFlags := 18, nameIndex := 17, descriptorIndex := 18, attributes := #[] }, { accessFlags := 2, nameIndex := 21, descriptorIndex := 22, attributes := #[] }, { accessFlags := 2, nameIndex := 25, descriptorIndex := 26, attributes := #[] }, { accessFlags := 26, nameIndex := 1116, descriptorIndex := 1117, attributes := #[] }, { accessFlags := 24, nameIndex := 40, descriptorIndex := 26, attributes := #[] }, { accessFlags := 26, nameIndex := 1101, descriptorIndex := 1102, attributes := #[] }, { accessFlags := 26, nameIndex := 1121, descriptorIndex := 1122, attributes := #[] }, { accessFlags := 25, nameIndex := 599, descriptorIndex := 600, attributes := #[] }, { accessFlags := 24, nameIndex := 1125, descriptorIndex := 18, attributes := #[] }, { accessFlags := 24, nameIndex := 1127, descriptorIndex := 18, attributes := #[] }])
  fields := #[{ name := "value", type := (.array .byte), accessFlags := 18, slot := 0, constantValue := 0 }, { name := "coder", type := .byte, accessFlags := 18, slot := 1, constantValue := 0 }, { name := "hash", type := .int, accessFlags := 2, slot := 2, constantValue := 0 }, { name := "hashIsZero", type := .boolean, accessFlags := 2, slot := 3, constantValue := 0 }, { name := "serialVersionUID", type := .long, accessFlags := 26, slot := 0, constantValue := 0 }, { name := "COMPACT_STRINGS", type := .boolean, accessFlags := 24, slot := 1, constantValue := 0 }, { name := "serialPersistentFields", type := (.array (.object "java/io/ObjectStreamField")), accessFlags := 26, slot := 2, constantValue := 0 }, { name := "REPL", type := .char, accessFlags := 26, slot := 3, constantValue := 0 }, { name := "CASE_INSENSITIVE_ORDER", type := (.object "java/util/Comparator"), accessFlags := 25, slot := 4, constantValue := 0 }, { name := "LATIN1", type := .byte, accessFlags := 24, slot := 5, constantValue := 0 }, { name := "UTF16", type := .byte, accessFlags := 24, slot := 6, constantValue := 0 }]
  methods := #[k9m0, k9m1, k9m2, k9m3, k9m4, k9m5]
  instanceTypes := #[(.array .byte), .byte, .int, .boolean]
  staticTypes := #[.long, .boolean, (.array (.object "java/io/ObjectStreamField")), .char, (.object "java/util/Comparator"), .byte, .byte]
  resolved := Array.replicate 1451 none
  statics := some 1 }

def pool10 : Array CpInfo := pool [(1, .methodref 2 3), (0, .class_ 4), (0, .nameAndType 5 6), (0, u "java/lang/Object"), (0, u "<init>"), (0, u "()V"), (0, .fieldref 8 9), (0, .class_ 10), (0, .nameAndType 11 12), (0, u "com/example/confluens/confluens/RuleToken"), (0, u "kind"), (0, u "Lcom/example/confluens/confluens/RuleToken$Kind;"), (0, .fieldref 8 14), (0, .nameAndType 15 16), (0, u "text"), (0, u "Ljava/lang/String;"), (0, .fieldref 8 18), (0, .nameAndType 19 20), (0, u "line"), (0, u "I"), (0, .fieldref 22 23), (0, .class_ 24), (0, .nameAndType 25 12), (0, u "com/example/confluens/confluens/RuleToken$Kind"), (0, u "WORD"), (0, .fieldref 22 27), (0, .nameAndType 28 12), (0, u "SYMBOL"), (0, .methodref 30 31), (0, .class_ 32), (0, .nameAndType 33 34), (0, u "java/lang/String"), (0, u "equals"), (0, u "(Ljava/lang/Object;)Z"), (9, u "(Lcom/example/confluens/confluens/RuleToken$Kind;Ljava/lang/String;I)V"), (5, u "is"), (0, u "(Ljava/lang/String;)Z")] 21

def k10c0 : Code := { maxStack := 2, maxLocals := 4, code := prog_16_method_1_code, exceptionTable := #[], attributes := #[] }
def k10m0 : Method := { name := "<init>", desc := "(Lcom/example/confluens/confluens/RuleToken$Kind;Ljava/lang/String;I)V", sig := { parameters := [(.object "com/example/confluens/confluens/RuleToken$Kind"), (.object "java/lang/String"), .int], returnType := none }, accessFlags := 0, code := some k10c0 }
def k10c1 : Code := { maxStack := 2, maxLocals := 2, code := prog_16_method_5_code, exceptionTable := #[], attributes := #[] }
def k10m1 : Method := { name := "is", desc := "(Ljava/lang/String;)Z", sig := { parameters := [(.object "java/lang/String")], returnType := some .boolean }, accessFlags := 0, code := some k10c1 }
/-- com/example/confluens/confluens/RuleToken -/
def k10 : Class := { plain "com/example/confluens/confluens/RuleToken" (some 0) with
  accessFlags := 32
  interfaces := #[]
  cf := some (fileOf pool10 8 #[.nestMembers #[22]] #[{ accessFlags := 0, nameIndex := 5, descriptorIndex := 44, attributes := #[] }, { accessFlags := 0, nameIndex := 50, descriptorIndex := 51, attributes := #[] }] 32 2 #[] #[{ accessFlags := 18, nameIndex := 11, descriptorIndex := 12, attributes := #[] }, { accessFlags := 18, nameIndex := 15, descriptorIndex := 16, attributes := #[] }, { accessFlags := 18, nameIndex := 19, descriptorIndex := 20, attributes := #[] }])
  fields := #[{ name := "kind", type := (.object "com/example/confluens/confluens/RuleToken$Kind"), accessFlags := 18, slot := 0, constantValue := 0 }, { name := "text", type := (.object "java/lang/String"), accessFlags := 18, slot := 1, constantValue := 0 }, { name := "line", type := .int, accessFlags := 18, slot := 2, constantValue := 0 }]
  methods := #[k10m0, k10m1]
  instanceTypes := #[(.object "com/example/confluens/confluens/RuleToken$Kind"), (.object "java/lang/String"), .int]
  staticTypes := #[]
  resolved := Array.replicate 73 none
  statics := none }

def pool11 : Array CpInfo := pool [(4, .class_ 6), (1, u "java/lang/Object"), (0, u "<init>"), (0, u "()V"), (5, .class_ 16), (1, u "java/lang/StringLatin1"), (73, u "canEncode"), (14, u "(C)Z"), (15, u "$assertionsDisabled"), (0, u "Z"), (98, .class_ 223), (1, u "java/lang/StringLatin1$LinesSpliterator"), (57, u "equals"), (0, u "([B[B)Z"), (97, u "toBytes"), (1, u "(C)[B"), (7, .class_ 391), (0, u "java/lang/StringLatin1$CharsSpliterator")] 3

def k11m0 : Method := { name := "<init>", desc := "()V", sig := { parameters := [], returnType := none }, accessFlags := 0, code := none }
def k11c1 : Code := { maxStack := 2, maxLocals := 1, code := jdk_43_method_3_code, exceptionTable := #[], attributes := #[] }
def k11m1 : Method := { name := "canEncode", desc := "(C)Z", sig := { parameters := [.char], returnType := some .boolean }, accessFlags := 9, code := some k11c1 }
def k11c2 : Code := { maxStack := 3, maxLocals := 3, code := jdk_43_method_13_code, exceptionTable := #[], attributes := #[] }
def k11m2 : Method := { name := "equals", desc := "([B[B)Z", sig := { parameters := [(.array .byte), (.array .byte)], returnType := some .boolean }, accessFlags := 9, code := some k11c2 }
def k11c3 : Code := { maxStack := 4, maxLocals := 1, code := jdk_43_method_46_code, exceptionTable := #[], attributes := #[] }
def k11m3 : Method := { name := "toBytes", desc := "(C)[B", sig := { parameters := [.char], returnType := some (.array .byte) }, accessFlags := 9, code := some k11c3 }
/-- java/lang/StringLatin1 -/
def k11 : Class := { plain "java/lang/StringLatin1" (some 0) with
  accessFlags := 48
  interfaces := #[]
  cf := some (fileOf pool11 14 #[.nestMembers #[390, 221]] #[{ accessFlags := 0, nameIndex := 7, descriptorIndex := 8, attributes := #[] }, { accessFlags := 9, nameIndex := 90, descriptorIndex := 105, attributes := #[] }, { accessFlags := 9, nameIndex := 281, descriptorIndex := 282, attributes := #[] }, { accessFlags := 9, nameIndex := 380, descriptorIndex := 382, attributes := #[] }] 48 4 #[] #[{ accessFlags := 4120, nameIndex := 121, descriptorIndex := 122, attributes := #[] }])
  fields := #[{ name := "$assertionsDisabled", type := .boolean, accessFlags := 4120, slot := 0, constantValue := 0 }]
  methods := #[k11m0, k11m1, k11m2, k11m3]
  instanceTypes := #[]
  staticTypes := #[.boolean]
  resolved := Array.replicate 395 none
  statics := none }

def pool12 : Array CpInfo := pool [(6, .class_ 8), (1, u "java/lang/Object"), (0, u "<init>"), (0, u "()V"), (1, .class_ 14), (1, u "java/lang/StringUTF16"), (31, u "$assertionsDisabled"), (0, u "Z"), (13, u "HI_BYTE_SHIFT"), (0, u "I"), (2, u "LO_BYTE_SHIFT"), (49, .methodref 12 116), (0, .nameAndType 117 118), (0, u "compress"), (0, u "([CI[BII)I"), (3, u "([CII)[B"), (138, u "coderFromArrayLen"), (0, u "([BI)B"), (106, .class_ 371), (1, u "java/lang/StringUTF16$LinesSpliterator"), (58, u "MAX_LENGTH"), (196, .class_ 628), (0, u "java/lang/StringUTF16$CodePointsSpliterator"), (0, .class_ 630), (0, u "java/lang/StringUTF16$CharsSpliterator")] 4

def k12m0 : Method := { name := "<init>", desc := "()V", sig := { parameters := [], returnType := none }, accessFlags := 0, code := none }
def k12c1 : Code := { maxStack := 2, maxLocals := 2, code := jdk_52_method_15_code, exceptionTable := #[], attributes := #[] }
def k12m1 : Method := { name := "coderFromArrayLen", desc := "([BI)B", sig := { parameters := [(.array .byte), .int], returnType := some .byte }, accessFlags := 8, code := some k12c1 }
def k12c2 : Code := { maxStack := 5, maxLocals := 6, code := jdk_52_method_16_code, exceptionTable := #[], attributes := #[] }
def k12m2 : Method := { name := "compress", desc := "([CII)[B", sig := { parameters := [(.array .char), .int, .int], returnType := some (.array .byte) }, accessFlags := 9, code := some k12c2 }
def k12c3 : Code := { maxStack := 3, maxLocals := 7, code := jdk_52_method_21_code, exceptionTable := #[], attributes := #[] }
def k12m3 : Method := { name := "compress", desc := "([CI[BII)I", sig := { parameters := [(.array .char), .int, (.array .byte), .int, .int], returnType := some .int }, accessFlags := 9, code := some k12c3 }
/-- java/lang/StringUTF16 -/
def k12 : Class := { plain "java/lang/StringUTF16" (some 0) with
  accessFlags := 48
  interfaces := #[]
  cf := some (fileOf pool12 12 #[.nestMembers #[627, 629, 369]] #[{ accessFlags := 0, nameIndex := 9, descriptorIndex := 10, attributes := #[] }, { accessFlags := 8, nameIndex := 261, descriptorIndex := 262, attributes := #[] }, { accessFlags := 9, nameIndex := 117, descriptorIndex := 122, attributes := #[] }, { accessFlags := 9, nameIndex := 117, descriptorIndex := 118, attributes := #[] }] 48 6 #[] #[{ accessFlags := 26, nameIndex := 61, descriptorIndex := 62, attributes := #[] }, { accessFlags := 26, nameIndex := 65, descriptorIndex := 62, attributes := #[] }, { accessFlags := 24, nameIndex := 430, descriptorIndex := 62, attributes := #[] }, { accessFlags := 4120, nameIndex := 46, descriptorIndex := 47, attributes := #[] }])
  fields := #[{ name := "HI_BYTE_SHIFT", type := .int, accessFlags := 26, slot := 0, constantValue := 0 }, { name := "LO_BYTE_SHIFT", type := .int, accessFlags := 26, slot := 1, constantValue := 0 }, { name := "MAX_LENGTH", type := .int, accessFlags := 24, slot := 2, constantValue := 0 }, { name := "$assertionsDisabled", type := .boolean, accessFlags := 4120, slot := 3, constantValue := 0 }]
  methods := #[k12m0, k12m1, k12m2, k12m3]
  instanceTypes := #[]
  staticTypes := #[.int, .int, .int, .boolean]
  resolved := Array.replicate 635 none
  statics := none }

def pool13 : Array CpInfo := pool [(2, .class_ 4), (1, u "java/lang/Object"), (0, u "<init>"), (0, u "()V"), (17, .class_ 26), (1, u "jdk/internal/util/Preconditions"), (28, .class_ 56), (0, u "jdk/internal/util/Preconditions$4"), (57, .class_ 115), (0, u "jdk/internal/util/Preconditions$1"), (7, u "SIOOBE_FORMATTER"), (0, u "Ljava/util/function/BiFunction;"), (0, .class_ 126), (0, u "jdk/internal/util/Preconditions$2"), (3, u "AIOOBE_FORMATTER"), (0, .class_ 132), (0, u "jdk/internal/util/Preconditions$3"), (3, u "IOOBE_FORMATTER")] 57

def k13m0 : Method := { name := "<init>", desc := "()V", sig := { parameters := [], returnType := none }, accessFlags := 1, code := none }
/-- jdk/internal/util/Preconditions -/
def k13 : Class := { plain "jdk/internal/util/Preconditions" (some 0) with
  accessFlags := 33
  interfaces := #[]
  cf := some (fileOf pool13 24 #[.nestMembers #[55, 131, 125, 114]] #[{ accessFlags := 1, nameIndex := 5, descriptorIndex := 6, attributes := #[] }] 33 2 #[] #[{ accessFlags := 25, nameIndex := 123, descriptorIndex := 124, attributes := #[] }, { accessFlags := 25, nameIndex := 130, descriptorIndex := 124, attributes := #[] }, { accessFlags := 25, nameIndex := 136, descriptorIndex := 124, attributes := #[] }])
  fields := #[{ name := "SIOOBE_FORMATTER", type := (.object "java/util/function/BiFunction"), accessFlags := 25, slot := 0, constantValue := 0 }, { name := "AIOOBE_FORMATTER", type := (.object "java/util/function/BiFunction"), accessFlags := 25, slot := 1, constantValue := 0 }, { name := "IOOBE_FORMATTER", type := (.object "java/util/function/BiFunction"), accessFlags := 25, slot := 2, constantValue := 0 }]
  methods := #[k13m0]
  instanceTypes := #[]
  staticTypes := #[(.object "java/util/function/BiFunction"), (.object "java/util/function/BiFunction"), (.object "java/util/function/BiFunction")]
  resolved := Array.replicate 194 none
  statics := some 2 }

def pool14 : Array CpInfo := pool [(9, u "<init>"), (6, .class_ 18), (1, u "java/lang/Object"), (0, u "()V"), (1, .class_ 23), (1, u "jdk/internal/util/ArraysSupport"), (0, u "LOG2_ARRAY_LONG_INDEX_SCALE"), (0, u "I"), (2, u "U"), (0, u "Ljdk/internal/misc/Unsafe;"), (8, u "BIG_ENDIAN"), (0, u "Z"), (8, u "LOG2_BYTE_BIT_SIZE"), (4, u "LOG2_ARRAY_INT_INDEX_SCALE"), (54, u "JLA"), (0, u "Ljdk/internal/access/JavaLangAccess;"), (11, u "LOG2_ARRAY_BOOLEAN_INDEX_SCALE"), (9, u "LOG2_ARRAY_BYTE_INDEX_SCALE"), (5, u "LOG2_ARRAY_CHAR_INDEX_SCALE"), (5, u "LOG2_ARRAY_SHORT_INDEX_SCALE"), (18, u "LOG2_ARRAY_FLOAT_INDEX_SCALE"), (24, u "LOG2_ARRAY_DOUBLE_INDEX_SCALE"), (89, u "T_BOOLEAN"), (2, u "T_CHAR"), (1, u "T_FLOAT"), (1, u "T_DOUBLE"), (1, u "T_BYTE"), (1, u "T_SHORT"), (1, u "T_INT"), (1, u "T_LONG"), (1, u "SOFT_MAX_ARRAY_LENGTH")] 83

def k14m0 : Method := { name := "<init>", desc := "()V", sig := { parameters := [], returnType := none }, accessFlags := 2, code := none }
/-- jdk/internal/util/ArraysSupport -/
def k14 : Class := { plain "jdk/internal/util/ArraysSupport" (some 0) with
  accessFlags := 33
  interfaces := #[]
  cf := some (fileOf pool14 21 #[] #[{ accessFlags := 2, nameIndex := 9, descriptorIndex := 19, attributes := #[] }] 33 16 #[] #[{ accessFlags := 24, nameIndex := 28, descriptorIndex := 29, attributes := #[] }, { accessFlags := 26, nameIndex := 38, descriptorIndex := 39, attributes := #[] }, { accessFlags := 25, nameIndex := 121, descriptorIndex := 25, attributes := #[] }, { accessFlags := 25, nameIndex := 131, descriptorIndex := 25, attributes := #[] }, { accessFlags := 25, nameIndex := 137, descriptorIndex := 25, attributes := #[] }, { accessFlags := 25, nameIndex := 143, descriptorIndex := 25, attributes := #[] }, { accessFlags := 25, nameIndex := 53, descriptorIndex := 25, attributes := #[] }, { accessFlags := 25, nameIndex := 24, descriptorIndex := 25, attributes := #[] }, { accessFlags := 25, nameIndex := 162, descriptorIndex := 25, attributes := #[] }, { accessFlags := 25, nameIndex := 187, descriptorIndex := 25, attributes := #[] }, { accessFlags := 26, nameIndex := 48, descriptorIndex := 25, attributes := #[] }, { accessFlags := 25, nameIndex := 277, descriptorIndex := 25, attributes := #[] }, { accessFlags := 25, nameIndex := 280, descriptorIndex := 25, attributes := #[] }, { accessFlags := 25, nameIndex := 282, descriptorIndex := 25, attributes := #[] }, { accessFlags := 25, nameIndex := 284, descriptorIndex := 25, attributes := #[] }, { accessFlags := 25, nameIndex := 286, descriptorIndex := 25, attributes := #[] }, { accessFlags := 25, nameIndex := 288, descriptorIndex := 25, attributes := #[] }, { accessFlags := 25, nameIndex := 290, descriptorIndex := 25, attributes := #[] }, { accessFlags := 25, nameIndex := 292, descriptorIndex := 25, attributes := #[] }, { accessFlags := 26, nameIndex := 108, descriptorIndex := 109, attributes := #[] }, { accessFlags := 25, nameIndex := 294, descriptorIndex := 25, attributes := #[] }])
  fields := #[{ name := "U", type := (.object "jdk/internal/misc/Unsafe"), accessFlags := 24, slot := 0, constantValue := 0 }, { name := "BIG_ENDIAN", type := .boolean, accessFlags := 26, slot := 1, constantValue := 0 }, { name := "LOG2_ARRAY_BOOLEAN_INDEX_SCALE", type := .int, accessFlags := 25, slot := 2, constantValue := 0 }, { name := "LOG2_ARRAY_BYTE_INDEX_SCALE", type := .int, accessFlags := 25, slot := 3, constantValue := 0 }, { name := "LOG2_ARRAY_CHAR_INDEX_SCALE", type := .int, accessFlags := 25, slot := 4, constantValue := 0 }, { name := "LOG2_ARRAY_SHORT_INDEX_SCALE", type := .int, accessFlags := 25, slot := 5, constantValue := 0 }, { name := "LOG2_ARRAY_INT_INDEX_SCALE", type := .int, accessFlags := 25, slot := 6, constantValue := 0 }, { name := "LOG2_ARRAY_LONG_INDEX_SCALE", type := .int, accessFlags := 25, slot := 7, constantValue := 0 }, { name := "LOG2_ARRAY_FLOAT_INDEX_SCALE", type := .int, accessFlags := 25, slot := 8, constantValue := 0 }, { name := "LOG2_ARRAY_DOUBLE_INDEX_SCALE", type := .int, accessFlags := 25, slot := 9, constantValue := 0 }, { name := "LOG2_BYTE_BIT_SIZE", type := .int, accessFlags := 26, slot := 10, constantValue := 0 }, { name := "T_BOOLEAN", type := .int, accessFlags := 25, slot := 11, constantValue := 0 }, { name := "T_CHAR", type := .int, accessFlags := 25, slot := 12, constantValue := 0 }, { name := "T_FLOAT", type := .int, accessFlags := 25, slot := 13, constantValue := 0 }, { name := "T_DOUBLE", type := .int, accessFlags := 25, slot := 14, constantValue := 0 }, { name := "T_BYTE", type := .int, accessFlags := 25, slot := 15, constantValue := 0 }, { name := "T_SHORT", type := .int, accessFlags := 25, slot := 16, constantValue := 0 }, { name := "T_INT", type := .int, accessFlags := 25, slot := 17, constantValue := 0 }, { name := "T_LONG", type := .int, accessFlags := 25, slot := 18, constantValue := 0 }, { name := "JLA", type := (.object "jdk/internal/access/JavaLangAccess"), accessFlags := 26, slot := 19, constantValue := 0 }, { name := "SOFT_MAX_ARRAY_LENGTH", type := .int, accessFlags := 25, slot := 20, constantValue := 0 }]
  methods := #[k14m0]
  instanceTypes := #[]
  staticTypes := #[(.object "jdk/internal/misc/Unsafe"), .boolean, .int, .int, .int, .int, .int, .int, .int, .int, .int, .int, .int, .int, .int, .int, .int, .int, .int, (.object "jdk/internal/access/JavaLangAccess"), .int]
  resolved := Array.replicate 378 none
  statics := none }

def pool15 : Array CpInfo := pool [(1, u "java/lang/Cloneable"), (0, .class_ 1), (0, u "java/lang/Object"), (0, .class_ 3)] 3

/-- java/lang/Cloneable -/
def k15 : Class := { plain "java/lang/Cloneable" (some 0) with
  accessFlags := 1537
  interfaces := #[]
  cf := some (fileOf pool15 2 #[] #[] 1537 4 #[] #[])
  fields := #[]
  methods := #[]
  instanceTypes := #[]
  staticTypes := #[]
  resolved := Array.replicate 8 none
  statics := none }

/-- the primitive byte -/
def k16 : Class := { plain "byte" none with kind := .primitive 'B', accessFlags := 0x411 }
/-- [B -/
def k17 : Class := { plain "[B" (some 0) with kind := .array 16 .byte, interfaces := #[15, 4], accessFlags := 1041 }

/-- the primitive char -/
def k18 : Class := { plain "char" none with kind := .primitive 'C', accessFlags := 0x411 }
/-- [C -/
def k19 : Class := { plain "[C" (some 0) with kind := .array 18 .char, interfaces := #[15, 4], accessFlags := 1041 }

/-- the primitive int -/
def k20 : Class := { plain "int" none with kind := .primitive 'I', accessFlags := 0x411 }
/-- [I -/
def k21 : Class := { plain "[I" (some 0) with kind := .array 20 .int, interfaces := #[15, 4], accessFlags := 1041 }

def heap : Heap := #[{ cls := 6, slots := #[.ref 3, .ref 4, .ref 5, .ref 6, .ref 7, .null], vm := .statics 6 },
  { cls := 9, slots := #[.long 0, .int 1, .null, .int 0, .null, .int 0, .int 0], vm := .statics 9 },
  { cls := 13, slots := #[.null, .null, .null], vm := .statics 13 },
  { cls := 6, slots := #[.null, .int 0, .int 0], vm := .none },
  { cls := 6, slots := #[.null, .int 1, .int 0], vm := .none },
  { cls := 6, slots := #[.null, .int 2, .int 0], vm := .none },
  { cls := 6, slots := #[.null, .int 3, .int 0], vm := .none },
  { cls := 6, slots := #[.null, .int 4, .int 0], vm := .none }]
def classes : Array Class := #[k0, k1, k2, k3, k4, k5, k6, k7, k8, k9, k10, k11, k12, k13, k14, k15, k16, k17, k18, k19, k20, k21]
def interned : List (Array UInt16 × Addr) := []
def slotsUsed : Nat := 31
def theMethod : MethodId := ⟨1, 2⟩
def args0 : Array Value := #[.int 5, .int 5, .int 5, .int 5]
def aboutOver (below : List Frame) : State where
  vm := { classes := classes, interned := interned.toArray }
  heap := heap
  slotsUsed := slotsUsed
  threads := #[{ frames := .invoking theMethod args0 :: below }]
def below0 : List Frame := [.native { method := ⟨0, 0⟩, args := #[] }]
def about1 : State := aboutOver below0
def p0 : Program := .bare "" "" ""
def e0 : Env := launch0.env 0 0 0
theorem w_frames : about1.frames = Frame.invoking theMethod args0 :: below0 := rfl
set_option maxRecDepth 65536 in
theorem w_args : argsFit about1.vm theMethod args0 = true := by decide +kernel
set_option maxRecDepth 65536 in
theorem w_heap : heapFits about1 = true := by decide +kernel
set_option maxRecDepth 65536 in
theorem w_runnable : about1.curStatus? = some .runnable := by decide +kernel
set_option maxRecDepth 65536 in
theorem w_alone : about1.alone = true := by decide +kernel
set_option maxRecDepth 65536 in
theorem w_named : about1.methodNamed? x = some theMethod := by decide +kernel
set_option maxRecDepth 65536 in
theorem w_hears : about1.hears theMethod below0 = true := by decide +kernel
set_option maxRecDepth 65536 in
theorem w_ripe : about1.ripe theMethod args0 below0 = true := by decide +kernel
theorem w_running : about1.status = .running := rfl
set_option maxRecDepth 65536 in
theorem w_room : about1.hasRoom e0.platform room_1 = true :=
  launch0.hasRoom_least _ room_1 (by decide +kernel) (by decide +kernel) (by decide +kernel) (by decide +kernel) (by decide +kernel) (by decide +kernel)
theorem allAtoms_all (ts : List Jvm.Cond) (a : Array Jvm.Value) (st : Jvm.State) : (allAtoms ts).before a st = ts.all (fun c => c.before a st) := by
  induction ts with
  | nil => rfl
  | cons c t ih =>
    show (Jvm.Cond.and c (allAtoms t)).before a st = _
    rw [Jvm.Cond.before_and, ih, List.all_cons]
def words1 : List Jvm.Cond := Jvm.Cond.code x code maxLocals ret :: tables_1
/-- a 'code' word, met by the world's own term for the bytes: nothing is compared byte by byte -/
theorem code_word {y : MethodName} {bytes : ByteArray} {mx : Nat} {rt : Option FieldType} {a : Array Value} {s : State} {m : MethodId} {meth : Method} {c : Code} (h1 : s.methodNamed? y = some m) (h2 : s.vm.method? m = some meth) (h3 : meth.code = some c) (h4 : c.code = bytes)
    (h5 : (c.maxLocals == mx && c.exceptionTable.isEmpty && decide (c.maxStack ≤ mostOperands) && decide (meth.sig.returnType = rt) && !meth.locks && decide (parseMethodDescriptor y.desc = some meth.sig)) = true) : (Jvm.Cond.code y bytes mx rt).before a s = true := by
  simp only [Bool.and_eq_true, beq_iff_eq, Bool.not_eq_true', decide_eq_true_eq] at h5
  obtain ⟨⟨⟨⟨⟨g1, g2⟩, g3⟩, g4⟩, g5⟩, g6⟩ := h5
  simp [Cond.before, Cond.holds, Cond.value, h1, h2, h3, h4, g1, g2, g3, g4, g5, g6]
def isCode : Jvm.Cond → Bool
  | .code _ _ _ _ => true
  | _ => false
theorem all_split {L : List Jvm.Cond} {P : Jvm.Cond → Bool} (h1 : L.all (fun c => isCode c || P c) = true) (h2 : ∀ c ∈ L.filter isCode, P c = true) : L.all P = true := by
  refine List.all_eq_true.mpr fun c hc => ?_
  have h := List.all_eq_true.mp h1 c hc
  rcases Bool.eq_false_or_eq_true (isCode c) with hi | hi
  · exact h2 c (List.mem_filter.mpr ⟨hc, hi⟩)
  · simpa [hi] using h
set_option maxRecDepth 65536 in
theorem w_c0 : (Jvm.Cond.code x code maxLocals ret).before args0 about1 = true := code_word (m := ⟨1, 2⟩) (meth := k1m2) (c := k1c2) (by decide +kernel) rfl rfl rfl (by decide +kernel)
set_option maxRecDepth 65536 in
theorem w_c1 : (Jvm.Cond.code ({ cls := "com/example/confluens/confluens/RuleTokenIsPinLaw", name := "mk", desc := "(ICC)Ljava/lang/String;" } : Jvm.MethodName) method_2_code (3 : Nat) (Option.some (Jvm.ClassFile.FieldType.object "java/lang/String"))).before args0 about1 = true := code_word (m := ⟨1, 1⟩) (meth := k1m1) (c := k1c1) (by decide +kernel) rfl rfl rfl (by decide +kernel)
set_option maxRecDepth 65536 in
theorem w_c2 : (Jvm.Cond.code ({ cls := "java/lang/String", name := "<init>", desc := "([C)V" } : Jvm.MethodName) jdk_42_method_3_code (2 : Nat) (Option.none : Option Jvm.ClassFile.FieldType)).before args0 about1 = true := code_word (m := ⟨9, 1⟩) (meth := k9m1) (c := k9c1) (by decide +kernel) rfl rfl rfl (by decide +kernel)
set_option maxRecDepth 65536 in
theorem w_c3 : (Jvm.Cond.code ({ cls := "java/lang/String", name := "<init>", desc := "([CIILjava/lang/Void;)V" } : Jvm.MethodName) jdk_42_method_149_code (6 : Nat) (Option.none : Option Jvm.ClassFile.FieldType)).before args0 about1 = true := code_word (m := ⟨9, 4⟩) (meth := k9m4) (c := k9c4) (by decide +kernel) rfl rfl rfl (by decide +kernel)
set_option maxRecDepth 65536 in
theorem w_c4 : (Jvm.Cond.code ({ cls := "java/lang/Object", name := "<init>", desc := "()V" } : Jvm.MethodName) object_method_1_code (1 : Nat) (Option.none : Option Jvm.ClassFile.FieldType)).before args0 about1 = true := code_word (m := ⟨0, 0⟩) (meth := k0m0) (c := k0c0) (by decide +kernel) rfl rfl rfl (by decide +kernel)
set_option maxRecDepth 65536 in
theorem w_c5 : (Jvm.Cond.code ({ cls := "com/example/confluens/confluens/RuleToken", name := "<init>", desc := "(Lcom/example/confluens/confluens/RuleToken$Kind;Ljava/lang/String;I)V" } : Jvm.MethodName) prog_16_method_1_code (4 : Nat) (Option.none : Option Jvm.ClassFile.FieldType)).before args0 about1 = true := code_word (m := ⟨10, 0⟩) (meth := k10m0) (c := k10c0) (by decide +kernel) rfl rfl rfl (by decide +kernel)
set_option maxRecDepth 65536 in
theorem w_c6 : (Jvm.Cond.code ({ cls := "com/example/confluens/confluens/RuleToken", name := "is", desc := "(Ljava/lang/String;)Z" } : Jvm.MethodName) prog_16_method_5_code (2 : Nat) (Option.some Jvm.ClassFile.FieldType.boolean)).before args0 about1 = true := code_word (m := ⟨10, 1⟩) (meth := k10m1) (c := k10c1) (by decide +kernel) rfl rfl rfl (by decide +kernel)
set_option maxRecDepth 65536 in
theorem w_c7 : (Jvm.Cond.code ({ cls := "java/lang/String", name := "equals", desc := "(Ljava/lang/Object;)Z" } : Jvm.MethodName) jdk_42_method_66_code (3 : Nat) (Option.some Jvm.ClassFile.FieldType.boolean)).before args0 about1 = true := code_word (m := ⟨9, 2⟩) (meth := k9m2) (c := k9c2) (by decide +kernel) rfl rfl rfl (by decide +kernel)
set_option maxRecDepth 65536 in
theorem w_c8 : (Jvm.Cond.code ({ cls := "java/lang/StringLatin1", name := "equals", desc := "([B[B)Z" } : Jvm.MethodName) jdk_43_method_13_code (3 : Nat) (Option.some Jvm.ClassFile.FieldType.boolean)).before args0 about1 = true := code_word (m := ⟨11, 2⟩) (meth := k11m2) (c := k11c2) (by decide +kernel) rfl rfl rfl (by decide +kernel)
set_option maxRecDepth 65536 in
theorem w_c9 : (Jvm.Cond.code ({ cls := "java/lang/StringUTF16", name := "compress", desc := "([CII)[B" } : Jvm.MethodName) jdk_52_method_16_code (6 : Nat) (Option.some (Jvm.ClassFile.FieldType.array Jvm.ClassFile.FieldType.byte))).before args0 about1 = true := code_word (m := ⟨12, 2⟩) (meth := k12m2) (c := k12c2) (by decide +kernel) rfl rfl rfl (by decide +kernel)
set_option maxRecDepth 65536 in
theorem w_c10 : (Jvm.Cond.code ({ cls := "java/lang/StringUTF16", name := "compress", desc := "([CI[BII)I" } : Jvm.MethodName) jdk_52_method_21_code (7 : Nat) (Option.some Jvm.ClassFile.FieldType.int)).before args0 about1 = true := code_word (m := ⟨12, 3⟩) (meth := k12m3) (c := k12c3) (by decide +kernel) rfl rfl rfl (by decide +kernel)
set_option maxRecDepth 65536 in
theorem w_c11 : (Jvm.Cond.code ({ cls := "java/lang/StringUTF16", name := "coderFromArrayLen", desc := "([BI)B" } : Jvm.MethodName) jdk_52_method_15_code (2 : Nat) (Option.some Jvm.ClassFile.FieldType.byte)).before args0 about1 = true := code_word (m := ⟨12, 1⟩) (meth := k12m1) (c := k12c1) (by decide +kernel) rfl rfl rfl (by decide +kernel)
set_option maxRecDepth 65536 in
theorem w_c12 : (Jvm.Cond.code ({ cls := "java/lang/String", name := "valueOf", desc := "(C)Ljava/lang/String;" } : Jvm.MethodName) jdk_42_method_139_code (1 : Nat) (Option.some (Jvm.ClassFile.FieldType.object "java/lang/String"))).before args0 about1 = true := code_word (m := ⟨9, 3⟩) (meth := k9m3) (c := k9c3) (by decide +kernel) rfl rfl rfl (by decide +kernel)
set_option maxRecDepth 65536 in
theorem w_c13 : (Jvm.Cond.code ({ cls := "java/lang/StringLatin1", name := "canEncode", desc := "(C)Z" } : Jvm.MethodName) jdk_43_method_3_code (1 : Nat) (Option.some Jvm.ClassFile.FieldType.boolean)).before args0 about1 = true := code_word (m := ⟨11, 1⟩) (meth := k11m1) (c := k11c1) (by decide +kernel) rfl rfl rfl (by decide +kernel)
set_option maxRecDepth 65536 in
theorem w_c14 : (Jvm.Cond.code ({ cls := "java/lang/StringLatin1", name := "toBytes", desc := "(C)[B" } : Jvm.MethodName) jdk_43_method_46_code (1 : Nat) (Option.some (Jvm.ClassFile.FieldType.array Jvm.ClassFile.FieldType.byte))).before args0 about1 = true := code_word (m := ⟨11, 3⟩) (meth := k11m3) (c := k11c3) (by decide +kernel) rfl rfl rfl (by decide +kernel)
set_option maxRecDepth 65536 in
theorem w_c15 : (Jvm.Cond.code ({ cls := "java/lang/String", name := "<init>", desc := "([BB)V" } : Jvm.MethodName) jdk_42_method_151_code (3 : Nat) (Option.none : Option Jvm.ClassFile.FieldType)).before args0 about1 = true := code_word (m := ⟨9, 5⟩) (meth := k9m5) (c := k9c5) (by decide +kernel) rfl rfl rfl (by decide +kernel)
def codes1 : List Jvm.Cond := [Jvm.Cond.code x code maxLocals ret, Jvm.Cond.code ({ cls := "com/example/confluens/confluens/RuleTokenIsPinLaw", name := "mk", desc := "(ICC)Ljava/lang/String;" } : Jvm.MethodName) method_2_code (3 : Nat) (Option.some (Jvm.ClassFile.FieldType.object "java/lang/String")), Jvm.Cond.code ({ cls := "java/lang/String", name := "<init>", desc := "([C)V" } : Jvm.MethodName) jdk_42_method_3_code (2 : Nat) (Option.none : Option Jvm.ClassFile.FieldType), Jvm.Cond.code ({ cls := "java/lang/String", name := "<init>", desc := "([CIILjava/lang/Void;)V" } : Jvm.MethodName) jdk_42_method_149_code (6 : Nat) (Option.none : Option Jvm.ClassFile.FieldType), Jvm.Cond.code ({ cls := "java/lang/Object", name := "<init>", desc := "()V" } : Jvm.MethodName) object_method_1_code (1 : Nat) (Option.none : Option Jvm.ClassFile.FieldType), Jvm.Cond.code ({ cls := "com/example/confluens/confluens/RuleToken", name := "<init>", desc := "(Lcom/example/confluens/confluens/RuleToken$Kind;Ljava/lang/String;I)V" } : Jvm.MethodName) prog_16_method_1_code (4 : Nat) (Option.none : Option Jvm.ClassFile.FieldType), Jvm.Cond.code ({ cls := "com/example/confluens/confluens/RuleToken", name := "is", desc := "(Ljava/lang/String;)Z" } : Jvm.MethodName) prog_16_method_5_code (2 : Nat) (Option.some Jvm.ClassFile.FieldType.boolean), Jvm.Cond.code ({ cls := "java/lang/String", name := "equals", desc := "(Ljava/lang/Object;)Z" } : Jvm.MethodName) jdk_42_method_66_code (3 : Nat) (Option.some Jvm.ClassFile.FieldType.boolean), Jvm.Cond.code ({ cls := "java/lang/StringLatin1", name := "equals", desc := "([B[B)Z" } : Jvm.MethodName) jdk_43_method_13_code (3 : Nat) (Option.some Jvm.ClassFile.FieldType.boolean), Jvm.Cond.code ({ cls := "java/lang/StringUTF16", name := "compress", desc := "([CII)[B" } : Jvm.MethodName) jdk_52_method_16_code (6 : Nat) (Option.some (Jvm.ClassFile.FieldType.array Jvm.ClassFile.FieldType.byte)), Jvm.Cond.code ({ cls := "java/lang/StringUTF16", name := "compress", desc := "([CI[BII)I" } : Jvm.MethodName) jdk_52_method_21_code (7 : Nat) (Option.some Jvm.ClassFile.FieldType.int), Jvm.Cond.code ({ cls := "java/lang/StringUTF16", name := "coderFromArrayLen", desc := "([BI)B" } : Jvm.MethodName) jdk_52_method_15_code (2 : Nat) (Option.some Jvm.ClassFile.FieldType.byte), Jvm.Cond.code ({ cls := "java/lang/String", name := "valueOf", desc := "(C)Ljava/lang/String;" } : Jvm.MethodName) jdk_42_method_139_code (1 : Nat) (Option.some (Jvm.ClassFile.FieldType.object "java/lang/String")), Jvm.Cond.code ({ cls := "java/lang/StringLatin1", name := "canEncode", desc := "(C)Z" } : Jvm.MethodName) jdk_43_method_3_code (1 : Nat) (Option.some Jvm.ClassFile.FieldType.boolean), Jvm.Cond.code ({ cls := "java/lang/StringLatin1", name := "toBytes", desc := "(C)[B" } : Jvm.MethodName) jdk_43_method_46_code (1 : Nat) (Option.some (Jvm.ClassFile.FieldType.array Jvm.ClassFile.FieldType.byte)), Jvm.Cond.code ({ cls := "java/lang/String", name := "<init>", desc := "([BB)V" } : Jvm.MethodName) jdk_42_method_151_code (3 : Nat) (Option.none : Option Jvm.ClassFile.FieldType)]
set_option maxRecDepth 65536 in
theorem codes_eq : words1.filter isCode = codes1 := rfl
theorem w_codes : ∀ c ∈ words1.filter isCode, c.before args0 about1 = true := by
  rw [codes_eq]
  intro c hc
  simp only [codes1, List.mem_cons, List.not_mem_nil, or_false] at hc
  rcases hc with rfl | rfl | rfl | rfl | rfl | rfl | rfl | rfl | rfl | rfl | rfl | rfl | rfl | rfl | rfl | rfl
  · exact w_c0
  · exact w_c1
  · exact w_c2
  · exact w_c3
  · exact w_c4
  · exact w_c5
  · exact w_c6
  · exact w_c7
  · exact w_c8
  · exact w_c9
  · exact w_c10
  · exact w_c11
  · exact w_c12
  · exact w_c13
  · exact w_c14
  · exact w_c15
set_option maxRecDepth 65536 in
theorem w_t1 : (words1.take 24).all (fun c => isCode c || c.before args0 about1) = true := by decide +kernel
set_option maxRecDepth 65536 in
theorem w_t2 : ((words1.drop 24).take 24).all (fun c => isCode c || c.before args0 about1) = true := by decide +kernel
set_option maxRecDepth 65536 in
theorem w_t3 : (((words1.drop 24).drop 24).take 24).all (fun c => isCode c || c.before args0 about1) = true := by decide +kernel
set_option maxRecDepth 65536 in
theorem w_t4 : (((words1.drop 24).drop 24).drop 24).all (fun c => isCode c || c.before args0 about1) = true := by decide +kernel
theorem w_tables : (allAtoms (Jvm.Cond.code x code maxLocals ret :: tables_1)).before args0 about1 = true := by
  rw [allAtoms_all]
  show words1.all (fun c => c.before args0 about1) = true
  refine all_split ?_ w_codes
  rw [← List.take_append_drop 24 words1, List.all_append, w_t1, ← List.take_append_drop 24 (words1.drop 24), List.all_append, w_t2, ← List.take_append_drop 24 ((words1.drop 24).drop 24), List.all_append, w_t3, w_t4]
  rfl
set_option maxRecDepth 65536 in
theorem w_rest : rest_1_c.before args0 about1 = true := by decide +kernel
set_option maxRecDepth 65536 in
theorem w_case : (Jvm.Cond.and given_1 narrow_1).before args0 about1 = true := by decide +kernel
set_option maxRecDepth 65536 in
theorem w_consts : constsHeld consts_1 about1 := Jvm.Lit.constsHeldB_iff.mp (by decide +kernel)
theorem w_applies : (headSpec (Jvm.Cond.code x code maxLocals ret :: tables_1) room_1).applies x e0.platform about1 = true :=
  (Spec.applies_iff w_frames).mpr ⟨w_running, w_runnable, w_alone, w_named, w_hears, w_ripe, w_room, w_tables⟩
theorem atStart : AtStart classFile x code maxLocals ret World_1 tables_1 room_1 Calls_1 rest_1 Pre_1 launch0 p0 e0 about1 theMethod args0 below0 :=
  ⟨lists_1, trivial, launch0.admits_env _ _ _, launch0.least_env, fairChoices_fair.cas, fairChoices_fair.clock, w_frames, w_args, w_heap, w_applies, ⟨w_consts, trivial⟩, w_rest, w_case⟩
end start1
theorem witness_1 : WitnessClaimed_1 := ⟨start1.p0, start1.e0, start1.about1, start1.theMethod, start1.args0, start1.below0, start1.atStart⟩
end Jvm.Pilot.@@N@@
