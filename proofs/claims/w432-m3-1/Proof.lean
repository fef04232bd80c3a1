import JvmDerived
import JvmDerived.Pilot.@@N@@Statement
import JvmDerived.Pilot.@@N@@Code
set_option linter.unusedVariables false
set_option linter.unusedSimpArgs false
namespace Jvm.RoadKit
open Sem ClassFile Op Lib Jvm.Stand Jvm.Free Jvm.LawKit
section New
variable {p : Program} {l : Launch} {e : Env} {R : Room} {s : State} {m : MethodId} {args : Array Value} {below : List Frame} {meth : Method} {c : Code} {T : State} {locs : List Loc} {cells slots : Nat}
theorem retI (X : Stand p l e R s m args below meth c T locs cells slots) (hx : p.tables.exec = Jvm.exec) {pc : Nat} {Ls : Array Slot} {z : Int32} {rest : List Value} (hret : meth.sig.returnType = some .int) (hd : decode c.code pc = .ok (.ireturn, 1)) {fs : List Frame}
    (hl : ∀ (f : JFrame) (acts : List Action), f.method = m → f.locked = none → f.entered = [] → (doReturn e (T.setTop f) acts (some (.int z))).1 = T.setFrames fs) : Steps p.tables e below (T.setTop (mkF m pc Ls (.int z :: rest))) (T.setFrames fs) := by
  have hm' : T.vm.method? m = some meth := X.method'
  have hn : narrow .int (.int z) = .int z := rfl
  show Steps p.tables e below (T.setTop { method := m, pc := pc, locals := Ls, stack := _ :: rest, locked := none }) _
  jvm_step X.here [X.here.top, hx, hd, hm', hret, hn]
  first | (intro acts; rw [hl _ acts rfl rfl rfl]) | rw [hl _ _ rfl rfl rfl]
  exact Steps.refl _
end New
end Jvm.RoadKit
/- laws to paste: Road.backV, Road.codOf, Road.eqW (cut by pick.py; bodies as the Statement names them) -/
namespace Jvm.Pilot.@@N@@
namespace StrChars
open Jvm Sem ClassFile Op Lib Jvm.Stand Jvm.Free.XT Jvm.Free.ALB Jvm.Free.JM Jvm.Free
open Jvm.Lib.Cold (StaticIs)
/-- a char array whose places are chars -/
def Ch (a : Addr) (A : Cell) (U : State) : Prop := Arr .char a A U ∧ Typed .char A
theorem Ch.mv {a : Addr} {A : Cell} {U U' : State} (h : Ch a A U) (hal : U.vm.Alike U'.vm) (hh : U'.heap = U.heap) : Ch a A U' := ⟨h.1.mv hal hh, h.2⟩
theorem Ch.keep {a : Addr} {A : Cell} {U U' : State} (h : Ch a A U) (hal : U.vm.Alike U'.vm) (hk : U'.heap[a]? = some A) : Ch a A U' := ⟨h.1.keep hal hk, h.2⟩
/-- what place i of a char[]'s cell holds -/
def cv (A : Cell) (i : Nat) : Int32 := match A.slots[i]? with | some (.int x) => x | _ => 0
theorem Ch.get {a : Addr} {A : Cell} {U : State} (h : Ch a A U) {i : Nat} (hi : i < A.slots.size) : A.slots[i]? = some (.int (cv A i)) := by
  have e := Array.getElem?_eq_getElem hi
  have f := h.2 i _ e
  unfold cv; rw [e]
  generalize A.slots[i] = v at f
  cases v <;> simp [fits] at f ⊢
/-- the byte that i2b leaves of a char -/
def lo8 (x : Int32) : Int32 := x.toInt8.toInt32
theorem fits_lo8 (y : Int32) : fits .byte (.int (lo8 y)) = true := by
  have h1 := y.toInt8.le_toInt
  have h2 := y.toInt8.toInt_lt
  simp only [lo8, fits, Bool.and_eq_true, decide_eq_true_eq, Int32.le_iff_toInt_le, Int8.toInt_toInt32, show (-128 : Int32).toInt = -128 from by decide, show (127 : Int32).toInt = 127 from by decide]
  omega
/-- A' is A but that each place j of lo .. hi - 1 holds f j -/
def Laid (A A' : Cell) (lo hi : Nat) (f : Nat → Value) : Prop := A'.cls = A.cls ∧ A'.vm = A.vm ∧ A'.slots.size = A.slots.size ∧ ∀ i, A'.slots[i]? = if lo ≤ i ∧ i < hi then some (f i) else A.slots[i]?
theorem Laid.zero (A : Cell) (lo : Nat) (f : Nat → Value) : Laid A A lo (lo + 0) f := ⟨rfl, rfl, rfl, fun i => by rw [if_neg (by omega)]⟩
theorem Laid.step {A Ak : Cell} {lo k : Nat} {f : Nat → Value} {v : Value} (h : Laid A Ak lo k f) (hlo : lo ≤ k) (hk : k < Ak.slots.size) (hv : v = f k) : Laid A (Ak.setSlot k v) lo (k + 1) f := by
  refine ⟨h.1, h.2.1, by simpa [Cell.setSlot] using h.2.2.1, fun i => ?_⟩
  by_cases e : k = i
  · subst e; rw [Cell.slots_setSlot_self v hk, if_pos (by omega), hv]
  · rw [Cell.slots_setSlot_ne v e, h.2.2.2 i]
    by_cases q : lo ≤ i ∧ i < k
    · rw [if_pos q, if_pos (by omega)]
    · rw [if_neg q, if_neg (by omega)]
def U16 : String := "java/lang/StringUTF16"
namespace Cmp5
def yN : MethodName := ⟨"java/lang/StringUTF16", "compress", "([CI[BII)I"⟩
abbrev yB : ByteArray := jdk_52_method_21_code
theorem d0 : decode yB 0 = .ok (.iconst 0, 1) := by decide +kernel
theorem d1 : decode yB 1 = .ok (.istore 5, 2) := by decide +kernel
theorem d3 : decode yB 3 = .ok (.iload 5, 2) := by decide +kernel
theorem d5 : decode yB 5 = .ok (.iload 4, 2) := by decide +kernel
theorem d7 : decode yB 7 = .ok (.if_icmp (.ge) 37, 3) := by decide +kernel
theorem d10 : decode yB 10 = .ok (.aload_n 0, 1) := by decide +kernel
theorem d11 : decode yB 11 = .ok (.iload_n 1, 1) := by decide +kernel
theorem d12 : decode yB 12 = .ok (.caload, 1) := by decide +kernel
theorem d13 : decode yB 13 = .ok (.istore 6, 2) := by decide +kernel
theorem d15 : decode yB 15 = .ok (.iload 6, 2) := by decide +kernel
theorem d17 : decode yB 17 = .ok (.sipush 255, 3) := by decide +kernel
theorem d20 : decode yB 20 = .ok (.if_icmp (.le) 6, 3) := by decide +kernel
theorem d26 : decode yB 26 = .ok (.aload_n 2, 1) := by decide +kernel
theorem d27 : decode yB 27 = .ok (.iload_n 3, 1) := by decide +kernel
theorem d28 : decode yB 28 = .ok (.iload 6, 2) := by decide +kernel
theorem d30 : decode yB 30 = .ok (.i2b, 1) := by decide +kernel
theorem d31 : decode yB 31 = .ok (.bastore, 1) := by decide +kernel
theorem d32 : decode yB 32 = .ok (.iinc 1 1, 3) := by decide +kernel
theorem d35 : decode yB 35 = .ok (.iinc 3 1, 3) := by decide +kernel
theorem d38 : decode yB 38 = .ok (.iinc 5 1, 3) := by decide +kernel
theorem d41 : decode yB 41 = .ok (.goto (-38), 3) := by decide +kernel
theorem d44 : decode yB 44 = .ok (.iload 4, 2) := by decide +kernel
theorem d46 : decode yB 46 = .ok (.ireturn, 1) := by decide +kernel
def site : List Cond := []
def tab : Cond := tabOf yN yB 7 (some .int) site
def P (b : Addr) (A : Cell) (d : Addr) (B : Cell) (o q len : Nat) (args : Array Value) (s : State) : Prop := args = #[.ref b, .int (Int32.ofNat o), .ref d, .int (Int32.ofNat q), .int (Int32.ofNat len)] ∧ Ch b A s ∧ Arr .byte d B s ∧ b ≠ d ∧ o + len ≤ A.slots.size ∧ q + len ≤ B.slots.size ∧ ∀ i, i < len → ¬ 255 < cv A (o + i)
def E (b : Addr) (A : Cell) (d : Addr) (B : Cell) (o q len : Nat) (r : Option Value) (s u : State) : Prop := r = some (.int (Int32.ofNat len)) ∧ ∃ B', Put d B' s u ∧ Laid B B' q (q + len) (fun j => Value.int (lo8 (cv A (o + (j - q)))))
/-- no char of the range above 255: len; the places written hold each char's low byte -/
theorem law (l : Launch) (b : Addr) (A : Cell) (d : Addr) (B : Cell) (o q len : Nat) : Law l yN 5 5 0 0 yB 7 (some .int) site (P b A d B o q len) (E b A d B o q len) (copyLocs d q len) 0 0 := by
  refine Law.of_walk (plainFor_of_name (by decide +kernel)) (by decide +kernel) (by decide +kernel) (by decide) (fun _ _ h => by rw [h.1]; rfl) (fun _ U U' hal hh h => ⟨h.1, h.2.1.mv hal hh, h.2.2.1.mv hal hh, h.2.2.2⟩) (fun r U U' V V' h1 hal h2 h => ⟨h.1, h.2.elim fun B' q => ⟨B', q.1.mv h1 h2, q.2⟩⟩) ?_
  intro p e s m args below meth c s₁ X0 hexec hbytes hml hret hlk hnm hown hh0 W hP
  obtain ⟨rfl, hA, hB, hne, l1, l2, hp⟩ := hP
  have c1 : Steps p.tables e below (s₁.setTop (entryFrame m #[.ref b, .int (Int32.ofNat o), .ref d, .int (Int32.ofNat q), .int (Int32.ofNat len)] 7)) (s₁.setTop (mkF m 0 #[.val (.ref b), .val (.int (Int32.ofNat o)), .val (.ref d), .val (.int (Int32.ofNat q)), .val (.int (Int32.ofNat len)), .unset, .unset] [])) := entry rfl
  have hA0 := hA.1.mv X0.warmed.alike hh0
  have hB0 := hB.mv X0.warmed.alike hh0
  have a31 := hA.1.2.2.2
  have c2 : Steps p.tables e below (s₁.setTop (entryFrame m #[.ref b, .int (Int32.ofNat o), .ref d, .int (Int32.ofNat q), .int (Int32.ofNat len)] 7)) (s₁.setTop (mkF m 3 #[.val (.ref b), .val (.int (Int32.ofNat o)), .val (.ref d), .val (.int (Int32.ofNat q)), .val (.int (Int32.ofNat len)), .val (.int 0), .unset] [])) := c1.trans (by
    refine iconstV X0.here hexec rfl 0 (hb hbytes d0) (by decide) ?_
    refine XS.istore X0.here hexec rfl (hb hbytes d1) rfl rfl ?_
    exact Steps.refl _)
  have loop : ∀ (r i : Nat), i + r = len → ∀ (z : Slot), (z = .unset ∨ ∃ w, z = .val w ∧ w.category = 1) → ∀ (Tl : State) (Bk : Cell), Stand p l e { frames := 0, locals := 0, cells := 0, slots := 0 } s m #[.ref b, .int (Int32.ofNat o), .ref d, .int (Int32.ofNat q), .int (Int32.ofNat len)] below meth c Tl ([] ++ copyLocs d q i) 0 0 → Put d Bk s₁ Tl → Laid B Bk q (q + i) (fun j => Value.int (lo8 (cv A (o + (j - q))))) →
      Steps p.tables e below (s₁.setTop (entryFrame m #[.ref b, .int (Int32.ofNat o), .ref d, .int (Int32.ofNat q), .int (Int32.ofNat len)] 7)) (Tl.setTop (mkF m 3 #[.val (.ref b), .val (.int (Int32.ofNat (o + i))), .val (.ref d), .val (.int (Int32.ofNat (q + i))), .val (.int (Int32.ofNat len)), .val (.int (Int32.ofNat i)), z] [])) → ∃ (T' : State) (B' : Cell) (z' : Slot), Stand p l e { frames := 0, locals := 0, cells := 0, slots := 0 } s m #[.ref b, .int (Int32.ofNat o), .ref d, .int (Int32.ofNat q), .int (Int32.ofNat len)] below meth c T' ([] ++ copyLocs d q len) 0 0 ∧ Put d B' s₁ T' ∧ Laid B B' q (q + len) (fun j => Value.int (lo8 (cv A (o + (j - q))))) ∧
      Steps p.tables e below (s₁.setTop (entryFrame m #[.ref b, .int (Int32.ofNat o), .ref d, .int (Int32.ofNat q), .int (Int32.ofNat len)] 7)) (T'.setTop (mkF m 3 #[.val (.ref b), .val (.int (Int32.ofNat (o + len))), .val (.ref d), .val (.int (Int32.ofNat (q + len))), .val (.int (Int32.ofNat len)), .val (.int (Int32.ofNat len)), z'] [])) := by
    intro r
    induction r with
    | zero =>
      intro i hi z hz Tl Bk Xl pl fl cl
      have hil : i = len := by omega
      rw [hil] at Xl fl cl
      exact ⟨Tl, Bk, z, Xl, pl, fl, cl⟩
    | succ r ih =>
      intro i hi z hz Tl Bk Xl pl fl cl
      have all := X0.warmed.alike.symm.trans Xl.warmed.alike
      have hAl := hA0.keep all (pl.other hne hA0.1)
      have hBk := hB0.like all pl.1 fl.1 fl.2.1 fl.2.2.1
      have hlt : q + i < Bk.slots.size := by rw [fl.2.2.1]; omega
      have c3 : Steps p.tables e below (s₁.setTop (entryFrame m #[.ref b, .int (Int32.ofNat o), .ref d, .int (Int32.ofNat q), .int (Int32.ofNat len)] 7)) (Tl.setTop (mkF m 12 #[.val (.ref b), .val (.int (Int32.ofNat (o + i))), .val (.ref d), .val (.int (Int32.ofNat (q + i))), .val (.int (Int32.ofNat len)), .val (.int (Int32.ofNat i)), z] [.int (Int32.ofNat (o + i)), .ref b])) := cl.trans (by
        refine XS.iload Xl.here hexec rfl (hb hbytes d3) rfl ?_
        refine XS.iload Xl.here hexec rfl (hb hbytes d5) rfl ?_
        refine XS.icmpNo Xl.here hexec rfl (hb hbytes d7) rfl (ii_ge_f (lt32 (by omega) (by omega))) ?_
        refine XS.aloadN Xl.here hexec rfl (hb hbytes d10) rfl rfl ?_
        refine XS.iloadN Xl.here hexec rfl (hb hbytes d11) rfl ?_
        exact Steps.refl _)
      have c4 : Steps p.tables e below (s₁.setTop (entryFrame m #[.ref b, .int (Int32.ofNat o), .ref d, .int (Int32.ofNat q), .int (Int32.ofNat len)] 7)) (Tl.setTop (mkF m 13 #[.val (.ref b), .val (.int (Int32.ofNat (o + i))), .val (.ref d), .val (.int (Int32.ofNat (q + i))), .val (.int (Int32.ofNat len)), .val (.int (Int32.ofNat i)), z] [.int (cv A (o + i))])) := c3.trans (by
        refine Xl.aget hexec hAl rfl (hA.get (i := o + i) (by omega)) rfl rfl (hb hbytes d12) ?_
        exact Steps.refl _)
      have c5 : Steps p.tables e below (s₁.setTop (entryFrame m #[.ref b, .int (Int32.ofNat o), .ref d, .int (Int32.ofNat q), .int (Int32.ofNat len)] 7)) (Tl.setTop (mkF m 15 #[.val (.ref b), .val (.int (Int32.ofNat (o + i))), .val (.ref d), .val (.int (Int32.ofNat (q + i))), .val (.int (Int32.ofNat len)), .val (.int (Int32.ofNat i)), .val (.int (cv A (o + i)))] [])) := c4.trans (by
        refine XS.istoreS Xl.here hexec rfl (hb hbytes d13) rfl rfl hz ?_
        exact Steps.refl _)
      have c6 : Steps p.tables e below (s₁.setTop (entryFrame m #[.ref b, .int (Int32.ofNat o), .ref d, .int (Int32.ofNat q), .int (Int32.ofNat len)] 7)) (Tl.setTop (mkF m 31 #[.val (.ref b), .val (.int (Int32.ofNat (o + i))), .val (.ref d), .val (.int (Int32.ofNat (q + i))), .val (.int (Int32.ofNat len)), .val (.int (Int32.ofNat i)), .val (.int (cv A (o + i)))] [.int (lo8 (cv A (o + i))), .int (Int32.ofNat (q + i)), .ref d])) := c5.trans (by
        refine XS.iload Xl.here hexec rfl (hb hbytes d15) rfl ?_
        refine sipushV Xl.here hexec rfl 255 (hb hbytes d17) (by decide) ?_
        refine XS.icmpYes Xl.here hexec rfl (pc0 := 20) rfl (hb hbytes d20) rfl (ii_le_t (hp i (by omega))) (by decide) rfl ?_
        refine XS.aloadN Xl.here hexec rfl (hb hbytes d26) rfl rfl ?_
        refine XS.iloadN Xl.here hexec rfl (hb hbytes d27) rfl ?_
        refine XS.iload Xl.here hexec rfl (hb hbytes d28) rfl ?_
        refine i2b Xl.here hexec rfl (hb hbytes d30) rfl ?_
        exact Steps.refl _)
      obtain ⟨T7, X7, p7, st7⟩ := Xl.aput hexec hBk rfl hlt rfl (fits_lo8 (cv A (o + i))) (g := (mkF m 31 #[.val (.ref b), .val (.int (Int32.ofNat (o + i))), .val (.ref d), .val (.int (Int32.ofNat (q + i))), .val (.int (Int32.ofNat len)), .val (.int (Int32.ofNat i)), .val (.int (cv A (o + i)))] [.int (lo8 (cv A (o + i))), .int (Int32.ofNat (q + i)), .ref d])) rfl (rest := []) rfl (hb hbytes d31)
      have c8 : Steps p.tables e below (s₁.setTop (entryFrame m #[.ref b, .int (Int32.ofNat o), .ref d, .int (Int32.ofNat q), .int (Int32.ofNat len)] 7)) (T7.setTop (mkF m 32 #[.val (.ref b), .val (.int (Int32.ofNat (o + i))), .val (.ref d), .val (.int (Int32.ofNat (q + i))), .val (.int (Int32.ofNat len)), .val (.int (Int32.ofNat i)), .val (.int (cv A (o + i)))] [])) := c6.trans (st7 _ (Steps.refl _))
      have c9 : Steps p.tables e below (s₁.setTop (entryFrame m #[.ref b, .int (Int32.ofNat o), .ref d, .int (Int32.ofNat q), .int (Int32.ofNat len)] 7)) (T7.setTop (mkF m 3 #[.val (.ref b), .val (.int (Int32.ofNat (o + i) + 1)), .val (.ref d), .val (.int (Int32.ofNat (q + i) + 1)), .val (.int (Int32.ofNat len)), .val (.int (Int32.ofNat i + 1)), .val (.int (cv A (o + i)))] [])) := c8.trans (by
        refine iincV X7.here hexec rfl 1 (hb hbytes d32) (by decide) rfl rfl ?_
        refine iincV X7.here hexec rfl 1 (hb hbytes d35) (by decide) rfl rfl ?_
        refine iincV X7.here hexec rfl 1 (hb hbytes d38) (by decide) rfl rfl ?_
        refine XS.goto X7.here hexec rfl (pc0 := 41) rfl (hb hbytes d41) (by decide) rfl ?_
        exact Steps.refl _)
      have c10 : Steps p.tables e below (s₁.setTop (entryFrame m #[.ref b, .int (Int32.ofNat o), .ref d, .int (Int32.ofNat q), .int (Int32.ofNat len)] 7)) (T7.setTop (mkF m 3 #[.val (.ref b), .val (.int (Int32.ofNat (o + (i + 1)))), .val (.ref d), .val (.int (Int32.ofNat (q + (i + 1)))), .val (.int (Int32.ofNat len)), .val (.int (Int32.ofNat (i + 1))), .val (.int (cv A (o + i)))] [])) := by
        have := c9
        rw [succ32, succ32, succ32] at this
        exact this
      exact ih (i + 1) (by omega) _ (Or.inr ⟨_, rfl, rfl⟩) T7 _ (by rw [copyLocs_step, ← List.append_assoc]; exact X7) (pl.trans p7) (fl.step (by omega) hlt (by simp)) c10
  obtain ⟨T9, B9, z9, X9, p9, f9, g9⟩ := loop len 0 (by omega) .unset (Or.inl rfl) s₁ B (by simpa [copyLocs] using X0) ⟨hB0.1, fun _ _ => rfl, rfl⟩ (Laid.zero _ _ _) c2
  have c11 : Steps p.tables e below (s₁.setTop (entryFrame m #[.ref b, .int (Int32.ofNat o), .ref d, .int (Int32.ofNat q), .int (Int32.ofNat len)] 7)) (T9.setTop (mkF m 46 #[.val (.ref b), .val (.int (Int32.ofNat (o + len))), .val (.ref d), .val (.int (Int32.ofNat (q + len))), .val (.int (Int32.ofNat len)), .val (.int (Int32.ofNat len)), z9] [.int (Int32.ofNat len)])) := g9.trans (by
    refine XS.iload X9.here hexec rfl (hb hbytes d3) rfl ?_
    refine XS.iload X9.here hexec rfl (hb hbytes d5) rfl ?_
    refine XS.icmpYes X9.here hexec rfl (pc0 := 7) rfl (hb hbytes d7) rfl (ii_ge_t (nlt32 (by omega) (Nat.le_refl _))) (by decide) rfl ?_
    refine XS.iload X9.here hexec rfl (hb hbytes d44) rfl ?_
    exact Steps.refl _)
  exact ⟨T9, some (.int (Int32.ofNat len)), _, _, _, X9, by simp, rfl, rfl, (fun h => by cases h), ⟨rfl, B9, p9.from hh0, f9⟩, fun fs hl => c11.trans (X9.ireturnOut hexec hret rfl (Or.inl rfl) (hb hbytes d46) hl)⟩
end Cmp5
namespace Cmp3
def yN : MethodName := ⟨"java/lang/StringUTF16", "compress", "([CII)[B"⟩
abbrev yB : ByteArray := jdk_52_method_16_code
theorem d0 : decode yB 0 = .ok (.iload_n 2, 1) := by decide +kernel
theorem d1 : decode yB 1 = .ok (.newarray .byte, 2) := by decide +kernel
theorem d3 : decode yB 3 = .ok (.astore_n 3, 1) := by decide +kernel
theorem d4 : decode yB 4 = .ok (.aload_n 0, 1) := by decide +kernel
theorem d5 : decode yB 5 = .ok (.iload_n 1, 1) := by decide +kernel
theorem d6 : decode yB 6 = .ok (.aload_n 3, 1) := by decide +kernel
theorem d7 : decode yB 7 = .ok (.iconst 0, 1) := by decide +kernel
theorem d8 : decode yB 8 = .ok (.iload_n 2, 1) := by decide +kernel
theorem d9 : decode yB 9 = .ok (.invokestatic 115, 3) := by decide +kernel
theorem d12 : decode yB 12 = .ok (.istore 4, 2) := by decide +kernel
theorem d14 : decode yB 14 = .ok (.iload 4, 2) := by decide +kernel
theorem d16 : decode yB 16 = .ok (.iload_n 2, 1) := by decide +kernel
theorem d17 : decode yB 17 = .ok (.if_icmp (.eq) 40, 3) := by decide +kernel
theorem d57 : decode yB 57 = .ok (.aload_n 3, 1) := by decide +kernel
theorem d58 : decode yB 58 = .ok (.areturn, 1) := by decide +kernel
def site : List Cond := [.arrayClass .byte, Cmp5.tab] ++ staticW U16 115 Cmp5.yN
def tab : Cond := tabOf yN yB 6 (some (.array .byte)) site
def P (b : Addr) (A : Cell) (o len : Nat) (args : Array Value) (s : State) : Prop := args = #[.ref b, .int (Int32.ofNat o), .int (Int32.ofNat len)] ∧ Ch b A s ∧ o + len ≤ A.slots.size ∧ len ≤ 536870912 ∧ ∀ i, i < len → ¬ 255 < cv A (o + i)
def E (b : Addr) (A : Cell) (o len : Nat) (r : Option Value) (s u : State) : Prop := NewArr .byte "[B" len (fun j => .int (lo8 (cv A (o + j)))) r s u ∧ u.heap.size = s.heap.size + 1
/-- no char of the range above 255: a new byte[] of their low bytes -/
theorem law (l : Launch) (b : Addr) (A : Cell) (o len : Nat) : Law l yN 3 3 1 18 yB 6 (some (.array .byte)) site (P b A o len) (E b A o len) [] 1 len := by
  refine Law.of_walk (plainFor_of_name (by decide +kernel)) (by decide +kernel) (by decide +kernel) (by decide) (fun _ _ h => by rw [h.1]; rfl) (fun _ U U' hal hh h => ⟨h.1, h.2.1.mv hal hh, h.2.2⟩) (fun r U U' V V' h1 hal h2 h => ⟨NewArr.mv r U U' V V' h1 hal h2 h.1, by rw [h1, h2]; exact h.2⟩) ?_
  intro p e s m args below meth c s₁ X0 hexec hbytes hml hret hlk hnm hown hh0 W hP
  obtain ⟨rfl, hA, l1, l2, hp⟩ := hP
  have a31 := hA.1.2.2.2
  have c1 : Steps p.tables e below (s₁.setTop (entryFrame m #[.ref b, .int (Int32.ofNat o), .int (Int32.ofNat len)] 6)) (s₁.setTop (mkF m 0 #[.val (.ref b), .val (.int (Int32.ofNat o)), .val (.int (Int32.ofNat len)), .unset, .unset, .unset] [])) := entry rfl
  have c2 : Steps p.tables e below (s₁.setTop (entryFrame m #[.ref b, .int (Int32.ofNat o), .int (Int32.ofNat len)] 6)) (s₁.setTop (mkF m 1 #[.val (.ref b), .val (.int (Int32.ofNat o)), .val (.int (Int32.ofNat len)), .unset, .unset, .unset] [.int (Int32.ofNat len)])) := c1.trans (by
    refine XS.iloadN X0.here hexec rfl (hb hbytes d0) rfl ?_
    exact Steps.refl _)
  obtain ⟨T3, B3, X3, ba3, bs3, bv3, bh3, bf3, st3⟩ := X0.anew hexec (atype := .byte) (wk W (.arrayClass .byte)) rfl (by show len * 1 ≤ _; omega) (by omega) (g := (mkF m 1 #[.val (.ref b), .val (.int (Int32.ofNat o)), .val (.int (Int32.ofNat len)), .unset, .unset, .unset] [.int (Int32.ofNat len)])) rfl (hb hbytes d1) (rest := []) rfl (Nat.le_refl _) (by show 0 + len ≤ len; omega)
  rw [hh0] at ba3 st3
  have kp3 : XT.Kept s T3 := (XT.Kept.of_eq hh0).push bh3
  have hA3 := hA.keep X3.warmed.alike (kp3 _ _ hA.1.1)
  have hne : b ≠ s.heap.size := hA.1.ne
  have c4 : Steps p.tables e below (s₁.setTop (entryFrame m #[.ref b, .int (Int32.ofNat o), .int (Int32.ofNat len)] 6)) (T3.setTop (mkF m 3 #[.val (.ref b), .val (.int (Int32.ofNat o)), .val (.int (Int32.ofNat len)), .unset, .unset, .unset] [.ref s.heap.size])) := c2.trans (st3 _ (Steps.refl _))
  have c5 : Steps p.tables e below (s₁.setTop (entryFrame m #[.ref b, .int (Int32.ofNat o), .int (Int32.ofNat len)] 6)) (T3.setTop (mkF m 9 #[.val (.ref b), .val (.int (Int32.ofNat o)), .val (.int (Int32.ofNat len)), .val (.ref s.heap.size), .unset, .unset] [.int (Int32.ofNat len), .int 0, .ref s.heap.size, .int (Int32.ofNat o), .ref b])) := c4.trans (by
    refine XS.astoreN X3.here hexec rfl (hb hbytes d3) rfl rfl rfl ?_
    refine XS.aloadN X3.here hexec rfl (hb hbytes d4) rfl rfl ?_
    refine XS.iloadN X3.here hexec rfl (hb hbytes d5) rfl ?_
    refine XS.aloadN X3.here hexec rfl (hb hbytes d6) rfl rfl ?_
    refine iconstV X3.here hexec rfl 0 (hb hbytes d7) (by decide) ?_
    refine XS.iloadN X3.here hexec rfl (hb hbytes d8) rfl ?_
    exact Steps.refl _)
  obtain ⟨v6, T6, X6, E6, g6⟩ := X3.callS hexec (Cmp5.law l b A s.heap.size B3 o 0 len) hown (wks W (staticW U16 115 Cmp5.yN)) (wk W Cmp5.tab) (W := 0) (Nat.le_of_ble_eq_true rfl) (Nat.le_of_ble_eq_true rfl) (Nat.le_refl _) (by show 0 + len + 0 ≤ len; omega) (g := (mkF m 9 #[.val (.ref b), .val (.int (Int32.ofNat o)), .val (.int (Int32.ofNat len)), .val (.ref s.heap.size), .unset, .unset] [.int (Int32.ofNat len), .int (Int32.ofNat 0), .ref s.heap.size, .int (Int32.ofNat o), .ref b])) rfl (by rw [hml]; rfl) c5 (argsL := [.ref b, .int (Int32.ofNat o), .ref s.heap.size, .int (Int32.ofNat 0), .int (Int32.ofNat len)]) (rest := []) rfl rfl (by show 2 * 0 + 0 ≤ _; decide) (hb hbytes d9) (⟨rfl, hA3, ba3, hne, l1, by rw [bs3]; simp, hp⟩)
  obtain ⟨rfl, B6, p6, f6⟩ := E6
  have c7 : Steps p.tables e below (s₁.setTop (entryFrame m #[.ref b, .int (Int32.ofNat o), .int (Int32.ofNat len)] 6)) (T6.setTop (mkF m 12 #[.val (.ref b), .val (.int (Int32.ofNat o)), .val (.int (Int32.ofNat len)), .val (.ref s.heap.size), .unset, .unset] [.int (Int32.ofNat len)])) := g6
  have c8 : Steps p.tables e below (s₁.setTop (entryFrame m #[.ref b, .int (Int32.ofNat o), .int (Int32.ofNat len)] 6)) (T6.setTop (mkF m 58 #[.val (.ref b), .val (.int (Int32.ofNat o)), .val (.int (Int32.ofNat len)), .val (.ref s.heap.size), .val (.int (Int32.ofNat len)), .unset] [.ref s.heap.size])) := c7.trans (by
    refine XS.istore X6.here hexec rfl (hb hbytes d12) rfl rfl ?_
    refine XS.iload X6.here hexec rfl (hb hbytes d14) rfl ?_
    refine XS.iloadN X6.here hexec rfl (hb hbytes d16) rfl ?_
    refine XS.icmpYes X6.here hexec rfl (pc0 := 17) rfl (hb hbytes d17) rfl (ii_eq_t rfl) (by decide) rfl ?_
    refine XS.aloadN X6.here hexec rfl (hb hbytes d57) rfl rfl ?_
    exact Steps.refl _)
  have X8 := X6.wide (L' := []) (cells' := 1) (slots' := len) (fun x hx hlt => by
    simp only [List.nil_append, copyLocs, List.mem_map, List.mem_range] at hx
    obtain ⟨i, -, rfl⟩ := hx
    exact absurd hlt (Nat.lt_irrefl _)) (Nat.le_refl _) (by omega)
  exact ⟨T6, some (.ref s.heap.size), _, _, _, X8, rfl, rfl, rfl, (fun h => by cases h), ⟨⟨rfl, B6, ba3.like (X3.warmed.alike.symm.trans X6.warmed.alike) p6.1 f6.1 f6.2.1 f6.2.2.1, f6.2.1.trans bv3, by rw [X6.warmed.alike.findClass, f6.1]; exact bf3, by rw [f6.2.2.1, bs3]; simp, fun j hj => by rw [f6.2.2.2 j, if_pos (by omega)]; rfl, kp3.put p6 (Nat.le_refl _)⟩, by rw [p6.2.2, bh3, hh0]; simp⟩, fun fs hl => c8.trans (X8.areturnOut hexec rfl hret rfl (hb hbytes d58) hl)⟩
end Cmp3
namespace CodL
def yN : MethodName := ⟨"java/lang/StringUTF16", "coderFromArrayLen", "([BI)B"⟩
abbrev yB : ByteArray := jdk_52_method_15_code
theorem d0 : decode yB 0 = .ok (.iload_n 1, 1) := by decide +kernel
theorem d1 : decode yB 1 = .ok (.aload_n 0, 1) := by decide +kernel
theorem d2 : decode yB 2 = .ok (.arraylength, 1) := by decide +kernel
theorem d3 : decode yB 3 = .ok (.isub, 1) := by decide +kernel
theorem d4 : decode yB 4 = .ok (.bipush 31, 2) := by decide +kernel
theorem d6 : decode yB 6 = .ok (.iushr, 1) := by decide +kernel
theorem d7 : decode yB 7 = .ok (.i2b, 1) := by decide +kernel
theorem d8 : decode yB 8 = .ok (.ireturn, 1) := by decide +kernel
def site : List Cond := []
def tab : Cond := tabOf yN yB 2 (some .byte) site
def P (d : Addr) (B : Cell) (args : Array Value) (s : State) : Prop := args = #[.ref d, .int (Int32.ofNat B.slots.size)] ∧ Arr .byte d B s
def E (r : Option Value) (s u : State) : Prop := XT.PureE (some (.int 0)) r s u
/-- an array as long as the number of chars: LATIN1 -/
theorem law (l : Launch) (d : Addr) (B : Cell) : Law l yN 2 2 0 0 yB 2 (some .byte) site (P d B) E [] 0 0 := by
  refine Law.of_walk (plainFor_of_name (by decide +kernel)) (by decide +kernel) (by decide +kernel) (by decide) (fun _ _ h => by rw [h.1]; rfl) (fun _ U U' hal hh h => ⟨h.1, h.2.mv hal hh⟩) (fun r U U' V V' h1 hal h2 h => XT.PureE.mv r U U' V V' h1 hal h2 h) ?_
  intro p e s m args below meth c s₁ X0 hexec hbytes hml hret hlk hnm hown hh0 W hP
  obtain ⟨rfl, hB⟩ := hP
  have hB0 := hB.mv X0.warmed.alike hh0
  have c1 : Steps p.tables e below (s₁.setTop (entryFrame m #[.ref d, .int (Int32.ofNat B.slots.size)] 2)) (s₁.setTop (mkF m 0 #[.val (.ref d), .val (.int (Int32.ofNat B.slots.size))] [])) := entry rfl
  have c2 : Steps p.tables e below (s₁.setTop (entryFrame m #[.ref d, .int (Int32.ofNat B.slots.size)] 2)) (s₁.setTop (mkF m 2 #[.val (.ref d), .val (.int (Int32.ofNat B.slots.size))] [.ref d, .int (Int32.ofNat B.slots.size)])) := c1.trans (by
    refine XS.iloadN X0.here hexec rfl (hb hbytes d0) rfl ?_
    refine XS.aloadN X0.here hexec rfl (hb hbytes d1) rfl rfl ?_
    exact Steps.refl _)
  have c3 : Steps p.tables e below (s₁.setTop (entryFrame m #[.ref d, .int (Int32.ofNat B.slots.size)] 2)) (s₁.setTop (mkF m 8 #[.val (.ref d), .val (.int (Int32.ofNat B.slots.size))] [.int (lo8 (ushr (Int32.ofNat B.slots.size - Int32.ofNat B.slots.size) 31))])) := c2.trans (by
    refine X0.alen hexec hB0 rfl rfl (hb hbytes d2) ?_
    refine XS.isub X0.here hexec rfl (hb hbytes d3) rfl ?_
    refine bipushV X0.here hexec rfl 31 (hb hbytes d4) (by decide) ?_
    refine iushr X0.here hexec rfl (hb hbytes d6) rfl ?_
    refine i2b X0.here hexec rfl (hb hbytes d7) rfl ?_
    exact Steps.refl _)
  have e0 : lo8 (ushr (Int32.ofNat B.slots.size - Int32.ofNat B.slots.size) 31) = 0 := by rw [Int32.sub_self]; decide
  rw [e0] at c3
  exact ⟨s₁, some (.int 0), _, _, _, X0, rfl, rfl, rfl, (fun h => by cases h), ⟨rfl, hh0⟩, fun fs hl => c3.trans (X0.ireturnOut hexec hret rfl (Or.inr (Or.inr (Or.inl rfl))) (hb hbytes d8) hl)⟩
end CodL
/-- the String at a is Latin-1 over a new byte[] (the heap's one new cell): the low bytes of the len chars of A from o on; every cell but a is kept -/
def Got (a : Addr) (D : Cell) (fV fC : Field) (A : Cell) (o len : Nat) (r : Option Value) (s u : State) : Prop := r = none ∧ ∃ D' V : Cell, Blank "java/lang/String" a D' u ∧ Same D D' [fV.slot, fC.slot] ∧ D'.slots[fV.slot]? = some (.ref s.heap.size) ∧ D'.slots[fC.slot]? = some (.int 0) ∧ Arr .byte s.heap.size V u ∧ V.vm = .none ∧ u.vm.findClass "[B" = some V.cls ∧ V.slots.size = len ∧ (∀ j, j < len → V.slots[j]? = some (.int (lo8 (cv A (o + j))))) ∧ (∀ (y : Addr) (c : Cell), y ≠ a → s.heap[y]? = some c → u.heap[y]? = some c) ∧ u.heap.size = s.heap.size + 1
theorem Got.mv {a : Addr} {D A : Cell} {fV fC : Field} {o len : Nat} : ∀ r (U U' V V' : State), U'.heap = U.heap → V.vm.Alike V'.vm → V'.heap = V.heap → Got a D fV fC A o len r U V → Got a D fV fC A o len r U' V' :=
  fun r U U' V V' h1 hal h2 ⟨e0, D', X, a1, a2, a3, a4, a5, a6, a7, a8, a9, a10, a11⟩ => ⟨e0, D', X, a1.mv hal h2, a2, by rw [h1]; exact a3, a4, by rw [h1]; exact a5.mv hal h2, a6, by rw [hal.findClass]; exact a7, a8, a9, by rw [h1, h2]; exact a10, by rw [h1, h2]; exact a11⟩
namespace New4
def yN : MethodName := ⟨"java/lang/String", "<init>", "([CIILjava/lang/Void;)V"⟩
abbrev yB : ByteArray := jdk_42_method_149_code
theorem d0 : decode yB 0 = .ok (.aload_n 0, 1) := by decide +kernel
theorem d1 : decode yB 1 = .ok (.invokespecial 1, 3) := by decide +kernel
theorem d4 : decode yB 4 = .ok (.iload_n 3, 1) := by decide +kernel
theorem d5 : decode yB 5 = .ok (.ifCond (.ne) 22, 3) := by decide +kernel
theorem d27 : decode yB 27 = .ok (.getstatic 38, 3) := by decide +kernel
theorem d30 : decode yB 30 = .ok (.ifCond (.eq) 28, 3) := by decide +kernel
theorem d33 : decode yB 33 = .ok (.aload_n 1, 1) := by decide +kernel
theorem d34 : decode yB 34 = .ok (.iload_n 2, 1) := by decide +kernel
theorem d35 : decode yB 35 = .ok (.iload_n 3, 1) := by decide +kernel
theorem d36 : decode yB 36 = .ok (.invokestatic 177, 3) := by decide +kernel
theorem d39 : decode yB 39 = .ok (.astore 5, 2) := by decide +kernel
theorem d41 : decode yB 41 = .ok (.aload_n 0, 1) := by decide +kernel
theorem d42 : decode yB 42 = .ok (.aload 5, 2) := by decide +kernel
theorem d44 : decode yB 44 = .ok (.iload_n 3, 1) := by decide +kernel
theorem d45 : decode yB 45 = .ok (.invokestatic 47, 3) := by decide +kernel
theorem d48 : decode yB 48 = .ok (.putfield 15, 3) := by decide +kernel
theorem d51 : decode yB 51 = .ok (.aload_n 0, 1) := by decide +kernel
theorem d52 : decode yB 52 = .ok (.aload 5, 2) := by decide +kernel
theorem d54 : decode yB 54 = .ok (.putfield 9, 3) := by decide +kernel
theorem d57 : decode yB 57 = .ok (.return_, 1) := by decide +kernel
def site : List Cond := [.fieldLink "java/lang/String" 38 "java/lang/String" "COMPACT_STRINGS" "Z", Cmp3.tab, CodL.tab, .laysFinal "java/lang/String" "java/lang/String" "value" "[B", .fieldLink "java/lang/String" 9 "java/lang/String" "value" "[B", .laysFinal "java/lang/String" "java/lang/String" "coder" "B", .fieldLink "java/lang/String" 15 "java/lang/String" "coder" "B"] ++ objW "java/lang/String" 1 ++ staticW "java/lang/String" 177 Cmp3.yN ++ staticW "java/lang/String" 47 CodL.yN
def tab : Cond := tabOf yN yB 6 none site
def P (a : Addr) (D : Cell) (fV fC : Field) (b : Addr) (A : Cell) (z : Int32) (o len : Nat) (args : Array Value) (s : State) : Prop := args = #[.ref a, .ref b, .int (Int32.ofNat o), .int (Int32.ofNat len), .null] ∧ Blank "java/lang/String" a D s ∧ Found "java/lang/String" "value" "[B" fV s ∧ Found "java/lang/String" "coder" "B" fC s ∧ Ch b A s ∧ StaticIs s "java/lang/String" "COMPACT_STRINGS" "Z" (.int z) ∧ ¬ z = 0 ∧ 0 < len ∧ o + len ≤ A.slots.size ∧ len ≤ 536870912 ∧ ∀ i, i < len → ¬ 255 < cv A (o + i)
def E (a : Addr) (D : Cell) (fV fC : Field) (A : Cell) (o len : Nat) (r : Option Value) (s u : State) : Prop := Got a D fV fC A o len r s u
/-- len > 0, no char of the range above 255: a Latin-1 String of their low bytes -/
theorem law (l : Launch) (a : Addr) (D : Cell) (fV fC : Field) (b : Addr) (A : Cell) (z : Int32) (o len : Nat) : Law l yN 5 4 2 35 yB 6 none site (P a D fV fC b A z o len) (E a D fV fC A o len) [⟨a, fC.slot⟩, ⟨a, fV.slot⟩] 1 len := by
  refine Law.of_walk (plainFor_of_name (by decide +kernel)) (by decide +kernel) (by decide +kernel) (by decide) (fun _ _ h => by rw [h.1]; rfl) (fun _ U U' hal hh h => ⟨h.1, h.2.1.mv hal hh, h.2.2.1.al hal, h.2.2.2.1.al hal, h.2.2.2.2.1.mv hal hh, h.2.2.2.2.2.1.there hal hh, h.2.2.2.2.2.2⟩) (fun r U U' V V' h1 hal h2 h => Got.mv r U U' V V' h1 hal h2 h) ?_
  intro p e s m args below meth c s₁ X0 hexec hbytes hml hret hlk hnm hown hh0 W hP
  obtain ⟨rfl, hB, f1, f2, hA, s1, hz, l0, l1, l2, hp⟩ := hP
  have a31 := hA.1.2.2.2
  have c1 : Steps p.tables e below (s₁.setTop (entryFrame m #[.ref a, .ref b, .int (Int32.ofNat o), .int (Int32.ofNat len), .null] 6)) (s₁.setTop (mkF m 0 #[.val (.ref a), .val (.ref b), .val (.int (Int32.ofNat o)), .val (.int (Int32.ofNat len)), .val .null, .unset] [])) := entry rfl
  have c2 : Steps p.tables e below (s₁.setTop (entryFrame m #[.ref a, .ref b, .int (Int32.ofNat o), .int (Int32.ofNat len), .null] 6)) (s₁.setTop (mkF m 1 #[.val (.ref a), .val (.ref b), .val (.int (Int32.ofNat o)), .val (.int (Int32.ofNat len)), .val .null, .unset] [.ref a])) := c1.trans (by
    refine XS.aloadN X0.here hexec rfl (hb hbytes d0) rfl rfl ?_
    exact Steps.refl _)
  obtain ⟨T3, X3, q3, st3⟩ := X0.oinit hexec hown (wks W (objW "java/lang/String" 1)) (g := (mkF m 1 #[.val (.ref a), .val (.ref b), .val (.int (Int32.ofNat o)), .val (.int (Int32.ofNat len)), .val .null, .unset] [.ref a])) rfl (by rw [hml]; rfl) (rest := []) rfl (hb hbytes d1) (W := 0) (by show 2 * 0 + 0 ≤ _; decide) (Nat.le_of_ble_eq_true rfl) (Nat.le_of_ble_eq_true rfl)
  have hh3 := q3.trans hh0
  have c4 : Steps p.tables e below (s₁.setTop (entryFrame m #[.ref a, .ref b, .int (Int32.ofNat o), .int (Int32.ofNat len), .null] 6)) (T3.setTop (mkF m 27 #[.val (.ref a), .val (.ref b), .val (.int (Int32.ofNat o)), .val (.int (Int32.ofNat len)), .val .null, .unset] [])) := (c2.trans (st3 _ (Steps.refl _))).trans (by
    refine XS.iloadN X3.here hexec rfl (hb hbytes d4) rfl ?_
    refine XS.ifYes X3.here hexec rfl (pc0 := 5) rfl (hb hbytes d5) rfl (i0_ne_t (nz32 (by omega) l0)) (by decide) rfl ?_
    exact Steps.refl _)
  obtain ⟨T5, X5, q5, st5⟩ := X3.sget hexec hown (wk W (.fieldLink "java/lang/String" 38 "java/lang/String" "COMPACT_STRINGS" "Z")) s1 (fun _ _ h => by rw [hh3]; exact h) (g := (mkF m 27 #[.val (.ref a), .val (.ref b), .val (.int (Int32.ofNat o)), .val (.int (Int32.ofNat len)), .val .null, .unset] [])) rfl (hb hbytes d27)
  have hh5 := q5.trans hh3
  have c6 : Steps p.tables e below (s₁.setTop (entryFrame m #[.ref a, .ref b, .int (Int32.ofNat o), .int (Int32.ofNat len), .null] 6)) (T5.setTop (mkF m 30 #[.val (.ref a), .val (.ref b), .val (.int (Int32.ofNat o)), .val (.int (Int32.ofNat len)), .val .null, .unset] [.int z])) := c4.trans (st5 _ (Steps.refl _))
  have c7 : Steps p.tables e below (s₁.setTop (entryFrame m #[.ref a, .ref b, .int (Int32.ofNat o), .int (Int32.ofNat len), .null] 6)) (T5.setTop (mkF m 36 #[.val (.ref a), .val (.ref b), .val (.int (Int32.ofNat o)), .val (.int (Int32.ofNat len)), .val .null, .unset] [.int (Int32.ofNat len), .int (Int32.ofNat o), .ref b])) := c6.trans (by
    refine XS.ifNo X5.here hexec rfl (hb hbytes d30) rfl (i0_eq_f hz) ?_
    refine XS.aloadN X5.here hexec rfl (hb hbytes d33) rfl rfl ?_
    refine XS.iloadN X5.here hexec rfl (hb hbytes d34) rfl ?_
    refine XS.iloadN X5.here hexec rfl (hb hbytes d35) rfl ?_
    exact Steps.refl _)
  obtain ⟨v8, T8, X8, E8, g8⟩ := X5.callS hexec (Cmp3.law l b A o len) hown (wks W (staticW "java/lang/String" 177 Cmp3.yN)) (wk W Cmp3.tab) (W := 0) (Nat.le_of_ble_eq_true rfl) (Nat.le_of_ble_eq_true rfl) (Nat.le_refl _) (by show 0 + len ≤ len; omega) (g := (mkF m 36 #[.val (.ref a), .val (.ref b), .val (.int (Int32.ofNat o)), .val (.int (Int32.ofNat len)), .val .null, .unset] [.int (Int32.ofNat len), .int (Int32.ofNat o), .ref b])) rfl (by rw [hml]; rfl) c7 (argsL := [.ref b, .int (Int32.ofNat o), .int (Int32.ofNat len)]) (rest := []) rfl rfl (by show 2 * 0 + 0 ≤ _; decide) (hb hbytes d36) (⟨rfl, hA.mv X5.warmed.alike hh5, l1, l2, hp⟩)
  obtain ⟨e8, z8⟩ := E8
  obtain ⟨rfl, N, n1, n2, n3, n4, n5, n6⟩ := NewArr.mv _ T5 s _ _ hh5.symm (Vm.Alike.refl _) rfl e8
  rw [hh5] at z8
  have hB1 := hB.keep X8.warmed.alike (n6 _ _ hB.1)
  have hne : s.heap.size ≠ a := (Nat.ne_of_lt (Array.getElem?_eq_some_iff.mp hB.1).1).symm
  have c9 : Steps p.tables e below (s₁.setTop (entryFrame m #[.ref a, .ref b, .int (Int32.ofNat o), .int (Int32.ofNat len), .null] 6)) (T8.setTop (mkF m 39 #[.val (.ref a), .val (.ref b), .val (.int (Int32.ofNat o)), .val (.int (Int32.ofNat len)), .val .null, .unset] [.ref s.heap.size])) := g8
  have c10 : Steps p.tables e below (s₁.setTop (entryFrame m #[.ref a, .ref b, .int (Int32.ofNat o), .int (Int32.ofNat len), .null] 6)) (T8.setTop (mkF m 45 #[.val (.ref a), .val (.ref b), .val (.int (Int32.ofNat o)), .val (.int (Int32.ofNat len)), .val .null, .val (.ref s.heap.size)] [.int (Int32.ofNat N.slots.size), .ref s.heap.size, .ref a])) := by
    have hc : Steps p.tables e below (s₁.setTop (entryFrame m #[.ref a, .ref b, .int (Int32.ofNat o), .int (Int32.ofNat len), .null] 6)) (T8.setTop (mkF m 45 #[.val (.ref a), .val (.ref b), .val (.int (Int32.ofNat o)), .val (.int (Int32.ofNat len)), .val .null, .val (.ref s.heap.size)] [.int (Int32.ofNat len), .ref s.heap.size, .ref a])) := c9.trans (by
      refine XS.astore X8.here hexec rfl (hb hbytes d39) rfl rfl rfl ?_
      refine XS.aloadN X8.here hexec rfl (hb hbytes d41) rfl rfl ?_
      refine XS.aload X8.here hexec rfl (hb hbytes d42) rfl rfl ?_
      refine XS.iloadN X8.here hexec rfl (hb hbytes d44) rfl ?_
      exact Steps.refl _)
    rw [n4]; exact hc
  obtain ⟨v11, T11, X11, E11, g11⟩ := X8.callS hexec (CodL.law l s.heap.size N) hown (wks W (staticW "java/lang/String" 47 CodL.yN)) (wk W CodL.tab) (W := 1) (Nat.le_of_ble_eq_true rfl) (Nat.le_of_ble_eq_true rfl) (Nat.le_refl _) (by show 0 + len + 0 ≤ len; omega) (g := (mkF m 45 #[.val (.ref a), .val (.ref b), .val (.int (Int32.ofNat o)), .val (.int (Int32.ofNat len)), .val .null, .val (.ref s.heap.size)] [.int (Int32.ofNat N.slots.size), .ref s.heap.size, .ref a])) rfl (by rw [hml]; rfl) c10 (argsL := [.ref s.heap.size, .int (Int32.ofNat N.slots.size)]) (rest := [.ref a]) rfl rfl (by show 2 * 0 + (1 + 0) ≤ _; decide) (hb hbytes d45) (⟨rfl, n1⟩)
  obtain ⟨rfl, q11⟩ := E11
  have hB11 := hB1.mv (X8.warmed.alike.symm.trans X11.warmed.alike) q11
  have c12 : Steps p.tables e below (s₁.setTop (entryFrame m #[.ref a, .ref b, .int (Int32.ofNat o), .int (Int32.ofNat len), .null] 6)) (T11.setTop (mkF m 48 #[.val (.ref a), .val (.ref b), .val (.int (Int32.ofNat o)), .val (.int (Int32.ofNat len)), .val .null, .val (.ref s.heap.size)] [.int 0, .ref a])) := g11
  obtain ⟨T13, X13, p13, bl13, sl13, st13⟩ := X11.finit hexec hown (wk W (.fieldLink "java/lang/String" 15 "java/lang/String" "coder" "B")) (Or.inr ⟨_, (wk W (.laysFinal "java/lang/String" "java/lang/String" "coder" "B"))⟩) (Or.inl ⟨rfl, hnm⟩) f2 (Or.inl rfl) hB11 (t := .byte) (by decide +kernel) rfl (g := (mkF m 48 #[.val (.ref a), .val (.ref b), .val (.int (Int32.ofNat o)), .val (.int (Int32.ofNat len)), .val .null, .val (.ref s.heap.size)] [.int 0, .ref a])) rfl (rest := []) rfl (hb hbytes d48)
  have c14 : Steps p.tables e below (s₁.setTop (entryFrame m #[.ref a, .ref b, .int (Int32.ofNat o), .int (Int32.ofNat len), .null] 6)) (T13.setTop (mkF m 54 #[.val (.ref a), .val (.ref b), .val (.int (Int32.ofNat o)), .val (.int (Int32.ofNat len)), .val .null, .val (.ref s.heap.size)] [.ref s.heap.size, .ref a])) := (c12.trans (st13 _ (Steps.refl _))).trans (by
    refine XS.aloadN X13.here hexec rfl (hb hbytes d51) rfl rfl ?_
    refine XS.aload X13.here hexec rfl (hb hbytes d52) rfl rfl ?_
    exact Steps.refl _)
  obtain ⟨T15, X15, p15, bl15, sl15, st15⟩ := X13.finit hexec hown (wk W (.fieldLink "java/lang/String" 9 "java/lang/String" "value" "[B")) (Or.inr ⟨_, (wk W (.laysFinal "java/lang/String" "java/lang/String" "value" "[B"))⟩) (Or.inl ⟨rfl, hnm⟩) f1 (Or.inl rfl) bl13 (t := (.array .byte)) (by decide +kernel) rfl (g := (mkF m 54 #[.val (.ref a), .val (.ref b), .val (.int (Int32.ofNat o)), .val (.int (Int32.ofNat len)), .val .null, .val (.ref s.heap.size)] [.ref s.heap.size, .ref a])) rfl (rest := []) rfl (hb hbytes d54)
  have c16 : Steps p.tables e below (s₁.setTop (entryFrame m #[.ref a, .ref b, .int (Int32.ofNat o), .int (Int32.ofNat len), .null] 6)) (T15.setTop (mkF m 57 #[.val (.ref a), .val (.ref b), .val (.int (Int32.ofNat o)), .val (.int (Int32.ofNat len)), .val .null, .val (.ref s.heap.size)] [])) := c14.trans (st15 _ (Steps.refl _))
  have ap := apart (Or.inr ⟨_, (wk W (.laysFinal "java/lang/String" "java/lang/String" "value" "[B"))⟩) (Or.inr ⟨_, (wk W (.laysFinal "java/lang/String" "java/lang/String" "coder" "B"))⟩) f1 f2 (t₁ := .array .byte) (t₂ := .byte) (by decide +kernel) (by decide +kernel) (by decide)
  have al := X8.warmed.alike.symm.trans X15.warmed.alike
  have n7 : T11.heap[s.heap.size]? = some N := by rw [q11]; exact n1.1
  exact ⟨T15, none, _, _, _, X15, by simp, rfl, by omega, (fun _ => rfl), ⟨rfl, _, N, bl15, ((Same.refl D _).set _ (by simp)).set _ (by simp), sl15, (Cell.slots_setSlot_ne _ ap).trans sl13, n1.keep al (p15.other hne (p13.other hne n7)), n2, by rw [al.findClass]; exact n3, n4, n5, fun y c h1 h2 => p15.other h1 (p13.other h1 (by rw [q11]; exact n6 y c h2)), by rw [p15.2.2, p13.2.2, q11]; exact z8⟩, fun fs hl => c16.trans (X15.returnOut hexec hret (hb hbytes d57) hl)⟩
end New4
namespace New1
def yN : MethodName := ⟨"java/lang/String", "<init>", "([C)V"⟩
abbrev yB : ByteArray := jdk_42_method_3_code
theorem d0 : decode yB 0 = .ok (.aload_n 0, 1) := by decide +kernel
theorem d1 : decode yB 1 = .ok (.aload_n 1, 1) := by decide +kernel
theorem d2 : decode yB 2 = .ok (.iconst 0, 1) := by decide +kernel
theorem d3 : decode yB 3 = .ok (.aload_n 1, 1) := by decide +kernel
theorem d4 : decode yB 4 = .ok (.arraylength, 1) := by decide +kernel
theorem d5 : decode yB 5 = .ok (.aconst_null, 1) := by decide +kernel
theorem d6 : decode yB 6 = .ok (.invokespecial 27, 3) := by decide +kernel
theorem d9 : decode yB 9 = .ok (.return_, 1) := by decide +kernel
def site : List Cond := [New4.tab] ++ initW "java/lang/String" 27 New4.yN
def tab : Cond := tabOf yN yB 2 none site
def P (a : Addr) (D : Cell) (fV fC : Field) (b : Addr) (A : Cell) (z : Int32) (args : Array Value) (s : State) : Prop := args = #[.ref a, .ref b] ∧ Blank "java/lang/String" a D s ∧ Found "java/lang/String" "value" "[B" fV s ∧ Found "java/lang/String" "coder" "B" fC s ∧ Ch b A s ∧ StaticIs s "java/lang/String" "COMPACT_STRINGS" "Z" (.int z) ∧ ¬ z = 0 ∧ 0 < A.slots.size ∧ A.slots.size ≤ 536870912 ∧ ∀ i, i < A.slots.size → ¬ 255 < cv A i
def E (a : Addr) (D : Cell) (fV fC : Field) (A : Cell) (r : Option Value) (s u : State) : Prop := Got a D fV fC A 0 A.slots.size r s u
/-- new String(chars), not empty, no char above 255: a Latin-1 String of their low bytes -/
theorem law (l : Launch) (a : Addr) (D : Cell) (fV fC : Field) (b : Addr) (A : Cell) (z : Int32) : Law l yN 2 1 3 52 yB 2 none site (P a D fV fC b A z) (E a D fV fC A) [⟨a, fC.slot⟩, ⟨a, fV.slot⟩] 1 A.slots.size := by
  refine Law.of_walk (plainFor_of_name (by decide +kernel)) (by decide +kernel) (by decide +kernel) (by decide) (fun _ _ h => by rw [h.1]; rfl) (fun _ U U' hal hh h => ⟨h.1, h.2.1.mv hal hh, h.2.2.1.al hal, h.2.2.2.1.al hal, h.2.2.2.2.1.mv hal hh, h.2.2.2.2.2.1.there hal hh, h.2.2.2.2.2.2⟩) (fun r U U' V V' h1 hal h2 h => Got.mv r U U' V V' h1 hal h2 h) ?_
  intro p e s m args below meth c s₁ X0 hexec hbytes hml hret hlk hnm hown hh0 W hP
  obtain ⟨rfl, hB, f1, f2, hA, s1, hz, l0, l2, hp⟩ := hP
  have c1 : Steps p.tables e below (s₁.setTop (entryFrame m #[.ref a, .ref b] 2)) (s₁.setTop (mkF m 0 #[.val (.ref a), .val (.ref b)] [])) := entry rfl
  have c2 : Steps p.tables e below (s₁.setTop (entryFrame m #[.ref a, .ref b] 2)) (s₁.setTop (mkF m 6 #[.val (.ref a), .val (.ref b)] [.null, .int (Int32.ofNat A.slots.size), .int 0, .ref b, .ref a])) := c1.trans (by
    refine XS.aloadN X0.here hexec rfl (hb hbytes d0) rfl rfl ?_
    refine XS.aloadN X0.here hexec rfl (hb hbytes d1) rfl rfl ?_
    refine iconstV X0.here hexec rfl 0 (hb hbytes d2) (by decide) ?_
    refine XS.aloadN X0.here hexec rfl (hb hbytes d3) rfl rfl ?_
    refine X0.alen hexec (hA.1.mv X0.warmed.alike hh0) rfl rfl (hb hbytes d4) ?_
    refine XS.aconstNull X0.here hexec rfl (hb hbytes d5) ?_
    exact Steps.refl _)
  obtain ⟨v3, T3, X3, E3, g3⟩ := X0.callN hexec (New4.law l a D fV fC b A z 0 A.slots.size) rfl hown (wks W (initW "java/lang/String" 27 New4.yN)) (W New4.tab (by simp only [site, List.mem_cons, List.mem_append, true_or, or_true])) (W := 0) (Nat.le_of_ble_eq_true rfl) (Nat.le_of_ble_eq_true rfl) (Nat.le_refl _) (by show 0 + A.slots.size ≤ A.slots.size; omega) (g := (mkF m 6 #[.val (.ref a), .val (.ref b)] [.null, .int (Int32.ofNat A.slots.size), .int (Int32.ofNat 0), .ref b, .ref a])) rfl (by rw [hml]; rfl) c2 (argsL := [.ref b, .int (Int32.ofNat 0), .int (Int32.ofNat A.slots.size), .null]) (rest := []) rfl rfl (by show 2 * 0 + 0 ≤ _; decide) (hb hbytes d6) (⟨rfl, hB.mv X0.warmed.alike hh0, f1.al X0.warmed.alike, f2.al X0.warmed.alike, hA.mv X0.warmed.alike hh0, s1.there X0.warmed.alike hh0, hz, l0, by omega, l2, fun i hi => by rw [Nat.zero_add]; exact hp i hi⟩)
  have e0 := Got.mv _ s₁ s _ _ hh0.symm (Vm.Alike.refl _) rfl E3
  obtain rfl := e0.1
  have c4 : Steps p.tables e below (s₁.setTop (entryFrame m #[.ref a, .ref b] 2)) (T3.setTop (mkF m 9 #[.val (.ref a), .val (.ref b)] [])) := g3
  exact ⟨T3, none, _, _, _, X3, by simp, rfl, by omega, (fun _ => rfl), e0, fun fs hl => c4.trans (X3.returnOut hexec hret (hb hbytes d9) hl)⟩
theorem pays {l : Launch} {R : Room} {p : Program} {e : Env} {below : List Frame} {s : State} {sargs : Array Value} {len W : Nat} (a : Addr) (D : Cell) (fV fC : Field) (b : Addr) (A : Cell) (z : Int32) (htab : tab.before sargs s = true) (hfr : 4 ≤ R.frames) (hlo : W + 65 ≤ R.locals) :
    Back l R p e below s sargs yN len W (fun A₁ a₁ => A₁.cells + 1 ≤ R.cells ∧ A₁.slots + A.slots.size ≤ R.slots ∧ P a D fV fC b A z a₁ A₁.U) (fun A₁ _ v₁ B₁ => E a D fV fC A v₁ A₁.U B₁.U ∧ B₁.locs = A₁.locs ++ [⟨a, fC.slot⟩, ⟨a, fV.slot⟩] ∧ B₁.cells = A₁.cells + 1 ∧ B₁.slots = A₁.slots + A.slots.size) :=
  (law l a D fV fC b A z).pays htab hfr (by omega)
end New1
/-- the byte, read back as charAt reads it, is the char -/
theorem lo8_mask {x : Int32} (h0 : ¬ x < 0) (h1 : ¬ 255 < x) : lo8 x &&& 255 = x := by
  have t : ∀ k : Fin 256, lo8 (Int32.ofNat k.val) &&& 255 = Int32.ofNat k.val := by decide +kernel
  rw [Int32.lt_iff_toInt_lt] at h0 h1
  have e0 : (0 : Int32).toInt = 0 := rfl
  have e1 : (255 : Int32).toInt = 255 := rfl
  obtain ⟨k, hk⟩ : ∃ k : Nat, x.toInt = k := ⟨x.toInt.toNat, by omega⟩
  have hx : x = Int32.ofNat k := Int32.toInt_inj.mp (by rw [hk, Int32.toInt_ofNat_small (by omega)])
  rw [hx]
  exact t ⟨k, by omega⟩
end StrChars
namespace StrChars.Road
open Jvm Sem ClassFile Op Lib Jvm.Stand Jvm.Free Jvm.Free.XT
open Jvm.Lib.Cold (StaticIs)
abbrev ST : String := "java/lang/String"
/-- every table word that New1's law asks, flat -/
abbrev words : List Jvm.Cond := [.code New1.yN New1.yB 2 none, .initialized ST, .methodLink ST 27 New4.yN, .instanceMethod New4.yN,
  .code New4.yN New4.yB 6 none, .fieldLink ST 38 ST "COMPACT_STRINGS" "Z", .laysFinal ST ST "value" "[B", .fieldLink ST 9 ST "value" "[B", .laysFinal ST ST "coder" "B", .fieldLink ST 15 ST "coder" "B",
  .methodLink ST 1 Lib.objectInit, .instanceMethod Lib.objectInit, .code Lib.objectInit ⟨#[0xb1]⟩ 1 none, .methodLink ST 177 Cmp3.yN, .static Cmp3.yN, .methodLink ST 47 CodL.yN, .static CodL.yN,
  .code Cmp3.yN Cmp3.yB 6 (some (.array .byte)), .initialized U16, .arrayClass .byte, .methodLink U16 115 Cmp5.yN, .static Cmp5.yN, .code Cmp5.yN Cmp5.yB 7 (some .int), .code CodL.yN CodL.yB 2 (some .byte)]
theorem tab_of {a : Array Value} {s : State} (h : ∀ w ∈ words, w.before a s = true) : New1.tab.before a s = true := by
  have h5 : Cmp5.tab.before a s = true := unparts (wk h (.code Cmp5.yN Cmp5.yB 7 (some .int))) (wks h (.initialized Cmp5.yN.cls :: Cmp5.site))
  have hc : CodL.tab.before a s = true := unparts (wk h (.code CodL.yN CodL.yB 2 (some .byte))) (wks h (.initialized CodL.yN.cls :: CodL.site))
  have q5 : ∀ w ∈ Cmp5.tab :: words, w.before a s = true := fun w hw => (List.mem_cons.mp hw).elim (fun e => e ▸ h5) (h w)
  have h3 : Cmp3.tab.before a s = true := unparts (wk q5 (.code Cmp3.yN Cmp3.yB 6 (some (.array .byte)))) (wks q5 (.initialized Cmp3.yN.cls :: Cmp3.site))
  have q3 : ∀ w ∈ Cmp3.tab :: CodL.tab :: words, w.before a s = true := fun w hw => (List.mem_cons.mp hw).elim (fun e => e ▸ h3) fun hw => (List.mem_cons.mp hw).elim (fun e => e ▸ hc) (h w)
  have h4 : New4.tab.before a s = true := unparts (wk q3 (.code New4.yN New4.yB 6 none)) (wks q3 (.initialized New4.yN.cls :: New4.site))
  have q4 : ∀ w ∈ New4.tab :: words, w.before a s = true := fun w hw => (List.mem_cons.mp hw).elim (fun e => e ▸ h4) (h w)
  exact unparts (wk q4 (.code New1.yN New1.yB 2 none)) (wks q4 (.initialized New1.yN.cls :: New1.site))
/-- the words ride from the start Z to the walk's own state -/
theorem moved {Z s : State} {a0 args : Array Value} (hZ : Z.Warmed39 s.vm) (hw : ∀ d ∈ words, d.before a0 Z = true) : ∀ d ∈ words, d.before args s = true := fun d hd => by
  have q := hw d hd
  have t : ∀ d ∈ words, d = .arrayClass .byte ∨ (d.onTables && d.keepsFace) = true := by decide +kernel
  rcases t d hd with rfl | t
  · exact RoadKit.mvA hZ q
  · exact RoadKit.mv hZ q t
/-- WHAT COMES BACK, over the tables of the start Z: h the heap at the call, h' behind it -/
def Q (Z : State) (x : Addr) (A : Cell) (h : Heap) (v : Option Value) (h' : Heap) (L : List Loc) : Prop := v = none ∧ (∀ y ∈ L, y.base = x) ∧ RoadKit.Keep h h' [x] ∧ h'.size = h.size + 1 ∧ RoadKit.Exa Z h' x ST ∧ RoadKit.Fld Z h' x ST "value" "[B" (.ref h.size) ∧ RoadKit.Fld Z h' x ST "coder" "B" (.int 0) ∧
  (∃ V : Cell, RoadKit.Arr Z h' h.size V .byte ∧ V.vm = .none ∧ Z.vm.findClass "[B" = some V.cls ∧ V.slots.size = A.slots.size ∧ ∀ j, j < A.slots.size → V.slots[j]? = some (.int (lo8 (cv A j)))) ∧
  ∀ (O n d : String) (w : Value), RoadKit.Fld Z h x O n d w → RoadKit.slotOf Z O n d ≠ RoadKit.slotOf Z ST "value" "[B" → RoadKit.slotOf Z O n d ≠ RoadKit.slotOf Z ST "coder" "B" → RoadKit.Fld Z h' x O n d w
/-- **new String(chars) AT A CALL, IN THE ROAD'S FORM**: for specialBack behind newO: x the fresh String, b the char[] with the cell A -/
theorem back {p : Program} {l : Launch} {e : Env} {R : Room} {s : State} {args : Array Value} {below : List Frame} {len W : Nat} {Z : State} {a0 : Array Value} {h : Heap} (hZ : Z.Warmed39 s.vm) (hw : ∀ d ∈ words, d.before a0 Z = true) {kI : Nat} (wi : (Jvm.Cond.instantiable ST kI).before a0 Z = true)
    {x b : Addr} {A : Cell} {z : Int32} {v0 c0 : Value} (E : RoadKit.Exa Z h x ST) (V : RoadKit.Fld Z h x ST "value" "[B" v0) (C : RoadKit.Fld Z h x ST "coder" "B" c0) (K : RoadKit.Arr Z h b A .char) (hty : Typed .char A) (S : RoadKit.Sta Z h ST "COMPACT_STRINGS" "Z" (.int z)) (hz : ¬ z = 0)
    (l0 : 0 < A.slots.size) (l2 : A.slots.size ≤ 536870912) (hp : ∀ i, i < A.slots.size → ¬ 255 < cv A i) (hfr : 4 ≤ R.frames) (hlo : W + 65 ≤ R.locals) :
    Back l R p e below s args New1.yN len W (fun P a => a = #[.ref x, .ref b] ∧ P.U.heap = h ∧ P.cells + 1 ≤ R.cells ∧ P.slots + A.slots.size ≤ R.slots)
      (fun P _ v B => ∃ L, Q Z x A h v B.U.heap L ∧ B.locs = P.locs ++ L ∧ B.cells = P.cells + 1 ∧ B.slots = P.slots + A.slots.size) := by
  intro m meth c P g ig mk a X hg hsize hdg hW hn hp'
  obtain ⟨rfl, rfl, r1, r2⟩ := hp'
  have al : Z.vm.Alike P.U.vm := hZ.alike.trans X.warmed.alike
  obtain ⟨D, cfV, kV, iV, fV, hD, gV, stV, knV, obV, asV, slV⟩ := id V
  obtain ⟨D', cfC, kC, iC, fC, hD', gC, stC, -, -, asC, slC⟩ := id C
  cases hD.symm.trans hD'
  obtain ⟨D2, kD, e1, e2, e3, e4, e5⟩ := id E
  cases hD.symm.trans e1
  obtain ⟨c2, k2, i1, i2, i3, -⟩ := Cond.instantiable_spec wi
  cases e2.symm.trans i1
  cases e3.symm.trans i2
  obtain ⟨kU, u1, u2⟩ := al.2.2 _ _ e3
  have hB : Blank ST x D P.U := ⟨hD, ⟨knV, fun q hq => by rw [hq] at obV; cases obV⟩, by rw [al.findClass]; exact e2, kU, u1, by rw [u2]; exact i3, by rw [u2]; exact e5 i3⟩
  have F1 : Found ST "value" "[B" fV P.U := ⟨SBG.found_only al ⟨cfV, kV, iV, gV⟩, stV⟩
  have F2 : Found ST "coder" "B" fC P.U := ⟨SBG.found_only al ⟨cfC, kC, iC, gC⟩, stC⟩
  have hA : Ch b A P.U := ⟨⟨K.1, State.isArrayOf_alike al K.2.1, K.2.2, by omega⟩, hty⟩
  have hS : StaticIs P.U ST "COMPACT_STRINGS" "Z" (.int z) := by
    obtain ⟨cfS, iS, kS, fS, st, cS, t1, t2, t3, t4, t5, t6, t7⟩ := S
    exact StaticIs.there (s := { Z with heap := P.U.heap }) ⟨cfS, iS, kS, fS, st, cS, t1, t2, t3, t4, t5, (fun q => by rw [q] at t6; cases t6), t7⟩ al rfl
  obtain ⟨v, B, X', ⟨⟨hv, E', V', q1, q2, q3, q4, q5, q6, q7, q8, q9, q10, q11⟩, hl, hc, hs⟩, st⟩ := New1.pays x D fV fC b A z (tab_of (moved hZ hw)) hfr hlo m meth c P g ig mk _ X hg hsize hdg hW hn ⟨r1, r2, rfl, hB, F1, F2, hA, hS, hz, l0, l2, hp⟩
  have al' : Z.vm.Alike B.U.vm := hZ.alike.trans X'.warmed.alike
  have hsz : E'.slots.size = D.slots.size := by
    obtain ⟨-, -, -, kB, w1, w2, w3⟩ := q1
    obtain ⟨kB', y1, y2⟩ := al'.2.2 _ _ e3
    rw [q2.2.1] at w1
    cases w1.symm.trans y1
    rw [w3, e5 i3, y2]
  refine ⟨v, B, X', ⟨_, ⟨hv, ?_, ⟨by omega, fun y cy hy hn' => q10 y cy (by simpa using hn') hy, fun y cy hy => ?_⟩, q11, ⟨E', _, q1.1, by rw [q2.2.1]; exact e2, by rw [q2.2.1]; exact e3, by rw [q2.1]; exact obV, fun _ => by rw [hsz]; exact e5 i3⟩,
    ⟨E', cfV, kV, iV, fV, q1.1, gV, stV, by rw [q2.1]; exact knV, by rw [q2.1]; exact obV, by rw [q2.2.1]; exact asV, q3⟩, ⟨E', cfC, kC, iC, fC, q1.1, gC, stC, by rw [q2.1]; exact knV, by rw [q2.1]; exact obV, by rw [q2.2.1]; exact asC, q4⟩,
    ⟨V', ⟨q5.1, State.isArrayOf_alike al'.symm q5.2.1, q5.2.2.1⟩, q6, by rw [← al'.findClass]; exact q7, q8, fun j hj => by have := q9 j hj; rwa [Nat.zero_add] at this⟩, fun O n d w F n1 n2 => ?_⟩, hl, hc, hs⟩, st⟩
  · intro y hy
    simp only [List.mem_cons, List.not_mem_nil, or_false] at hy
    rcases hy with rfl | rfl <;> rfl
  · by_cases q : y = x
    · subst q
      cases hD.symm.trans hy
      exact ⟨E', q1.1, q2.2.1, q2.1, hsz⟩
    · exact ⟨cy, q10 y cy q hy, rfl, rfl, rfl⟩
  · obtain ⟨D3, cf, k, i, f, g1, g2, g3, g4, g5, g6, g7⟩ := F
    cases hD.symm.trans g1
    simp only [RoadKit.slotOf, g2, gV, gC, Option.map_some, Option.getD_some] at n1 n2
    exact ⟨E', cf, k, i, f, q1.1, g2, g3, by rw [q2.1]; exact g4, by rw [q2.1]; exact g5, by rw [q2.2.1]; exact g6, by rw [q2.2.2 f.slot (by simp [n1, n2])]; exact g7⟩
end StrChars.Road
namespace StrChars.Road
open Jvm Sem ClassFile Op Lib Jvm.Stand Jvm.Free Jvm.Free.XT
/-- WHAT COMES BACK, the byte[] as a list of values -/
def QA (Z : State) (x : Addr) (zn : Int32) (cs : List Int32) (h : Heap) (v : Option Value) (h' : Heap) (L : List Loc) : Prop := v = none ∧ (∀ y ∈ L, y.base = x) ∧ RoadKit.Keep h h' [x] ∧ h'.size = h.size + 1 ∧ RoadKit.Exa Z h' x ST ∧ RoadKit.Fld Z h' x ST "value" "[B" (.ref h.size) ∧ RoadKit.Fld Z h' x ST "coder" "B" (.int 0) ∧
  (∃ kb, Z.vm.findClass "[B" = some kb ∧ RoadKit.Arv Z h' h.size kb .byte zn (cs.map fun c => .int (lo8 c)) (.int 0)) ∧
  ∀ (O n d : String) (w : Value), RoadKit.Fld Z h x O n d w → RoadKit.slotOf Z O n d ≠ RoadKit.slotOf Z ST "value" "[B" → RoadKit.slotOf Z O n d ≠ RoadKit.slotOf Z ST "coder" "B" → RoadKit.Fld Z h' x O n d w
/-- **new String(chars) AT A CALL, THE ARRAYS AS LISTS**: the char[] at b holds cs, not empty, no char above 255 -/
theorem backArv {p : Program} {l : Launch} {e : Env} {R : Room} {s : State} {args : Array Value} {below : List Frame} {len W : Nat} {Z : State} {a0 : Array Value} {h : Heap} (hZ : Z.Warmed39 s.vm) (hw : ∀ d ∈ words, d.before a0 Z = true) {kI : Nat} (wi : (Jvm.Cond.instantiable ST kI).before a0 Z = true)
    {x b : Addr} {k : ClassId} {zn z : Int32} {cs : List Int32} {dv v0 c0 : Value} (E : RoadKit.Exa Z h x ST) (V : RoadKit.Fld Z h x ST "value" "[B" v0) (C : RoadKit.Fld Z h x ST "coder" "B" c0) (K : RoadKit.Arv Z h b k .char zn (cs.map Value.int) dv) (S : RoadKit.Sta Z h ST "COMPACT_STRINGS" "Z" (.int z)) (hz : ¬ z = 0)
    (hlen : zn.toNatClampNeg = cs.length) (h0 : 0 < cs.length) (hbig : cs.length ≤ 536870912) (hall : ∀ c ∈ cs, ¬ 255 < c) (hfr : 4 ≤ R.frames) (hlo : W + 65 ≤ R.locals) :
    Back l R p e below s args New1.yN len W (fun P a => a = #[.ref x, .ref b] ∧ P.U.heap = h ∧ P.cells + 1 ≤ R.cells ∧ P.slots + cs.length ≤ R.slots)
      (fun P _ v B => ∃ L, QA Z x zn cs h v B.U.heap L ∧ B.locs = P.locs ++ L ∧ B.cells = P.cells + 1 ∧ B.slots = P.slots + cs.length) := by
  obtain ⟨A, K1, K2, K3, K4, K5, K6⟩ := K
  have e : A.slots.size = cs.length := K3.trans hlen
  have hat : ∀ (i : Nat) (hi : i < cs.length), A.slots[i]? = some (.int cs[i]) := fun i hi => by rw [K5 i (by omega)]; simp [List.getD_eq_getElem?_getD, hi]
  have hcv : ∀ (i : Nat) (hi : i < cs.length), cv A i = cs[i] := fun i hi => by unfold cv; rw [hat i hi]
  have hty : Typed .char A := fun i v hv => by
    have hi : i < A.slots.size := (Array.getElem?_eq_some_iff.mp hv).1
    have q := K5 i hi
    rw [hv] at q
    rw [Option.some.inj q]
    exact K6 i hi
  refine Back.mono (back hZ hw wi E V C K1 hty S hz (by omega) (by omega) (fun i hi => by rw [hcv i (by omega)]; exact hall _ (List.getElem_mem _)) hfr hlo) (fun P a hp => ⟨hp.1, hp.2.1, hp.2.2.1, by rw [e]; exact hp.2.2.2⟩) (fun P a v B hp hq => ?_)
  obtain ⟨L, ⟨q1, q2, q3, q4, q5, q6, q7, ⟨V', v1, v2, v3, v4, v5⟩, q9⟩, hl, hc, hs⟩ := hq
  refine ⟨L, ⟨q1, q2, q3, q4, q5, q6, q7, ⟨V'.cls, v3, V', v1, rfl, by rw [v4, e, hlen], K4, fun i hi => ?_, fun i hi => ?_⟩, q9⟩, hl, hc, by rw [hs, e]⟩
  · have hi' : i < cs.length := by omega
    rw [v5 i (by omega), hcv i hi']; simp [List.getD_eq_getElem?_getD, hi']
  · have hi' : i < cs.length := by omega
    simp only [List.getD_eq_getElem?_getD, List.getElem?_map, List.getElem?_eq_getElem hi', Option.map_some, Option.getD_some]
    exact fits_lo8 _
end StrChars.Road
namespace StrChars.Road
open Jvm Sem ClassFile Op Lib Jvm.Stand Jvm.Free Jvm.Free.XT
/-- WHAT COMES BACK, in the writer's own shape -/
def QV (Z : State) (x : Addr) (N : Int32) (bs : List Int32) (h : Heap) (n0 : Nat) (v : Option Value) (h' : Heap) (L : List Loc) : Prop := v = none ∧ RoadKit.Fr n0 L ∧ RoadKit.Keep h h' [x] ∧ RoadKit.Exa Z h' x ST ∧ RoadKit.Fld Z h' x ST "coder" "B" (.int 0) ∧
  ∃ (t : Addr) (kb : ClassId), n0 ≤ t ∧ h.size ≤ t ∧ ¬ t = x ∧ RoadKit.Fld Z h' x ST "value" "[B" (.ref t) ∧ RoadKit.Arv Z h' t kb .byte N (bs.map Value.int) (.int 0)
/-- **new String(chars) AT A CALL, FOR THE WRITER**: a char[] of n known ints, each 0 to 255 -/
theorem backV {p : Program} {l : Launch} {e : Env} {R : Room} {s : State} {args : Array Value} {below : List Frame} {len W : Nat} {Z : State} {a0 : Array Value} {h : Heap} (hZ : Z.Warmed39 s.vm) (hw : ∀ d ∈ words, d.before a0 Z = true) {kI : Nat} (wi : (Jvm.Cond.instantiable ST kI).before a0 Z = true)
    {x b : Addr} {kC : ClassId} {cs bs : List Int32} {d v0 c0 : Value} {z N : Int32} {n n0 : Nat} (hx0 : n0 ≤ x) (hh0 : n0 ≤ h.size) (E : RoadKit.Exa Z h x ST) (V : RoadKit.Fld Z h x ST "value" "[B" v0) (C : RoadKit.Fld Z h x ST "coder" "B" c0) (K : RoadKit.Arv Z h b kC .char N (cs.map Value.int) d) (S : RoadKit.Sta Z h ST "COMPACT_STRINGS" "Z" (.int z)) (hz : ¬ z = 0)
    (hn : cs.length = n) (hN : N = Int32.ofNat n) (l0 : 0 < n) (l2 : n ≤ 4000) (hp : ∀ c ∈ cs, ¬ c < 0 ∧ ¬ (255 : Int32) < c) (hb : bs = cs.map (fun c => c.toInt8.toInt32)) (hfr : 4 ≤ R.frames) (hlo : W + 65 ≤ R.locals) :
    Back l R p e below s args (⟨"java/lang/String", "<init>", "([C)V"⟩ : MethodName) len W (fun P a => a = #[.ref x, .ref b] ∧ P.U.heap = h ∧ P.cells + 1 ≤ R.cells ∧ P.slots + n ≤ R.slots)
      (fun P _ v B => ∃ L, QV Z x N bs h n0 v B.U.heap L ∧ B.locs = P.locs ++ L ∧ B.cells = P.cells + 1 ∧ B.slots = P.slots + n) := by
  subst hn hN hb
  refine Back.mono (backArv hZ hw wi E V C K S hz (n32 (by omega)) l0 (by omega) (fun c hc => (hp c hc).2) hfr hlo) (fun P a hp => hp) (fun P a v B hp hq => ?_)
  obtain ⟨L, ⟨q1, q2, q3, q4, q5, q6, q7, ⟨kb, v1, v2⟩, q9⟩, hl, hc, hs⟩ := hq
  exact ⟨L, ⟨q1, fun y hy => by rw [q2 y hy]; exact hx0, q3, q5, q7, h.size, kb, hh0, Nat.le_refl _, Nat.ne_of_gt E.lt, q6, by rw [List.map_map]; exact v2⟩, hl, hc, hs⟩
end StrChars.Road
namespace StrChars
open Jvm Sem ClassFile Op Lib Jvm.Stand Jvm.Free.XT Jvm.Free.ALB Jvm.Free.JM Jvm.Free
open Jvm.Lib.Cold (StaticIs)
def hi8 (x : Int32) : Int32 := lo8 (x >>> ((8 : Int32) &&& 31))
/-- what StringUTF16.getChar makes of two bytes -/
def pairCh (u v : Int32) : Int32 := (((u &&& 255) <<< ((0 : Int32) &&& 31)) ||| ((v &&& 255) <<< ((8 : Int32) &&& 31))).toUInt32.toUInt16.toUInt32.toInt32
theorem lo8_and (x : Int32) : (lo8 x &&& 255).toBitVec.toNat = x.toBitVec.toNat % 256 := by
  have h : (lo8 x).toBitVec = (x.toBitVec.signExtend 8).signExtend 32 := by rw [lo8, Int8.toBitVec_toInt32, Int32.toBitVec_toInt8]
  rw [Int32.toBitVec_and, BitVec.toNat_and, h]
  have e : ((x.toBitVec.signExtend 8).signExtend 32).toNat % 256 = x.toBitVec.toNat % 256 := by
    rw [BitVec.toNat_signExtend]
    have hlt := x.toBitVec.isLt
    simp only [BitVec.toNat_setWidth, BitVec.toNat_signExtend]
    split <;> split <;> omega
  rw [← e]
  exact Nat.and_two_pow_sub_one_eq_mod _ 8
theorem pair_says {c : Int32} (h0 : ¬ c < 0) (h1 : ¬ 65535 < c) : pairCh (lo8 c) (hi8 c) = c := by
  rw [Int32.lt_iff_toInt_lt] at h0 h1
  have e0 : (0 : Int32).toInt = 0 := rfl
  have e1 : (65535 : Int32).toInt = 65535 := rfl
  have hc : c.toInt = c.toBitVec.toNat := by
    have := c.toBitVec.isLt
    have e : c.toInt = c.toBitVec.toInt := rfl
    rw [e] at h0 h1
    rw [e]
    rw [BitVec.toInt_eq_toNat_cond] at h0 h1 ⊢
    split at h0 <;> split <;> omega
  have hn : c.toBitVec.toNat < 65536 := by omega
  have a1 := lo8_and c
  have a2 : (hi8 c &&& 255).toBitVec.toNat = c.toBitVec.toNat / 256 := by
    rw [hi8, lo8_and]
    have e : ((8 : Int32) &&& 31) = 8 := by decide
    rw [e, Int32.toBitVec_shiftRight]
    have e2 : ((8 : Int32).toBitVec.smod 32) = 8#32 := by decide
    rw [e2, BitVec.sshiftRight_eq', BitVec.toNat_sshiftRight_of_msb_false (by rw [BitVec.msb_eq_false_iff_two_mul_lt]; omega)]
    show c.toBitVec.toNat >>> 8 % 256 = _
    rw [Nat.shiftRight_eq_div_pow]
    omega
  unfold pairCh
  apply Int32.toBitVec_inj.mp
  apply BitVec.eq_of_toNat_eq
  have f0 : ((0 : Int32) &&& 31) = 0 := by decide
  have f8 : ((8 : Int32) &&& 31) = 8 := by decide
  rw [f0, f8]
  have g : (((lo8 c &&& 255) <<< (0 : Int32)) ||| ((hi8 c &&& 255) <<< (8 : Int32))).toBitVec.toNat = c.toBitVec.toNat := by
    rw [Int32.toBitVec_or, Int32.toBitVec_shiftLeft, Int32.toBitVec_shiftLeft]
    have s0 : ((0 : Int32).toBitVec.smod 32) = 0#32 := by decide
    have s8 : ((8 : Int32).toBitVec.smod 32) = 8#32 := by decide
    rw [s0, s8, BitVec.toNat_or]
    simp only [BitVec.shiftLeft_eq', BitVec.toNat_shiftLeft, a1, a2]
    show (c.toBitVec.toNat % 256) <<< 0 % 2 ^ 32 ||| (c.toBitVec.toNat / 256) <<< 8 % 2 ^ 32 = _
    rw [Nat.shiftLeft_zero, Nat.mod_eq_of_lt (show c.toBitVec.toNat % 256 < 2 ^ 32 by omega), Nat.mod_eq_of_lt (show (c.toBitVec.toNat / 256) <<< 8 < 2 ^ 32 by rw [Nat.shiftLeft_eq]; omega), Nat.or_comm, ← Nat.shiftLeft_add_eq_or_of_lt (by omega), Nat.shiftLeft_eq]
    omega
  show BitVec.toNat (((((lo8 c &&& 255) <<< (0 : Int32)) ||| ((hi8 c &&& 255) <<< (8 : Int32))).toBitVec.setWidth 16).setWidth 32) = _
  rw [BitVec.toNat_setWidth, BitVec.toNat_setWidth, g]
  omega
end StrChars
namespace StrChars
open Jvm Sem ClassFile Op Lib Jvm.Stand Jvm.Free.XT Jvm.Free.ALB Jvm.Free.JM Jvm.Free
open Jvm.Lib.Cold (StaticIs)
/-- the array's cell V codes the n chars f 0 .. f (n - 1) by the coder cd, as the JDK does: coder 1 just where some char is above 255 -/
def Cod (cd : Int32) (n : Nat) (f : Nat → Int32) (V : Cell) : Prop := (cd = 0 ∧ V.slots.size = n ∧ ∀ j, j < n → V.slots[j]? = some (.int (lo8 (f j))) ∧ ¬ 255 < f j) ∨ (cd = 1 ∧ V.slots.size = 2 * n ∧ (∀ j, j < n → V.slots[2 * j]? = some (.int (lo8 (f j))) ∧ V.slots[2 * j + 1]? = some (.int (hi8 (f j)))) ∧ ∃ j, j < n ∧ 255 < f j)
/-- **x is a String of the n chars f 0 .. f (n - 1)**, Latin-1 or UTF-16; its array at t has the cell V -/
def Txt (x t : Addr) (V : Cell) (cd : Int32) (n : Nat) (f : Nat → Int32) (U : State) : Prop := Exact "java/lang/String" x U ∧ Has x "java/lang/String" "value" "[B" (.ref t) U ∧ Has x "java/lang/String" "coder" "B" (.int cd) U ∧ XT.Arr .byte t V U ∧ Cod cd n f V ∧ ∀ j, j < n → ¬ f j < 0 ∧ ¬ 65535 < f j
theorem Txt.mv {x t : Addr} {V : Cell} {cd : Int32} {n : Nat} {f : Nat → Int32} {U U' : State} (h : Txt x t V cd n f U) (hal : U.vm.Alike U'.vm) (hh : U'.heap = U.heap) : Txt x t V cd n f U' := ⟨h.1.mv hal hh, h.2.1.mv hal hh, h.2.2.1.mv hal hh, h.2.2.2.1.mv hal hh, h.2.2.2.2⟩
end StrChars
namespace StrChars.Road
open Jvm Sem ClassFile Op Lib Jvm.Stand Jvm.Free Jvm.Free.XT
open Jvm.Lib.Cold (StaticIs)
theorem consq {a : Array Value} {s : State} {c : Jvm.Cond} {L : List Jvm.Cond} (h0 : c.before a s = true) (h : ∀ w ∈ L, w.before a s = true) : ∀ w ∈ c :: L, w.before a s = true := fun w hw => (List.mem_cons.mp hw).elim (fun e => e ▸ h0) (h w)
/-- the bytes of the chars cs, low before high -/
def wideBytes : List Int32 → List Value
  | [] => []
  | c :: cs => .int (lo8 c) :: .int (hi8 c) :: wideBytes cs
theorem wide_lo (d : Value) : ∀ (cs : List Int32) (j : Nat), j < cs.length → (wideBytes cs).getD (2 * j) d = .int (lo8 (cs.getD j 0))
  | [], j, h => absurd h (Nat.not_lt_zero j)
  | c :: cs, 0, _ => rfl
  | c :: cs, j + 1, h => by
    have q := wide_lo d cs j (by simpa using h)
    rw [show 2 * (j + 1) = 2 * j + 1 + 1 from by omega]
    simpa [wideBytes] using q
theorem wide_hi (d : Value) : ∀ (cs : List Int32) (j : Nat), j < cs.length → (wideBytes cs).getD (2 * j + 1) d = .int (hi8 (cs.getD j 0))
  | [], j, h => absurd h (Nat.not_lt_zero j)
  | c :: cs, 0, _ => rfl
  | c :: cs, j + 1, h => by
    have q := wide_hi d cs j (by simpa using h)
    rw [show 2 * (j + 1) + 1 = 2 * j + 1 + 1 + 1 from by omega]
    simpa [wideBytes] using q
theorem low_at (d : Value) (cs : List Int32) (j : Nat) (h : j < cs.length) : (cs.map fun c => Value.int (lo8 c)).getD j d = .int (lo8 (cs.getD j 0)) := by
  simp [List.getD_eq_getElem?_getD, h]
/-- an array of N2 bytes vs codes the chars cs by the coder cd -/
def CodA (cs : List Int32) (cd N2 : Int32) (vs : List Value) : Prop := (cd = 0 ∧ N2 = Int32.ofNat cs.length ∧ vs = (cs.map fun c => Value.int (lo8 c)) ∧ ∀ c ∈ cs, ¬ 255 < c) ∨ (cd = 1 ∧ N2 = Int32.ofNat (2 * cs.length) ∧ vs = wideBytes cs ∧ ∃ c ∈ cs, 255 < c)
theorem CodA.cod {cs : List Int32} {cd N2 : Int32} {vs : List Value} {V : Cell} (h : CodA cs cd N2 vs) (hn : 2 * cs.length < 2 ^ 31) (hs : V.slots.size = N2.toNatClampNeg) (hv : RoadKit.Has V vs (.int 0)) : Cod cd cs.length (fun j => cs.getD j 0) V := by
  rcases h with ⟨rfl, rfl, rfl, h⟩ | ⟨rfl, rfl, rfl, c, hc, hw⟩
  · rw [n32 (by omega)] at hs
    exact Or.inl ⟨rfl, hs, fun j hj => ⟨by rw [hv j (by omega), low_at _ _ _ hj], by
      have e : cs.getD j 0 = cs[j] := by simp [List.getD_eq_getElem?_getD, hj]
      show ¬ 255 < cs.getD j 0
      rw [e]; exact h _ (List.getElem_mem _)⟩⟩
  · rw [n32 (by omega)] at hs
    obtain ⟨j, hj, rfl⟩ := List.getElem_of_mem hc
    exact Or.inr ⟨rfl, hs, fun j hj => ⟨by rw [hv _ (by omega), wide_lo _ _ _ hj], by rw [hv _ (by omega), wide_hi _ _ _ hj]⟩, j, hj, by
      have e : cs.getD j 0 = cs[j] := by simp [List.getD_eq_getElem?_getD, hj]
      show 255 < cs.getD j 0
      rw [e]; exact hw⟩
/-- an object of exactly java/lang/String, its two fields found: as the laws ask it -/
theorem strObj {Z U : State} {a0 : Array Value} {kI : Nat} (wi : (Jvm.Cond.instantiable ST kI).before a0 Z = true) (al : Z.vm.Alike U.vm) {x : Addr} {v0 c0 : Value} (E : RoadKit.Exa Z U.heap x ST) (V : RoadKit.Fld Z U.heap x ST "value" "[B" v0) (C : RoadKit.Fld Z U.heap x ST "coder" "B" c0) :
    ∃ (D : Cell) (fV fC : Field), Blank ST x D U ∧ Found ST "value" "[B" fV U ∧ Found ST "coder" "B" fC U ∧ D.slots[fV.slot]? = some v0 ∧ D.slots[fC.slot]? = some c0 ∧ RoadKit.slotOf Z ST "value" "[B" = fV.slot ∧ RoadKit.slotOf Z ST "coder" "B" = fC.slot := by
  obtain ⟨D, cfV, kV, iV, fV, hD, gV, stV, knV, obV, asV, slV⟩ := V
  obtain ⟨D', cfC, kC, iC, fC, hD', gC, stC, -, -, asC, slC⟩ := C
  cases hD.symm.trans hD'
  obtain ⟨D2, kD, e1, e2, e3, e4, e5⟩ := E
  cases hD.symm.trans e1
  obtain ⟨c2, k2, i1, i2, i3, -⟩ := Cond.instantiable_spec wi
  cases e2.symm.trans i1
  cases e3.symm.trans i2
  obtain ⟨kU, u1, u2⟩ := al.2.2 _ _ e3
  exact ⟨D, fV, fC, ⟨hD, ⟨knV, fun q hq => by rw [hq] at obV; cases obV⟩, by rw [al.findClass]; exact e2, kU, u1, by rw [u2]; exact i3, by rw [u2]; exact e5 i3⟩, ⟨SBG.found_only al ⟨cfV, kV, iV, gV⟩, stV⟩, ⟨SBG.found_only al ⟨cfC, kC, iC, gC⟩, stC⟩, slV, slC, by simp [RoadKit.slotOf, gV], by simp [RoadKit.slotOf, gC]⟩
theorem sta_is {Z U : State} (al : Z.vm.Alike U.vm) {C n d : String} {v : Value} (S : RoadKit.Sta Z U.heap C n d v) : StaticIs U C n d v := by
  obtain ⟨cfS, iS, kS, fS, st, cS, t1, t2, t3, t4, t5, t6, t7⟩ := S
  exact StaticIs.there (s := { Z with heap := U.heap }) ⟨cfS, iS, kS, fS, st, cS, t1, t2, t3, t4, t5, (fun q => by rw [q] at t6; cases t6), t7⟩ al rfl
end StrChars.Road
namespace StrChars
open Jvm Sem ClassFile Op Lib Jvm.Stand Jvm.Free.XT Jvm.Free.ALB Jvm.Free.JM Jvm.Free
open Jvm.Lib.Cold (StaticIs)
/-- what place i of a byte[]'s cell holds -/
def yv (A : Cell) (i : Nat) : Int32 := match A.slots[i]? with | some (.int x) => x | _ => 0
theorem yv_get {a : Addr} {A : Cell} {U : State} (h : XT.Arr .byte a A U) (ht : Typed .byte A) {i : Nat} (hi : i < A.slots.size) : A.slots[i]? = some (.int (yv A i)) := by
  have e := Array.getElem?_eq_getElem hi
  have f := ht i _ e
  unfold yv; rw [e]
  generalize A.slots[i] = v at f
  cases v <;> simp [fits] at f ⊢
/-- the two arrays are equal, place for place -/
def EqC (A B : Cell) : Prop := A.slots.size = B.slots.size ∧ ∀ i, i < A.slots.size → yv A i = yv B i
/-- a boolean that says whether p -/
def Says01 (q : Prop) (r : Option Value) (s u : State) : Prop := ∃ v : Int32, r = some (.int v) ∧ u.heap = s.heap ∧ ((v = 1 ∧ q) ∨ (v = 0 ∧ ¬ q))
theorem Says01.mv {q : Prop} : ∀ r (U U' V V' : State), U'.heap = U.heap → V.vm.Alike V'.vm → V'.heap = V.heap → Says01 q r U V → Says01 q r U' V' :=
  fun r U U' V V' h1 _ h2 ⟨v, a, b, c⟩ => ⟨v, a, by rw [h1, h2]; exact b, c⟩
namespace LEq
def yN : MethodName := ⟨"java/lang/StringLatin1", "equals", "([B[B)Z"⟩
abbrev yB : ByteArray := jdk_43_method_13_code
theorem d0 : decode yB 0 = .ok (.aload_n 0, 1) := by decide +kernel
theorem d1 : decode yB 1 = .ok (.arraylength, 1) := by decide +kernel
theorem d2 : decode yB 2 = .ok (.aload_n 1, 1) := by decide +kernel
theorem d3 : decode yB 3 = .ok (.arraylength, 1) := by decide +kernel
theorem d4 : decode yB 4 = .ok (.if_icmp (.ne) 30, 3) := by decide +kernel
theorem d7 : decode yB 7 = .ok (.iconst 0, 1) := by decide +kernel
theorem d8 : decode yB 8 = .ok (.istore_n 2, 1) := by decide +kernel
theorem d9 : decode yB 9 = .ok (.iload_n 2, 1) := by decide +kernel
theorem d10 : decode yB 10 = .ok (.aload_n 0, 1) := by decide +kernel
theorem d11 : decode yB 11 = .ok (.arraylength, 1) := by decide +kernel
theorem d12 : decode yB 12 = .ok (.if_icmp (.ge) 20, 3) := by decide +kernel
theorem d15 : decode yB 15 = .ok (.aload_n 0, 1) := by decide +kernel
theorem d16 : decode yB 16 = .ok (.iload_n 2, 1) := by decide +kernel
theorem d17 : decode yB 17 = .ok (.baload, 1) := by decide +kernel
theorem d18 : decode yB 18 = .ok (.aload_n 1, 1) := by decide +kernel
theorem d19 : decode yB 19 = .ok (.iload_n 2, 1) := by decide +kernel
theorem d20 : decode yB 20 = .ok (.baload, 1) := by decide +kernel
theorem d21 : decode yB 21 = .ok (.if_icmp (.eq) 5, 3) := by decide +kernel
theorem d24 : decode yB 24 = .ok (.iconst 0, 1) := by decide +kernel
theorem d25 : decode yB 25 = .ok (.ireturn, 1) := by decide +kernel
theorem d26 : decode yB 26 = .ok (.iinc 2 1, 3) := by decide +kernel
theorem d29 : decode yB 29 = .ok (.goto (-20), 3) := by decide +kernel
theorem d32 : decode yB 32 = .ok (.iconst 1, 1) := by decide +kernel
theorem d33 : decode yB 33 = .ok (.ireturn, 1) := by decide +kernel
theorem d34 : decode yB 34 = .ok (.iconst 0, 1) := by decide +kernel
theorem d35 : decode yB 35 = .ok (.ireturn, 1) := by decide +kernel
def site : List Cond := []
def tab : Cond := tabOf yN yB 3 (some .boolean) site
def P (a : Addr) (A : Cell) (b : Addr) (B : Cell) (args : Array Value) (s : State) : Prop := args = #[.ref a, .ref b] ∧ XT.Arr .byte a A s ∧ Typed .byte A ∧ XT.Arr .byte b B s ∧ Typed .byte B
/-- whether two byte[] are equal, place for place -/
theorem law (l : Launch) (a : Addr) (A : Cell) (b : Addr) (B : Cell) : Law l yN 2 2 0 0 yB 3 (some .boolean) site (P a A b B) (Says01 (EqC A B)) [] 0 0 := by
  refine Law.of_walk (plainFor_of_name (by decide +kernel)) (by decide +kernel) (by decide +kernel) (by decide) (fun _ _ h => by rw [h.1]; rfl) (fun _ U U' hal hh h => ⟨h.1, h.2.1.mv hal hh, h.2.2.1, h.2.2.2.1.mv hal hh, h.2.2.2.2⟩) (fun r U U' V V' h1 hal h2 h => Says01.mv r U U' V V' h1 hal h2 h) ?_
  intro p e s m args below meth c s₁ X0 hexec hbytes hml hret hlk hnm hown hh0 W hP
  obtain ⟨rfl, hA, tA, hB, tB⟩ := hP
  have a31 := hA.2.2.2
  have b31 := hB.2.2.2
  have hA0 := hA.mv X0.warmed.alike hh0
  have hB0 := hB.mv X0.warmed.alike hh0
  have c1 : Steps p.tables e below (s₁.setTop (entryFrame m #[.ref a, .ref b] 3)) (s₁.setTop (mkF m 0 #[.val (.ref a), .val (.ref b), .unset] [])) := entry rfl
  have c2 : Steps p.tables e below (s₁.setTop (entryFrame m #[.ref a, .ref b] 3)) (s₁.setTop (mkF m 4 #[.val (.ref a), .val (.ref b), .unset] [.int (Int32.ofNat B.slots.size), .int (Int32.ofNat A.slots.size)])) := c1.trans (by
    refine XS.aloadN X0.here hexec rfl (hb hbytes d0) rfl rfl ?_
    refine X0.alen hexec hA0 rfl rfl (hb hbytes d1) ?_
    refine XS.aloadN X0.here hexec rfl (hb hbytes d2) rfl rfl ?_
    refine X0.alen hexec hB0 rfl rfl (hb hbytes d3) ?_
    exact Steps.refl _)
  by_cases hs : A.slots.size = B.slots.size
  · have c3 : Steps p.tables e below (s₁.setTop (entryFrame m #[.ref a, .ref b] 3)) (s₁.setTop (mkF m 9 #[.val (.ref a), .val (.ref b), .val (.int 0)] [])) := c2.trans (by
      refine XS.icmpNo X0.here hexec rfl (hb hbytes d4) rfl (ii_ne_f (by rw [hs])) ?_
      refine iconstV X0.here hexec rfl 0 (hb hbytes d7) (by decide) ?_
      refine XS.istoreN X0.here hexec rfl (hb hbytes d8) rfl rfl ?_
      exact Steps.refl _)
    have loop : ∀ (r i : Nat), i + r = A.slots.size → (∀ j, j < i → yv A j = yv B j) → Steps p.tables e below (s₁.setTop (entryFrame m #[.ref a, .ref b] 3)) (s₁.setTop (mkF m 9 #[.val (.ref a), .val (.ref b), .val (.int (Int32.ofNat i))] [])) → ∃ (pc : Nat) (Ls : Array Slot) (v : Int32), (pc = 25 ∨ pc = 33) ∧ ((v = 1 ∧ EqC A B) ∨ (v = 0 ∧ ¬ EqC A B)) ∧ Steps p.tables e below (s₁.setTop (entryFrame m #[.ref a, .ref b] 3)) (s₁.setTop (mkF m pc Ls [.int v])) := by
      intro r
      induction r with
      | zero =>
        intro i hi he cl
        exact ⟨33, _, 1, Or.inr rfl, Or.inl ⟨rfl, hs, fun j hj => he j (by omega)⟩, cl.trans (by
          refine XS.iloadN X0.here hexec rfl (hb hbytes d9) rfl ?_
          refine XS.aloadN X0.here hexec rfl (hb hbytes d10) rfl rfl ?_
          refine X0.alen hexec hA0 rfl rfl (hb hbytes d11) ?_
          refine XS.icmpYes X0.here hexec rfl (pc0 := 12) rfl (hb hbytes d12) rfl (ii_ge_t (nlt32 (by omega) (by omega))) (by decide) rfl ?_
          refine iconstV X0.here hexec rfl 1 (hb hbytes d32) (by decide) ?_
          exact Steps.refl _)⟩
      | succ r ih =>
        intro i hi he cl
        have c4 : Steps p.tables e below (s₁.setTop (entryFrame m #[.ref a, .ref b] 3)) (s₁.setTop (mkF m 21 #[.val (.ref a), .val (.ref b), .val (.int (Int32.ofNat i))] [.int (yv B i), .int (yv A i)])) := cl.trans (by
          refine XS.iloadN X0.here hexec rfl (hb hbytes d9) rfl ?_
          refine XS.aloadN X0.here hexec rfl (hb hbytes d10) rfl rfl ?_
          refine X0.alen hexec hA0 rfl rfl (hb hbytes d11) ?_
          refine XS.icmpNo X0.here hexec rfl (hb hbytes d12) rfl (ii_ge_f (lt32 (by omega) (by omega))) ?_
          refine XS.aloadN X0.here hexec rfl (hb hbytes d15) rfl rfl ?_
          refine XS.iloadN X0.here hexec rfl (hb hbytes d16) rfl ?_
          refine X0.aget hexec hA0 rfl (yv_get hA tA (i := i) (by omega)) rfl rfl (hb hbytes d17) ?_
          refine XS.aloadN X0.here hexec rfl (hb hbytes d18) rfl rfl ?_
          refine XS.iloadN X0.here hexec rfl (hb hbytes d19) rfl ?_
          refine X0.aget hexec hB0 rfl (yv_get hB tB (i := i) (by omega)) rfl rfl (hb hbytes d20) ?_
          exact Steps.refl _)
        by_cases hv : yv A i = yv B i
        · have c5 : Steps p.tables e below (s₁.setTop (entryFrame m #[.ref a, .ref b] 3)) (s₁.setTop (mkF m 9 #[.val (.ref a), .val (.ref b), .val (.int (Int32.ofNat i + 1))] [])) := c4.trans (by
            refine XS.icmpYes X0.here hexec rfl (pc0 := 21) rfl (hb hbytes d21) rfl (ii_eq_t hv) (by decide) rfl ?_
            refine iincV X0.here hexec rfl 1 (hb hbytes d26) (by decide) rfl rfl ?_
            refine XS.goto X0.here hexec rfl (pc0 := 29) rfl (hb hbytes d29) (by decide) rfl ?_
            exact Steps.refl _)
          rw [succ32] at c5
          exact ih (i + 1) (by omega) (fun j hj => by
            by_cases e : j = i
            · rw [e]; exact hv
            · exact he j (by omega)) c5
        · exact ⟨25, _, 0, Or.inl rfl, Or.inr ⟨rfl, fun q => hv (q.2 i (by omega))⟩, c4.trans (by
            refine XS.icmpNo X0.here hexec rfl (hb hbytes d21) rfl (ii_eq_f hv) ?_
            refine iconstV X0.here hexec rfl 0 (hb hbytes d24) (by decide) ?_
            exact Steps.refl _)⟩
    obtain ⟨pc, Ls, v, hpc, hv, cz⟩ := loop A.slots.size 0 (by omega) (fun j hj => absurd hj (Nat.not_lt_zero j)) c3
    have nv : narrow .boolean (.int v) = .int v := by rcases hv with ⟨rfl, -⟩ | ⟨rfl, -⟩ <;> rfl
    rcases hpc with rfl | rfl
    · exact ⟨s₁, some (.int v), _, _, _, X0, rfl, rfl, rfl, (fun h => by cases h), ⟨v, rfl, hh0, hv⟩, fun fs hl => cz.trans (X0.ireturnOut hexec hret nv (Or.inr (Or.inl rfl)) (hb hbytes d25) hl)⟩
    · exact ⟨s₁, some (.int v), _, _, _, X0, rfl, rfl, rfl, (fun h => by cases h), ⟨v, rfl, hh0, hv⟩, fun fs hl => cz.trans (X0.ireturnOut hexec hret nv (Or.inr (Or.inl rfl)) (hb hbytes d33) hl)⟩
  · have c3 : Steps p.tables e below (s₁.setTop (entryFrame m #[.ref a, .ref b] 3)) (s₁.setTop (mkF m 35 #[.val (.ref a), .val (.ref b), .unset] [.int 0])) := c2.trans (by
      refine XS.icmpYes X0.here hexec rfl (pc0 := 4) rfl (hb hbytes d4) rfl (ii_ne_t (ne32 a31 b31 hs)) (by decide) rfl ?_
      refine iconstV X0.here hexec rfl 0 (hb hbytes d34) (by decide) ?_
      exact Steps.refl _)
    exact ⟨s₁, some (.int 0), _, _, _, X0, rfl, rfl, rfl, (fun h => by cases h), ⟨0, rfl, hh0, Or.inr ⟨rfl, fun q => hs q.1⟩⟩, fun fs hl => c3.trans (X0.ireturnOut hexec hret rfl (Or.inr (Or.inl rfl)) (hb hbytes d35) hl)⟩
end LEq
theorem Cod.ty {cd : Int32} {n : Nat} {f : Nat → Int32} {V : Cell} (h : Cod cd n f V) : Typed .byte V := fun i v hv => by
  have hi : i < V.slots.size := (Array.getElem?_eq_some_iff.mp hv).1
  rcases h with ⟨-, k1, k2⟩ | ⟨-, k1, k2, -⟩
  · rw [(k2 i (by omega)).1] at hv; cases hv; exact fits_lo8 _
  · rcases Nat.mod_two_eq_zero_or_one i with e | e
    · obtain ⟨j, rfl⟩ : ∃ j, i = 2 * j := ⟨i / 2, by omega⟩
      rw [(k2 j (by omega)).1] at hv; cases hv; exact fits_lo8 _
    · obtain ⟨j, rfl⟩ : ∃ j, i = 2 * j + 1 := ⟨i / 2, by omega⟩
      rw [(k2 j (by omega)).2] at hv; cases hv; exact fits_lo8 _
/-- the same text -/
def SameT (n : Nat) (f : Nat → Int32) (k : Nat) (g : Nat → Int32) : Prop := n = k ∧ ∀ j, j < n → f j = g j
theorem lo8_inj {x y : Int32} (h0 : ¬ x < 0) (h1 : ¬ 255 < x) (k0 : ¬ y < 0) (k1 : ¬ 255 < y) (h : lo8 x = lo8 y) : x = y := by
  rw [← lo8_mask h0 h1, ← lo8_mask k0 k1, h]
/-- arrays coded by one coder are equal just where the texts are -/
theorem Cod.eqv {cd : Int32} {n k : Nat} {f g : Nat → Int32} {V V' : Cell} (h : Cod cd n f V) (h' : Cod cd k g V') (hf : ∀ j, j < n → ¬ f j < 0 ∧ ¬ 65535 < f j) (hg : ∀ j, j < k → ¬ g j < 0 ∧ ¬ 65535 < g j) : EqC V V' ↔ SameT n f k g := by
  have yvv : ∀ {W : Cell} {i : Nat} {x : Int32}, W.slots[i]? = some (.int x) → yv W i = x := fun q => by unfold yv; rw [q]
  rcases h with ⟨rfl, k1, k2⟩ | ⟨rfl, k1, k2, -⟩
  · rcases h' with ⟨-, m1, m2⟩ | ⟨e, -⟩
    · constructor
      · rintro ⟨e1, e2⟩
        refine ⟨by omega, fun j hj => ?_⟩
        have q := e2 j (by omega)
        rw [yvv (k2 j hj).1, yvv (m2 j (by omega)).1] at q
        exact lo8_inj (hf j hj).1 (k2 j hj).2 (hg j (by omega)).1 (m2 j (by omega)).2 q
      · rintro ⟨rfl, e2⟩
        refine ⟨by omega, fun j hj => ?_⟩
        rw [yvv (k2 j (by omega)).1, yvv (m2 j (by omega)).1, e2 j (by omega)]
    · exact absurd e (by decide)
  · rcases h' with ⟨e, -⟩ | ⟨-, m1, m2, -⟩
    · exact absurd e (by decide)
    · constructor
      · rintro ⟨e1, e2⟩
        refine ⟨by omega, fun j hj => ?_⟩
        have q1 := e2 (2 * j) (by omega)
        have q2 := e2 (2 * j + 1) (by omega)
        rw [yvv (k2 j hj).1, yvv (m2 j (by omega)).1] at q1
        rw [yvv (k2 j hj).2, yvv (m2 j (by omega)).2] at q2
        rw [← pair_says (hf j hj).1 (hf j hj).2, ← pair_says (hg j (by omega)).1 (hg j (by omega)).2, q1, q2]
      · rintro ⟨rfl, e2⟩
        refine ⟨by omega, fun i hi => ?_⟩
        rcases Nat.mod_two_eq_zero_or_one i with e | e
        · obtain ⟨j, rfl⟩ : ∃ j, i = 2 * j := ⟨i / 2, by omega⟩
          rw [yvv (k2 j (by omega)).1, yvv (m2 j (by omega)).1, e2 j (by omega)]
        · obtain ⟨j, rfl⟩ : ∃ j, i = 2 * j + 1 := ⟨i / 2, by omega⟩
          rw [yvv (k2 j (by omega)).2, yvv (m2 j (by omega)).2, e2 j (by omega)]
/-- two codings differ: so do the texts -/
theorem Cod.dif {cd cd' : Int32} {n k : Nat} {f g : Nat → Int32} {V V' : Cell} (h : Cod cd n f V) (h' : Cod cd' k g V') (hne : ¬ cd = cd') : ¬ SameT n f k g := by
  rintro ⟨rfl, e⟩
  rcases h with ⟨rfl, -, k2⟩ | ⟨rfl, -, -, j, hj, hw⟩
  · rcases h' with ⟨rfl, -⟩ | ⟨-, -, -, j, hj, hw⟩
    · exact hne rfl
    · exact (k2 j hj).2 (by rw [e j hj]; exact hw)
  · rcases h' with ⟨-, -, m2⟩ | ⟨rfl, -⟩
    · exact (m2 j hj).2 (by rw [← e j hj]; exact hw)
    · exact hne rfl
/-- an object of exactly C is an instance of C -/
theorem cinst {p : Program} {l : Launch} {e : Env} {R : Room} {s : State} {m : MethodId} {args : Array Value} {below : List Frame} {meth : Method} {c : Code} {T : State} {locs : List Loc} {cells slots : Nat} (X : Stand p l e R s m args below meth c T locs cells slots) (hexec : p.tables.exec = Jvm.exec) {own C : String} {index : Nat} (hown : s.vm.findClass own = some m.cls) (hlink : (Cond.classLink own index C).before args s = true) {a : Addr} (hE : Exact C a T)
    {g : JFrame} (hg : g.method = m) {rest : List Value} (hstack : g.stack = .ref a :: rest) (hdg : decode c.code g.pc = .ok (.instanceof index, 3)) :
    ∃ T', Stand p l e R s m args below meth c T' locs cells slots ∧ T'.heap = T.heap ∧ ∀ target, Steps p.tables e below (T'.setTop { g with pc := g.pc + 3, stack := .int 1 :: rest }) target → Steps p.tables e below (T.setTop g) target := by
  obtain ⟨cB, h1, D, h2, h3, h4⟩ := hE
  have h1' : s.vm.findClass C = some cB := by rw [← X.warmed.alike.findClass]; exact h1
  obtain ⟨vm', X', st⟩ := X.instanceofYes hexec hown hlink h2 h4 h1' (by rw [h3]; exact Jvm.Free.SB.assignable_self _ _) hg hstack hdg
  exact ⟨_, X', rfl, st⟩
theorem cself {p : Program} {l : Launch} {e : Env} {R : Room} {s : State} {m : MethodId} {args : Array Value} {below : List Frame} {meth : Method} {c : Code} {T : State} {locs : List Loc} {cells slots : Nat} (X : Stand p l e R s m args below meth c T locs cells slots) (hexec : p.tables.exec = Jvm.exec) {own C : String} {index : Nat} (hown : s.vm.findClass own = some m.cls) (hlink : (Cond.classLink own index C).before args s = true) {a : Addr} (hE : Exact C a T)
    {g : JFrame} (hg : g.method = m) {rest : List Value} (hstack : g.stack = .ref a :: rest) (hdg : decode c.code g.pc = .ok (.checkcast index, 3)) :
    ∃ T', Stand p l e R s m args below meth c T' locs cells slots ∧ T'.heap = T.heap ∧ ∀ target, Steps p.tables e below (T'.setTop { g with pc := g.pc + 3, stack := .ref a :: rest }) target → Steps p.tables e below (T.setTop g) target := by
  obtain ⟨cB, h1, D, h2, h3, h4⟩ := hE
  have h1' : s.vm.findClass C = some cB := by rw [← X.warmed.alike.findClass]; exact h1
  obtain ⟨vm', X', st⟩ := X.checkcastYes hexec hown hlink h2 h4 h1' (by rw [h3]; exact Jvm.Free.SB.assignable_self _ _) hg hstack hdg
  exact ⟨_, X', rfl, fun t h => st t (by rw [← hstack] at h; exact h)⟩
namespace SEq
def yN : MethodName := ⟨"java/lang/String", "equals", "(Ljava/lang/Object;)Z"⟩
abbrev yB : ByteArray := jdk_42_method_66_code
theorem d0 : decode yB 0 = .ok (.aload_n 0, 1) := by decide +kernel
theorem d1 : decode yB 1 = .ok (.aload_n 1, 1) := by decide +kernel
theorem d2 : decode yB 2 = .ok (.if_acmp (.ne) 5, 3) := by decide +kernel
theorem d5 : decode yB 5 = .ok (.iconst 1, 1) := by decide +kernel
theorem d6 : decode yB 6 = .ok (.ireturn, 1) := by decide +kernel
theorem d7 : decode yB 7 = .ok (.aload_n 1, 1) := by decide +kernel
theorem d8 : decode yB 8 = .ok (.instanceof 10, 3) := by decide +kernel
theorem d11 : decode yB 11 = .ok (.ifCond (.eq) 43, 3) := by decide +kernel
theorem d14 : decode yB 14 = .ok (.aload_n 1, 1) := by decide +kernel
theorem d15 : decode yB 15 = .ok (.checkcast 10, 3) := by decide +kernel
theorem d18 : decode yB 18 = .ok (.astore_n 2, 1) := by decide +kernel
theorem d19 : decode yB 19 = .ok (.getstatic 38, 3) := by decide +kernel
theorem d22 : decode yB 22 = .ok (.ifCond (.eq) 14, 3) := by decide +kernel
theorem d25 : decode yB 25 = .ok (.aload_n 0, 1) := by decide +kernel
theorem d26 : decode yB 26 = .ok (.getfield 15, 3) := by decide +kernel
theorem d29 : decode yB 29 = .ok (.aload_n 2, 1) := by decide +kernel
theorem d30 : decode yB 30 = .ok (.getfield 15, 3) := by decide +kernel
theorem d33 : decode yB 33 = .ok (.if_icmp (.ne) 21, 3) := by decide +kernel
theorem d36 : decode yB 36 = .ok (.aload_n 0, 1) := by decide +kernel
theorem d37 : decode yB 37 = .ok (.getfield 9, 3) := by decide +kernel
theorem d40 : decode yB 40 = .ok (.aload_n 2, 1) := by decide +kernel
theorem d41 : decode yB 41 = .ok (.getfield 9, 3) := by decide +kernel
theorem d44 : decode yB 44 = .ok (.invokestatic 541, 3) := by decide +kernel
theorem d47 : decode yB 47 = .ok (.ifCond (.eq) 7, 3) := by decide +kernel
theorem d50 : decode yB 50 = .ok (.iconst 1, 1) := by decide +kernel
theorem d51 : decode yB 51 = .ok (.goto 4, 3) := by decide +kernel
theorem d54 : decode yB 54 = .ok (.iconst 0, 1) := by decide +kernel
theorem d55 : decode yB 55 = .ok (.ireturn, 1) := by decide +kernel
def site : List Cond := [.classLink "java/lang/String" 10 "java/lang/String", .fieldLink "java/lang/String" 38 "java/lang/String" "COMPACT_STRINGS" "Z", .fieldLink "java/lang/String" 15 "java/lang/String" "coder" "B", .fieldLink "java/lang/String" 9 "java/lang/String" "value" "[B", LEq.tab] ++ staticW "java/lang/String" 541 LEq.yN
def tab : Cond := tabOf yN yB 3 (some .boolean) site
def P (x t : Addr) (V : Cell) (cd : Int32) (n : Nat) (f : Nat → Int32) (y t' : Addr) (V' : Cell) (cd' : Int32) (k : Nat) (g : Nat → Int32) (z : Int32) (args : Array Value) (s : State) : Prop := args = #[.ref x, .ref y] ∧ Txt x t V cd n f s ∧ Txt y t' V' cd' k g s ∧ StaticIs s "java/lang/String" "COMPACT_STRINGS" "Z" (.int z) ∧ ¬ z = 0
/-- equals(Object) of two Strings: whether the texts are the same -/
theorem law (l : Launch) (x t : Addr) (V : Cell) (cd : Int32) (n : Nat) (f : Nat → Int32) (y t' : Addr) (V' : Cell) (cd' : Int32) (k : Nat) (g : Nat → Int32) (z : Int32) : Law l yN 2 1 1 14 yB 3 (some .boolean) site (P x t V cd n f y t' V' cd' k g z) (Says01 (SameT n f k g)) [] 0 0 := by
  refine Law.of_walk (plainFor_of_name (by decide +kernel)) (by decide +kernel) (by decide +kernel) (by decide) (fun _ _ h => by rw [h.1]; rfl) (fun _ U U' hal hh h => ⟨h.1, h.2.1.mv hal hh, h.2.2.1.mv hal hh, h.2.2.2.1.there hal hh, h.2.2.2.2⟩) (fun r U U' V V' h1 hal h2 h => Says01.mv r U U' V V' h1 hal h2 h) ?_
  intro p e s m args below meth c s₁ X0 hexec hbytes hml hret hlk hnm hown hh0 W hP
  obtain ⟨rfl, hx, hy, s1, hz⟩ := hP
  have c1 : Steps p.tables e below (s₁.setTop (entryFrame m #[.ref x, .ref y] 3)) (s₁.setTop (mkF m 2 #[.val (.ref x), .val (.ref y), .unset] [.ref y, .ref x])) := Steps.trans (entry rfl) (by
    show Steps p.tables e below (s₁.setTop (mkF m 0 #[.val (.ref x), .val (.ref y), .unset] [])) _
    refine XS.aloadN X0.here hexec rfl (hb hbytes d0) rfl rfl ?_
    refine XS.aloadN X0.here hexec rfl (hb hbytes d1) rfl rfl ?_
    exact Steps.refl _)
  by_cases hxy : x = y
  · have c2 : Steps p.tables e below (s₁.setTop (entryFrame m #[.ref x, .ref y] 3)) (s₁.setTop (mkF m 6 #[.val (.ref x), .val (.ref y), .unset] [.int 1])) := c1.trans (by
      refine acmpNo X0.here hexec rfl (hb hbytes d2) rfl rfl rfl (by simp [acmp, hxy]) ?_
      refine iconstV X0.here hexec rfl 1 (hb hbytes d5) (by decide) ?_
      exact Steps.refl _)
    subst hxy
    have ec : cd = cd' := by
      obtain ⟨D, fd, a1, a2, a3⟩ := hx.2.2.1
      obtain ⟨D', fd', b1, b2, b3⟩ := hy.2.2.1
      cases a1.symm.trans b1
      obtain ⟨q1, q2, q3, q4⟩ := a2.1
      obtain ⟨r1, r2, r3, r4⟩ := b2.1
      cases q4.symm.trans r4
      cases a3.symm.trans b3; rfl
    have et : t = t' := by
      obtain ⟨D, fd, a1, a2, a3⟩ := hx.2.1
      obtain ⟨D', fd', b1, b2, b3⟩ := hy.2.1
      cases a1.symm.trans b1
      obtain ⟨q1, q2, q3, q4⟩ := a2.1
      obtain ⟨r1, r2, r3, r4⟩ := b2.1
      cases q4.symm.trans r4
      cases a3.symm.trans b3; rfl
    subst ec et
    have ev : V = V' := by cases hx.2.2.2.1.1.symm.trans hy.2.2.2.1.1; rfl
    subst ev
    have hs : SameT n f k g := (Cod.eqv hx.2.2.2.2.1 hy.2.2.2.2.1 hx.2.2.2.2.2 hy.2.2.2.2.2).mp ⟨rfl, fun _ _ => rfl⟩
    exact ⟨s₁, some (.int 1), _, _, _, X0, rfl, rfl, rfl, (fun h => by cases h), ⟨1, rfl, hh0, Or.inl ⟨rfl, hs⟩⟩, fun fs hl => c2.trans (X0.ireturnOut hexec hret rfl (Or.inr (Or.inl rfl)) (hb hbytes d6) hl)⟩
  · have c2 : Steps p.tables e below (s₁.setTop (entryFrame m #[.ref x, .ref y] 3)) (s₁.setTop (mkF m 8 #[.val (.ref x), .val (.ref y), .unset] [.ref y])) := c1.trans (by
      refine acmpYes X0.here hexec rfl (pc0 := 2) rfl (hb hbytes d2) rfl rfl rfl (by simp [acmp, hxy]) (by decide) rfl ?_
      refine XS.aloadN X0.here hexec rfl (hb hbytes d7) rfl rfl ?_
      exact Steps.refl _)
    obtain ⟨T3, X3, q3, st3⟩ := cinst X0 hexec hown (wk W (.classLink "java/lang/String" 10 "java/lang/String")) (hy.mv X0.warmed.alike hh0).1 (g := (mkF m 8 #[.val (.ref x), .val (.ref y), .unset] [.ref y])) rfl (rest := []) rfl (hb hbytes d8)
    have hh3 := q3.trans hh0
    have c4 : Steps p.tables e below (s₁.setTop (entryFrame m #[.ref x, .ref y] 3)) (T3.setTop (mkF m 15 #[.val (.ref x), .val (.ref y), .unset] [.ref y])) := (c2.trans (st3 _ (Steps.refl _))).trans (by
      refine XS.ifNo X3.here hexec rfl (hb hbytes d11) rfl (i0_eq_f (by decide)) ?_
      refine XS.aloadN X3.here hexec rfl (hb hbytes d14) rfl rfl ?_
      exact Steps.refl _)
    obtain ⟨T5, X5, q5, st5⟩ := cself X3 hexec hown (wk W (.classLink "java/lang/String" 10 "java/lang/String")) (hy.mv X3.warmed.alike hh3).1 (g := (mkF m 15 #[.val (.ref x), .val (.ref y), .unset] [.ref y])) rfl (rest := []) rfl (hb hbytes d15)
    have hh5 := q5.trans hh3
    have c6 : Steps p.tables e below (s₁.setTop (entryFrame m #[.ref x, .ref y] 3)) (T5.setTop (mkF m 19 #[.val (.ref x), .val (.ref y), .val (.ref y)] [])) := (c4.trans (st5 _ (Steps.refl _))).trans (by
      refine XS.astoreN X5.here hexec rfl (hb hbytes d18) rfl rfl rfl ?_
      exact Steps.refl _)
    obtain ⟨T7, X7, q7, st7⟩ := X5.sget hexec hown (wk W (.fieldLink "java/lang/String" 38 "java/lang/String" "COMPACT_STRINGS" "Z")) s1 (fun _ _ h => by rw [hh5]; exact h) (g := (mkF m 19 #[.val (.ref x), .val (.ref y), .val (.ref y)] [])) rfl (hb hbytes d19)
    have hh7 := q7.trans hh5
    have c8 : Steps p.tables e below (s₁.setTop (entryFrame m #[.ref x, .ref y] 3)) (T7.setTop (mkF m 26 #[.val (.ref x), .val (.ref y), .val (.ref y)] [.ref x])) := (c6.trans (st7 _ (Steps.refl _))).trans (by
      refine XS.ifNo X7.here hexec rfl (hb hbytes d22) rfl (i0_eq_f hz) ?_
      refine XS.aloadN X7.here hexec rfl (hb hbytes d25) rfl rfl ?_
      exact Steps.refl _)
    obtain ⟨T9, X9, q9, st9⟩ := X7.hget hexec hown (wk W (.fieldLink "java/lang/String" 15 "java/lang/String" "coder" "B")) (hx.mv X7.warmed.alike hh7).2.2.1 (g := (mkF m 26 #[.val (.ref x), .val (.ref y), .val (.ref y)] [.ref x])) rfl (rest := []) rfl (hb hbytes d26)
    have hh9 := q9.trans hh7
    have c10 : Steps p.tables e below (s₁.setTop (entryFrame m #[.ref x, .ref y] 3)) (T9.setTop (mkF m 30 #[.val (.ref x), .val (.ref y), .val (.ref y)] [.ref y, .int cd])) := (c8.trans (st9 _ (Steps.refl _))).trans (by
      refine XS.aloadN X9.here hexec rfl (hb hbytes d29) rfl rfl ?_
      exact Steps.refl _)
    obtain ⟨T11, X11, q11, st11⟩ := X9.hget hexec hown (wk W (.fieldLink "java/lang/String" 15 "java/lang/String" "coder" "B")) (hy.mv X9.warmed.alike hh9).2.2.1 (g := (mkF m 30 #[.val (.ref x), .val (.ref y), .val (.ref y)] [.ref y, .int cd])) rfl (rest := [.int cd]) rfl (hb hbytes d30)
    have hh11 := q11.trans hh9
    have c12 : Steps p.tables e below (s₁.setTop (entryFrame m #[.ref x, .ref y] 3)) (T11.setTop (mkF m 33 #[.val (.ref x), .val (.ref y), .val (.ref y)] [.int cd', .int cd])) := c10.trans (st11 _ (Steps.refl _))
    by_cases hcd : cd = cd'
    · subst hcd
      have c13 : Steps p.tables e below (s₁.setTop (entryFrame m #[.ref x, .ref y] 3)) (T11.setTop (mkF m 37 #[.val (.ref x), .val (.ref y), .val (.ref y)] [.ref x])) := c12.trans (by
        refine XS.icmpNo X11.here hexec rfl (hb hbytes d33) rfl (ii_ne_f rfl) ?_
        refine XS.aloadN X11.here hexec rfl (hb hbytes d36) rfl rfl ?_
        exact Steps.refl _)
      obtain ⟨T14, X14, q14, st14⟩ := X11.hget hexec hown (wk W (.fieldLink "java/lang/String" 9 "java/lang/String" "value" "[B")) (hx.mv X11.warmed.alike hh11).2.1 (g := (mkF m 37 #[.val (.ref x), .val (.ref y), .val (.ref y)] [.ref x])) rfl (rest := []) rfl (hb hbytes d37)
      have hh14 := q14.trans hh11
      have c15 : Steps p.tables e below (s₁.setTop (entryFrame m #[.ref x, .ref y] 3)) (T14.setTop (mkF m 41 #[.val (.ref x), .val (.ref y), .val (.ref y)] [.ref y, .ref t])) := (c13.trans (st14 _ (Steps.refl _))).trans (by
        refine XS.aloadN X14.here hexec rfl (hb hbytes d40) rfl rfl ?_
        exact Steps.refl _)
      obtain ⟨T16, X16, q16, st16⟩ := X14.hget hexec hown (wk W (.fieldLink "java/lang/String" 9 "java/lang/String" "value" "[B")) (hy.mv X14.warmed.alike hh14).2.1 (g := (mkF m 41 #[.val (.ref x), .val (.ref y), .val (.ref y)] [.ref y, .ref t])) rfl (rest := [.ref t]) rfl (hb hbytes d41)
      have hh16 := q16.trans hh14
      have c17 : Steps p.tables e below (s₁.setTop (entryFrame m #[.ref x, .ref y] 3)) (T16.setTop (mkF m 44 #[.val (.ref x), .val (.ref y), .val (.ref y)] [.ref t', .ref t])) := c15.trans (st16 _ (Steps.refl _))
      obtain ⟨v18, T18, X18, E18, g18⟩ := X16.callS hexec (LEq.law l t V t' V') hown (wks W (staticW "java/lang/String" 541 LEq.yN)) (wk W LEq.tab) (W := 0) (Nat.le_of_ble_eq_true rfl) (Nat.le_of_ble_eq_true rfl) (Nat.le_refl _) (Nat.le_refl _) (g := (mkF m 44 #[.val (.ref x), .val (.ref y), .val (.ref y)] [.ref t', .ref t])) rfl (by rw [hml]; rfl) c17 (argsL := [.ref t, .ref t']) (rest := []) rfl rfl (by show 2 * 0 + 0 ≤ _; decide) (hb hbytes d44) (⟨rfl, hx.2.2.2.1.mv X16.warmed.alike hh16, hx.2.2.2.2.1.ty, hy.2.2.2.1.mv X16.warmed.alike hh16, hy.2.2.2.2.1.ty⟩)
      obtain ⟨v, rfl, q18, hv⟩ := E18
      have iff := Cod.eqv hx.2.2.2.2.1 hy.2.2.2.2.1 hx.2.2.2.2.2 hy.2.2.2.2.2
      rcases hv with ⟨rfl, he⟩ | ⟨rfl, he⟩
      · have c19 : Steps p.tables e below (s₁.setTop (entryFrame m #[.ref x, .ref y] 3)) (T18.setTop (mkF m 55 #[.val (.ref x), .val (.ref y), .val (.ref y)] [.int 1])) := Steps.trans g18 (by
          refine XS.ifNo X18.here hexec rfl (hb hbytes d47) rfl (i0_eq_f (by decide)) ?_
          refine iconstV X18.here hexec rfl 1 (hb hbytes d50) (by decide) ?_
          refine XS.goto X18.here hexec rfl (pc0 := 51) rfl (hb hbytes d51) (by decide) rfl ?_
          exact Steps.refl _)
        exact ⟨T18, some (.int 1), _, _, _, X18, rfl, rfl, rfl, (fun h => by cases h), ⟨1, rfl, q18.trans hh16, Or.inl ⟨rfl, iff.mp he⟩⟩, fun fs hl => c19.trans (X18.ireturnOut hexec hret rfl (Or.inr (Or.inl rfl)) (hb hbytes d55) hl)⟩
      · have c19 : Steps p.tables e below (s₁.setTop (entryFrame m #[.ref x, .ref y] 3)) (T18.setTop (mkF m 55 #[.val (.ref x), .val (.ref y), .val (.ref y)] [.int 0])) := Steps.trans g18 (by
          refine XS.ifYes X18.here hexec rfl (pc0 := 47) rfl (hb hbytes d47) rfl (i0_eq_t rfl) (by decide) rfl ?_
          refine iconstV X18.here hexec rfl 0 (hb hbytes d54) (by decide) ?_
          exact Steps.refl _)
        exact ⟨T18, some (.int 0), _, _, _, X18, rfl, rfl, rfl, (fun h => by cases h), ⟨0, rfl, q18.trans hh16, Or.inr ⟨rfl, fun q => he (iff.mpr q)⟩⟩, fun fs hl => c19.trans (X18.ireturnOut hexec hret rfl (Or.inr (Or.inl rfl)) (hb hbytes d55) hl)⟩
    · have c13 : Steps p.tables e below (s₁.setTop (entryFrame m #[.ref x, .ref y] 3)) (T11.setTop (mkF m 55 #[.val (.ref x), .val (.ref y), .val (.ref y)] [.int 0])) := c12.trans (by
        refine XS.icmpYes X11.here hexec rfl (pc0 := 33) rfl (hb hbytes d33) rfl (ii_ne_t hcd) (by decide) rfl ?_
        refine iconstV X11.here hexec rfl 0 (hb hbytes d54) (by decide) ?_
        exact Steps.refl _)
      exact ⟨T11, some (.int 0), _, _, _, X11, rfl, rfl, rfl, (fun h => by cases h), ⟨0, rfl, hh11, Or.inr ⟨rfl, Cod.dif hx.2.2.2.2.1 hy.2.2.2.2.1 hcd⟩⟩, fun fs hl => c13.trans (X11.ireturnOut hexec hret rfl (Or.inr (Or.inl rfl)) (hb hbytes d55) hl)⟩
theorem pays {l : Launch} {R : Room} {p : Program} {e : Env} {below : List Frame} {s : State} {sargs : Array Value} {len W : Nat} (x t : Addr) (V : Cell) (cd : Int32) (n : Nat) (f : Nat → Int32) (y t' : Addr) (V' : Cell) (cd' : Int32) (k : Nat) (g : Nat → Int32) (z : Int32) (htab : tab.before sargs s = true) (hfr : 2 ≤ R.frames) (hlo : W + 28 ≤ R.locals) :
    Back l R p e below s sargs yN len W (fun A₁ a₁ => A₁.cells + 0 ≤ R.cells ∧ A₁.slots + 0 ≤ R.slots ∧ P x t V cd n f y t' V' cd' k g z a₁ A₁.U) (fun A₁ _ v₁ B₁ => Says01 (SameT n f k g) v₁ A₁.U B₁.U ∧ B₁.locs = A₁.locs ++ [] ∧ B₁.cells = A₁.cells + 0 ∧ B₁.slots = A₁.slots + 0) :=
  (law l x t V cd n f y t' V' cd' k g z).pays htab hfr (by omega)
end SEq
end StrChars
namespace StrChars.Road
open Jvm Sem ClassFile Op Lib Jvm.Stand Jvm.Free Jvm.Free.XT
open Jvm.Lib.Cold (StaticIs)
/-- the words of String.equals(Object) -/
abbrev wordsEq : List Jvm.Cond := [.code SEq.yN SEq.yB 3 (some .boolean), .initialized ST, .classLink ST 10 ST, .fieldLink ST 38 ST "COMPACT_STRINGS" "Z", .fieldLink ST 15 ST "coder" "B", .fieldLink ST 9 ST "value" "[B", .methodLink ST 541 LEq.yN, .static LEq.yN, .code LEq.yN LEq.yB 3 (some .boolean), .initialized "java/lang/StringLatin1"]
theorem tabEq_of {a : Array Value} {s : State} (h : ∀ w ∈ wordsEq, w.before a s = true) : SEq.tab.before a s = true := by
  have hl : LEq.tab.before a s = true := unparts (wk h (.code LEq.yN LEq.yB 3 (some .boolean))) (wks h (.initialized LEq.yN.cls :: LEq.site))
  have q := consq hl h
  exact unparts (wk q (.code SEq.yN SEq.yB 3 (some .boolean))) (wks q (.initialized SEq.yN.cls :: SEq.site))
theorem movedEq {Z s : State} {a0 args : Array Value} (hZ : Z.Warmed39 s.vm) (hw : ∀ d ∈ wordsEq, d.before a0 Z = true) : ∀ d ∈ wordsEq, d.before args s = true := fun d hd => by
  have t : ∀ d ∈ wordsEq, (d.onTables && d.keepsFace) = true := by decide +kernel
  exact RoadKit.mv hZ (hw d hd) (t d hd)
/-- the road's facts of a String, as the laws ask it -/
theorem txt_of {Z U : State} {a0 : Array Value} {kI : Nat} (wi : (Jvm.Cond.instantiable ST kI).before a0 Z = true) (al : Z.vm.Alike U.vm) {x t : Addr} {kb : ClassId} {cs : List Int32} {cd N2 : Int32} {vs : List Value} (E : RoadKit.Exa Z U.heap x ST) (V : RoadKit.Fld Z U.heap x ST "value" "[B" (.ref t)) (C : RoadKit.Fld Z U.heap x ST "coder" "B" (.int cd)) (K : RoadKit.Arv Z U.heap t kb .byte N2 vs (.int 0)) (hc : CodA cs cd N2 vs) (hb : ∀ c ∈ cs, ¬ c < 0 ∧ ¬ (65535 : Int32) < c) (l2 : cs.length ≤ 4000) :
    ∃ A, Txt x t A cd cs.length (fun j => cs.getD j 0) U := by
  obtain ⟨A, K1, K2, K3, K4, K5, K6⟩ := K
  have hcod := hc.cod (by omega) K3 K5
  obtain ⟨D, fV, fC, hB, F1, F2, g1, g2, -, -⟩ := strObj wi al E V C
  exact ⟨A, ⟨_, hB.2.2.1, D, hB.1, rfl, by cases q : D.vm <;> first | rfl | exact absurd q (hB.2.1.2 _)⟩, Has.of hB F1 g1, Has.of hB F2 g2, ⟨K1.1, State.isArrayOf_alike al K1.2.1, K1.2.2, by rcases hcod with ⟨-, q, -⟩ | ⟨-, q, -⟩ <;> omega⟩, hcod, fun j hj => by
    have e : cs.getD j 0 = cs[j] := by simp [List.getD_eq_getElem?_getD, hj]
    show ¬ cs.getD j 0 < 0 ∧ ¬ 65535 < cs.getD j 0
    rw [e]; exact hb _ (List.getElem_mem _)⟩
theorem same_list (cs ds : List Int32) : SameT cs.length (fun j => cs.getD j 0) ds.length (fun j => ds.getD j 0) ↔ cs = ds := by
  constructor
  · rintro ⟨e, q⟩
    refine List.ext_getElem e fun j h1 h2 => ?_
    have := q j h1
    simpa [List.getD_eq_getElem?_getD, h1, h2] using this
  · rintro rfl
    exact ⟨rfl, fun _ _ => rfl⟩
/-- **equals(Object) OF TWO SUCH STRINGS**: 1 just where the chars are the same -/
theorem eqW {p : Program} {l : Launch} {e : Env} {R : Room} {s : State} {args : Array Value} {below : List Frame} {len W : Nat} {Z : State} {a0 : Array Value} {h : Heap} (hZ : Z.Warmed39 s.vm) (hw : ∀ d ∈ wordsEq, d.before a0 Z = true) {kI : Nat} (wi : (Jvm.Cond.instantiable ST kI).before a0 Z = true)
    {x t : Addr} {kb : ClassId} {cs : List Int32} {cd N2 : Int32} {vs : List Value} (E : RoadKit.Exa Z h x ST) (V : RoadKit.Fld Z h x ST "value" "[B" (.ref t)) (C : RoadKit.Fld Z h x ST "coder" "B" (.int cd)) (K : RoadKit.Arv Z h t kb .byte N2 vs (.int 0)) (hc : CodA cs cd N2 vs) (hb : ∀ c ∈ cs, ¬ c < 0 ∧ ¬ (65535 : Int32) < c) (l2 : cs.length ≤ 4000)
    {y t' : Addr} {kb' : ClassId} {ds : List Int32} {cd' N2' : Int32} {vs' : List Value} (E' : RoadKit.Exa Z h y ST) (V' : RoadKit.Fld Z h y ST "value" "[B" (.ref t')) (C' : RoadKit.Fld Z h y ST "coder" "B" (.int cd')) (K' : RoadKit.Arv Z h t' kb' .byte N2' vs' (.int 0)) (hc' : CodA ds cd' N2' vs') (hb' : ∀ c ∈ ds, ¬ c < 0 ∧ ¬ (65535 : Int32) < c) (l2' : ds.length ≤ 4000)
    {z : Int32} (S : RoadKit.Sta Z h ST "COMPACT_STRINGS" "Z" (.int z)) (hz : ¬ z = 0) (hfr : 2 ≤ R.frames) (hlo : W + 28 ≤ R.locals) :
    Back l R p e below s args (⟨"java/lang/String", "equals", "(Ljava/lang/Object;)Z"⟩ : MethodName) len W (fun P a => a = #[.ref x, .ref y] ∧ P.U.heap = h ∧ P.cells + 0 ≤ R.cells ∧ P.slots + 0 ≤ R.slots)
      (fun P _ v B => ∃ L, (((v = some (.int 1) ∧ cs = ds) ∨ (v = some (.int 0) ∧ ¬ cs = ds)) ∧ L = [] ∧ B.U.heap = h) ∧ B.locs = P.locs ++ L ∧ B.cells = P.cells + 0 ∧ B.slots = P.slots + 0) := by
  intro m meth c P g ig mk a X hg hsize hdg hW hn hp'
  obtain ⟨rfl, rfl, r1, r2⟩ := hp'
  have al : Z.vm.Alike P.U.vm := hZ.alike.trans X.warmed.alike
  obtain ⟨A, hx⟩ := txt_of wi al E V C K hc hb l2
  obtain ⟨A', hy⟩ := txt_of wi al E' V' C' K' hc' hb' l2'
  obtain ⟨v, B, X', ⟨⟨w, hv, hh, hq⟩, hl, hk, hs⟩, st⟩ := SEq.pays x t A cd cs.length (fun j => cs.getD j 0) y t' A' cd' ds.length (fun j => ds.getD j 0) z (tabEq_of (movedEq hZ hw)) hfr hlo m meth c P g ig mk _ X hg hsize hdg hW hn ⟨r1, r2, rfl, hx, hy, sta_is al S, hz⟩
  refine ⟨v, B, X', ⟨[], ⟨?_, rfl, hh⟩, hl, hk, hs⟩, st⟩
  rcases hq with ⟨rfl, q⟩ | ⟨rfl, q⟩
  · exact Or.inl ⟨hv, (same_list cs ds).mp q⟩
  · exact Or.inr ⟨hv, fun e => q ((same_list cs ds).mpr e)⟩
end StrChars.Road
namespace StrChars.Road
open Jvm Sem ClassFile Op Lib Jvm.Stand Jvm.Free Jvm.Free.XT
open Jvm.Lib.Cold (StaticIs)
/-- what backV says of its String, as the contracts of this text ask it: cs's low bytes, coder 0 -/
theorem codOf {cs : List Int32} {n : Nat} (hn : cs.length = n) (hb : ∀ c ∈ cs, ¬ 255 < c) : CodA cs 0 (Int32.ofNat n) ((cs.map lo8).map Value.int) := Or.inl ⟨rfl, by rw [hn], by simp [List.map_map, Function.comp_def], hb⟩
end StrChars.Road
end Jvm.Pilot.@@N@@
namespace Jvm.Pilot.@@N@@
open Jvm Jvm.ClassFile Sem Op Lib Jvm.Free Jvm.Stand Jvm.LawKit Jvm.RoadKit Bundle Jvm.Pilot.@@N@@.Jvm.D
theorem own_up (cs : List Int32) (h : ∀ c ∈ cs, ¬ c < 0 ∧ ¬ (255 : Int32) < c) : ∀ c ∈ cs, ¬ c < 0 ∧ ¬ (65535 : Int32) < c := fun c hc => ⟨(h c hc).1, fun q => (h c hc).2 (by rw [Int32.lt_iff_toInt_lt] at q ⊢; have e1 : (65535 : Int32).toInt = 65535 := rfl; have e2 : (255 : Int32).toInt = 255 := rfl; omega)⟩
theorem own_hw_backV {Z : State} {a0 : Array Value} (hw : ∀ d ∈ tables_1, d.before a0 Z = true) : ∀ d ∈ StrChars.Road.words, d.before a0 Z = true := fun d hd => hw d ((by decide +kernel : ∀ d ∈ StrChars.Road.words, d ∈ tables_1) d hd)
theorem own_hw_eqW {Z : State} {a0 : Array Value} (hw : ∀ d ∈ tables_1, d.before a0 Z = true) : ∀ d ∈ StrChars.Road.wordsEq, d.before a0 Z = true := fun d hd => hw d ((by decide +kernel : ∀ d ∈ StrChars.Road.wordsEq, d ∈ tables_1) d hd)
theorem own_safe_null {Z : State} {EL : List (String × Nat)} {vm : Vm} {h : Heap} {x : Addr} (hal : Z.vm.Alike vm) (E : Exa Z h x "java/lang/String") (F : Fld Z h x "java/lang/String" "value" "[B" .null) : Safe Z EL vm h x := fun B => by
  obtain ⟨cell, cf, k, i, f, h1, h2, h3, -, -, -, h7⟩ := F
  obtain ⟨p, -, u, a, -, q, -, FF, rfl | rfl⟩ := B
  · cases (show h[q.sa]? = some q.sC from FF.ha).symm.trans h1
    obtain ⟨cS, ⟨⟨-, -, -, ⟨c1, k1, i1, f1, -⟩, -, -, -, v1, -⟩, -⟩, -⟩ := FF
    obtain ⟨k3, e3⟩ := ff_back (U := Wst Z vm h) hal f1
    cases h2.symm.trans e3
    rw [v1] at h7
    cases h7
  · cases (show h[q.sd]? = some q.SA from FF.hd).symm.trans h1
    obtain ⟨cS, -, -, fB, -⟩ := FF
    obtain ⟨cell2, kk, e1, e2, e3, -, -⟩ := E
    cases h1.symm.trans e1
    have fB' : vm.findClass "[B" = some q.SA.cls := fB
    rw [hal.findClass] at fB'
    obtain ⟨k1, q1, q2⟩ := Vm.findClass_spec fB'
    obtain ⟨k2, q3, q4⟩ := Vm.findClass_spec e2
    cases q1.symm.trans q3
    exact absurd (q2.symm.trans q4) (by decide)
theorem own_hw_str {Z : State} {a0 : Array Value} (hw : ∀ d ∈ tables_1, d.before a0 Z = true) : ∀ d ∈ Bundle.stringAtoms, d.before a0 Z = true := fun d hd => hw d ((by decide +kernel : ∀ d ∈ Bundle.stringAtoms, d ∈ tables_1) d hd)
theorem own_EW {Z : State} {a0 : Array Value} (hw : ∀ d ∈ tables_1, d.before a0 Z = true) : EW Z a0 [("java/lang/String", 7)] := (EW.cons (hw _ (List.mem_of_getElem? (i := 41) rfl)) (by decide) EW.nil)
theorem own_mod (x y : Int32) (d : Int) (hy : y.toInt = d) (hd : 0 < d) : 0 ≤ ((x &&& (2147483647 : Int32)) % y).toInt ∧ ((x &&& (2147483647 : Int32)) % y).toInt < d := by
  have h1 := c_and x 2147483647 (by decide)
  have h2 := (c_irem (x &&& (2147483647 : Int32)) y d hy).1 h1.1
  rw [h2]
  exact ⟨Int.emod_nonneg _ (by omega), Int.emod_lt_of_pos _ hd⟩
theorem own_i {x : Int32} {k : Int} (y : Int32) (hy : y.toInt = k) (h : x.toInt = k) : x = y := Int32.toInt_inj.mp (h.trans hy.symm)
theorem own_m3 (x : Int32) : ((x &&& (2147483647 : Int32)) % (3 : Int32)) = (0 : Int32) ∨ ((x &&& (2147483647 : Int32)) % (3 : Int32)) = (1 : Int32) ∨ ((x &&& (2147483647 : Int32)) % (3 : Int32)) = (2 : Int32) := by
  have h := own_mod x 3 3 rfl (by decide)
  have hh : ((x &&& (2147483647 : Int32)) % (3 : Int32)).toInt = 0 ∨ ((x &&& (2147483647 : Int32)) % (3 : Int32)).toInt = 1 ∨ ((x &&& (2147483647 : Int32)) % (3 : Int32)).toInt = 2 := by omega
  exact hh.imp (own_i 0 rfl) (fun q => q.imp (own_i 1 rfl) (own_i 2 rfl))
theorem own_m7 (x : Int32) : ((x &&& (2147483647 : Int32)) % (7 : Int32)) = (0 : Int32) ∨ ((x &&& (2147483647 : Int32)) % (7 : Int32)) = (1 : Int32) ∨ ((x &&& (2147483647 : Int32)) % (7 : Int32)) = (2 : Int32) ∨ ((x &&& (2147483647 : Int32)) % (7 : Int32)) = (3 : Int32) ∨ ((x &&& (2147483647 : Int32)) % (7 : Int32)) = (4 : Int32) ∨ ((x &&& (2147483647 : Int32)) % (7 : Int32)) = (5 : Int32) ∨ ((x &&& (2147483647 : Int32)) % (7 : Int32)) = (6 : Int32) := by
  have h := own_mod x 7 7 rfl (by decide)
  generalize ((x &&& (2147483647 : Int32)) % (7 : Int32)) = y at h ⊢
  have hh : y.toInt = 0 ∨ y.toInt = 1 ∨ y.toInt = 2 ∨ y.toInt = 3 ∨ y.toInt = 4 ∨ y.toInt = 5 ∨ y.toInt = 6 := by omega
  rcases hh with q | q | q | q | q | q | q
  · exact Or.inl (own_i 0 rfl q)
  · exact Or.inr (Or.inl (own_i 1 rfl q))
  · exact Or.inr (Or.inr (Or.inl (own_i 2 rfl q)))
  · exact Or.inr (Or.inr (Or.inr (Or.inl (own_i 3 rfl q))))
  · exact Or.inr (Or.inr (Or.inr (Or.inr (Or.inl (own_i 4 rfl q)))))
  · exact Or.inr (Or.inr (Or.inr (Or.inr (Or.inr (Or.inl (own_i 5 rfl q))))))
  · exact Or.inr (Or.inr (Or.inr (Or.inr (Or.inr (Or.inr (own_i 6 rfl q))))))
/-- a char below 256 -/
def own_L (x : Int32) : Prop := nar .char x = x ∧ ¬ x < 0 ∧ ¬ (255 : Int32) < x
theorem own_Lall : ∀ k : Fin 256, own_L (Int32.ofNat k.val) := by
  have tt : ∀ k : Fin 256, nar .char (Int32.ofNat k.val) = Int32.ofNat k.val ∧ ¬ Int32.ofNat k.val < 0 ∧ ¬ (255 : Int32) < Int32.ofNat k.val := by decide +kernel
  exact tt
theorem own_Lof {x : Int32} (h : x.toBitVec.toNat < 256) : own_L x := by
  have e : x = Int32.ofNat x.toBitVec.toNat := by
    apply Int32.toBitVec_inj.mp
    show _ = BitVec.ofNat 32 _
    rw [BitVec.ofNat_toNat]; simp
  rw [e]
  exact own_Lall ⟨_, h⟩
theorem own_and255 (x : Int32) : (x &&& 255).toBitVec.toNat < 256 := by
  simp only [Int32.toBitVec_and, BitVec.toNat_and]
  exact Nat.lt_succ_of_le Nat.and_le_right
theorem own_lat8 (x : Int32) : own_L ((x &&& (255 : Int32)).toUInt32.toUInt16.toUInt32.toInt32) := by
  rw [i2c_mask]
  exact own_Lof (own_and255 x)
theorem own_Lnat {x : Int32} (h : own_L x) : x.toBitVec.toNat < 256 := by
  obtain ⟨-, h0, h1⟩ := h
  rw [Int32.lt_iff_toInt_lt] at h0 h1
  have e0 : (0 : Int32).toInt = 0 := rfl
  have e1 : (255 : Int32).toInt = 255 := rfl
  have hb : x.toInt = x.toBitVec.toInt := rfl
  rw [hb, BitVec.toInt_eq_toNat_cond] at h0 h1
  have := x.toBitVec.isLt
  split at h0 <;> omega
theorem own_i2c_small {x : Int32} (h : own_L x) : x.toUInt32.toUInt16.toUInt32.toInt32 = x := h.1
theorem own_latx (x y : Int32) (h : own_L x) : own_L ((x ^^^ (y &&& (33 : Int32))).toUInt32.toUInt16.toUInt32.toInt32) := by
  have q : own_L (x ^^^ (y &&& (33 : Int32))) := own_Lof (by
    simp only [Int32.toBitVec_xor, Int32.toBitVec_and, BitVec.toNat_xor, BitVec.toNat_and]
    have h1 := own_Lnat h
    have h2 : y.toBitVec.toNat &&& (33 : Int32).toBitVec.toNat < 2 ^ 8 := Nat.lt_of_le_of_lt Nat.and_le_right (by decide)
    exact Nat.xor_lt_two_pow (n := 8) h1 h2)
  rw [own_i2c_small q]
  exact q
def own_cs (n c0 c1 : Int32) : List Int32 := if n = 0 then [] else if n = 1 then [c0] else [c0, c1]
theorem own_cs0 (c0 c1 : Int32) : own_cs 0 c0 c1 = [] := by simp [own_cs]
theorem own_cs1 (c0 c1 : Int32) : own_cs 1 c0 c1 = [c0] := by simp [own_cs]
theorem own_cs2 (c0 c1 : Int32) : own_cs 2 c0 c1 = [c0, c1] := by simp [own_cs]
theorem own_csl (n c0 c1 : Int32) : (own_cs n c0 c1).length ≤ 4000 := by
  unfold own_cs
  split
  · simp
  · split <;> simp
theorem own_csm (n c0 c1 : Int32) (h0 : own_L c0) (h1 : own_L c1) : ∀ c ∈ own_cs n c0 c1, ¬ c < 0 ∧ ¬ (255 : Int32) < c := by
  intro c hc
  unfold own_cs at hc
  split at hc
  · simp at hc
  · split at hc
    · simp at hc; subst hc; exact h0.2
    · simp at hc; rcases hc with rfl | rfl
      · exact h0.2
      · exact h1.2
theorem own_csb (n c0 c1 : Int32) (h0 : own_L c0) (h1 : own_L c1) : ∀ c ∈ own_cs n c0 c1, ¬ c < 0 ∧ ¬ (65535 : Int32) < c := own_up _ (own_csm n c0 c1 h0 h1)
def own_k (n : Int32) (k0 k1 k2 k3 k4 k5 k6 : Addr) : Addr := if n = 0 then k0 else if n = 1 then k1 else if n = 2 then k2 else if n = 3 then k3 else if n = 4 then k4 else if n = 5 then k5 else k6
theorem own_k0 (k0 k1 k2 k3 k4 k5 k6 : Addr) : own_k 0 k0 k1 k2 k3 k4 k5 k6 = k0 := by simp [own_k]
theorem own_k1 (k0 k1 k2 k3 k4 k5 k6 : Addr) : own_k 1 k0 k1 k2 k3 k4 k5 k6 = k1 := by simp [own_k]
theorem own_k2 (k0 k1 k2 k3 k4 k5 k6 : Addr) : own_k 2 k0 k1 k2 k3 k4 k5 k6 = k2 := by simp [own_k]
theorem own_k3 (k0 k1 k2 k3 k4 k5 k6 : Addr) : own_k 3 k0 k1 k2 k3 k4 k5 k6 = k3 := by simp [own_k]
theorem own_k4 (k0 k1 k2 k3 k4 k5 k6 : Addr) : own_k 4 k0 k1 k2 k3 k4 k5 k6 = k4 := by simp [own_k]
theorem own_k5' (k0 k1 k2 k3 k4 k5 k6 : Addr) : own_k 5 k0 k1 k2 k3 k4 k5 k6 = k5 := by simp [own_k]
theorem own_k6 (k0 k1 k2 k3 k4 k5 k6 : Addr) : own_k 6 k0 k1 k2 k3 k4 k5 k6 = k6 := by simp [own_k]
theorem own_k5 (n : Int32) (k0 k1 k2 k3 k4 k5 k6 : Addr) (hn : n = (0 : Int32) ∨ n = (1 : Int32) ∨ n = (2 : Int32) ∨ n = (3 : Int32) ∨ n = (4 : Int32) ∨ n = (5 : Int32) ∨ n = (6 : Int32)) (hd : k0 ≠ k5 ∧ k1 ≠ k5 ∧ k2 ≠ k5 ∧ k3 ≠ k5 ∧ k4 ≠ k5 ∧ k6 ≠ k5) : own_k n k0 k1 k2 k3 k4 k5 k6 = k5 ↔ n = (5 : Int32) := by
  obtain ⟨d0, d1, d2, d3, d4, d6⟩ := hd
  rcases hn with rfl | rfl | rfl | rfl | rfl | rfl | rfl
  · rw [own_k0]; exact ⟨fun q => absurd q d0, fun q => absurd q (by decide)⟩
  · rw [own_k1]; exact ⟨fun q => absurd q d1, fun q => absurd q (by decide)⟩
  · rw [own_k2]; exact ⟨fun q => absurd q d2, fun q => absurd q (by decide)⟩
  · rw [own_k3]; exact ⟨fun q => absurd q d3, fun q => absurd q (by decide)⟩
  · rw [own_k4]; exact ⟨fun q => absurd q d4, fun q => absurd q (by decide)⟩
  · rw [own_k5']; exact ⟨fun _ => rfl, fun _ => rfl⟩
  · rw [own_k6]; exact ⟨fun q => absurd q d6, fun q => absurd q (by decide)⟩
theorem own_lt12 {x : Int32} (h : x < (1 : Int32)) : x < (2 : Int32) := by
  rw [Int32.lt_iff_toInt_lt] at h ⊢
  have e1 : (1 : Int32).toInt = 1 := rfl
  have e2 : (2 : Int32).toInt = 2 := rfl
  omega
theorem own_cseq (tl sl t0 t1 s0 s1 : Int32) (htl : tl = (0 : Int32) ∨ tl = (1 : Int32) ∨ tl = (2 : Int32)) (hsl : sl = (0 : Int32) ∨ sl = (1 : Int32) ∨ sl = (2 : Int32)) : own_cs tl t0 t1 = own_cs sl s0 s1 ↔ (tl = sl ∧ (tl < (1 : Int32) ∨ t0 = s0) ∧ (tl < (2 : Int32) ∨ t1 = s1)) := by
  rcases htl with rfl | rfl | rfl <;> rcases hsl with rfl | rfl | rfl <;> simp only [own_cs0, own_cs1, own_cs2] <;> simp +decide
theorem own_exp (idx tl sl t0 t1 s0 s1 rv : Int32) (kr k5 : Addr) (hk : kr = k5 ↔ idx = (5 : Int32)) (htl : tl = (0 : Int32) ∨ tl = (1 : Int32) ∨ tl = (2 : Int32)) (hsl : sl = (0 : Int32) ∨ sl = (1 : Int32) ∨ sl = (2 : Int32)) (hr : (rv = (1 : Int32) ∧ kr = k5 ∧ own_cs tl t0 t1 = own_cs sl s0 s1) ∨ (rv = (0 : Int32) ∧ ¬ (kr = k5 ∧ own_cs tl t0 t1 = own_cs sl s0 s1))) :
    rv = if idx = (5 : Int32) ∧ tl = sl ∧ (tl < (1 : Int32) ∨ t0 = s0) ∧ (tl < (2 : Int32) ∨ t1 = s1) then (1 : Int32) else (0 : Int32) := by
  rw [hk, own_cseq tl sl t0 t1 s0 s1 htl hsl] at hr
  rcases hr with ⟨h1, h2⟩ | ⟨h1, h2⟩
  · rw [if_pos h2]; exact h1
  · rw [if_neg h2]; exact h1

theorem d_jdk_42_method_149_code_0 : decode jdk_42_method_149_code 0 = .ok (.aload_n 0, 1) := by decide +kernel
theorem d_jdk_42_method_149_code_1 : decode jdk_42_method_149_code 1 = .ok (.invokespecial 1, 3) := by decide +kernel
theorem d_jdk_42_method_149_code_4 : decode jdk_42_method_149_code 4 = .ok (.iload_n 3, 1) := by decide +kernel
theorem d_jdk_42_method_149_code_5 : decode jdk_42_method_149_code 5 = .ok (.ifCond .ne 22, 3) := by decide +kernel
theorem d_jdk_42_method_149_code_8 : decode jdk_42_method_149_code 8 = .ok (.aload_n 0, 1) := by decide +kernel
theorem d_jdk_42_method_149_code_9 : decode jdk_42_method_149_code 9 = .ok (.ldc 7, 2) := by decide +kernel
theorem d_jdk_42_method_149_code_11 : decode jdk_42_method_149_code 11 = .ok (.getfield 9, 3) := by decide +kernel
theorem d_jdk_42_method_149_code_14 : decode jdk_42_method_149_code 14 = .ok (.putfield 9, 3) := by decide +kernel
theorem d_jdk_42_method_149_code_17 : decode jdk_42_method_149_code 17 = .ok (.aload_n 0, 1) := by decide +kernel
theorem d_jdk_42_method_149_code_18 : decode jdk_42_method_149_code 18 = .ok (.ldc 7, 2) := by decide +kernel
theorem d_jdk_42_method_149_code_20 : decode jdk_42_method_149_code 20 = .ok (.getfield 15, 3) := by decide +kernel
theorem d_jdk_42_method_149_code_23 : decode jdk_42_method_149_code 23 = .ok (.putfield 15, 3) := by decide +kernel
theorem d_jdk_42_method_149_code_26 : decode jdk_42_method_149_code 26 = .ok (.return_, 1) := by decide +kernel
theorem ef_0 (m : MethodId) (x0 : Addr) (x1 : Addr) (x2 : Int32) (x3 : Int32) : entryFrame m #[(.ref x0), (.ref x1), (.int x2), (.int x3), .null] 6 = mkF m 0 #[.val (.ref x0), .val (.ref x1), .val (.int x2), .val (.int x3), .val .null, .unset] [] := by first | (simp [entryFrame, mkF, argsToLocals, Value.category]; done) | rfl
theorem pn_0 : plainName "java/lang/String" = true := by first | (simp [plainName, overriddenIn]; done) | decide +kernel
def Q_newE4 (Z : State) (xs : Addr) (ca : Addr) (h0 : Heap) (n0 : Nat) (v : Option Value) (h : Heap) (L : List Loc) : Prop := ∃ (tt : Addr) (kt : ClassId), (v = none) ∧ (Fr n0 L) ∧ (Keep h0 h ([xs] : List Addr)) ∧ (Fld Z h xs "java/lang/String" "value" "[B" (.ref tt)) ∧ (Fld Z h xs "java/lang/String" "coder" "B" (.int (0 : Int32))) ∧ (Arv Z h tt kt .byte (0 : Int32) [] (.int 0))
set_option maxRecDepth 65536 in
set_option maxHeartbeats 40000000 in
theorem rm_newE4 (l : Launch) (Z : State) (a0 : Array Value) (hw : ∀ d ∈ tables_1, d.before a0 Z = true) (ws : List Jvm.Cond) (xs : Addr) (ca : Addr) (h0 : Heap) (n0 : Nat) (Z0 : n0 ≤ h0.size) (q0 : Exa Z h0 xs "java/lang/String") (q1 : Fld Z h0 xs "java/lang/String" "value" "[B" .null) (q2 : Fld Z h0 xs "java/lang/String" "coder" "B" (.int (0 : Int32))) (q3 : n0 ≤ xs) :
    MetFree l (⟨"java/lang/String", "<init>", "([CIILjava/lang/Void;)V"⟩ : MethodName) (head1 (Jvm.Cond.code (⟨"java/lang/String", "<init>", "([CIILjava/lang/Void;)V"⟩ : MethodName) jdk_42_method_149_code 6 none :: ws) ({ frames := 1, cells := 4, slots := 8, locals := 12 } : Room)) (fun a₁ U₁ => a₁ = #[(.ref xs), (.ref ca), (.int (0 : Int32)), (.int (0 : Int32)), .null] ∧ Z.Warmed39 U₁.vm ∧ U₁.heap = h0 ∧ CHv Z [("java/lang/String", 7)] U₁.vm h0) (fun _ _ _ _ _ => True) (fun _ U₁ o₁ U₂ => ∃ v₁ L₁, o₁ = .returned v₁ ∧ Q_newE4 Z xs ca h0 n0 v₁ U₂.heap L₁ ∧ CHr Z [("java/lang/String", 7)] U₁.vm U₁.heap U₂.vm U₂.heap ∧ ReturnedEndW U₁ o₁ U₂ L₁ ({ frames := 1, cells := 4, slots := 8, locals := 12 } : Room).cells ({ frames := 1, cells := 4, slots := 8, locals := 12 } : Room).slots) := by
  refine MetFree.of_bodySF (plainFor_of_name pn_0) hisR ?_
  intro p e s m args below meth c s₁ Bd hml0 hP hK
  obtain ⟨rfl, hZ, hh, CH0⟩ := hP
  have hx := Bd.exec
  have hby := Bd.bytes
  have hml : c.maxLocals = 6 := hml0
  have hown : s.vm.findClass "java/lang/String" = some m.cls := findClass_of_methodNamed Bd.named
  have hnm := (name_of_methodNamed Bd.named Bd.method).1
  have X0 : Stand p l e ({ frames := 1, cells := 4, slots := 8, locals := 12 } : Room) (s.setVm s.vm) m #[(.ref xs), (.ref ca), (.int (0 : Int32)), (.int (0 : Int32)), .null] below meth c s₁ [] 0 0 := Stand.of_body Bd
  have e0 : s₁.heap = h0 := by rw [← hh, Bd.state]; rfl
  have N0 := Fr.nil n0
  have hZ0 : Z.Warmed39 (s.setVm s.vm).vm := hZ
  have hown0 : (s.setVm s.vm).vm.findClass "java/lang/String" = some m.cls := hown
  have hS0 : s.Since s.vm h0.size := (State.WarmedH.refl s).since _
  have hk0 : h0.size ≤ h0.size := Nat.le_refl _
  have CR0 : CHr Z [("java/lang/String", 7)] s.vm h0 s.vm h0 := CHr.refl CH0
  have pre0 : ∀ t, Steps p.tables e below (s₁.setTop (mkF m 0 #[.val (.ref xs), .val (.ref ca), .val (.int (0 : Int32)), .val (.int (0 : Int32)), .val .null, .unset] [])) t → Steps p.tables e below (s₁.setTop (entryFrame m #[(.ref xs), (.ref ca), (.int (0 : Int32)), (.int (0 : Int32)), .null] 6)) t := fun t k => castTop (ef_0 m xs ca (0 : Int32) (0 : Int32)) k
  obtain ⟨T301, X301, e301, st301⟩ := initO X0 hx hZ0 hown0 (hw _ (List.mem_of_getElem? (i := 22) rfl)) (hw _ (List.mem_of_getElem? (i := 23) rfl)) (hw _ (List.mem_of_getElem? (i := 24) rfl)) e0 (g := (mkF m 1 #[.val (.ref xs), .val (.ref ca), .val (.int (0 : Int32)), .val (.int (0 : Int32)), .val .null, .unset] [(.ref xs)])) rfl (by rw [hml]; rfl) rfl (hb hby d_jdk_42_method_149_code_1) (by decide) (W := 0) (by show 2 * 0 + _ ≤ _; exact Nat.le_of_eq rfl) (by decide)
  obtain ⟨b302, T302, h302, kk302, bb302, kb302, X302, e302, E302, hS302, hk302, hZ302, hown302, fE302, fC302, fV302, fA302, la302, lb302, ch302, li302, sx302, st302⟩ := ldcCH X301 hx hZ0 hown0 (hw _ (List.mem_of_getElem? (i := 41) rfl)) (own_hw_str hw) e301 hS0 hk0 (own_EW hw) (by decide) CR0.1 (vs := []) (z := (0 : Int32)) ⟨by decide, rfl⟩ (by decide) rfl (g := (mkF m 9 #[.val (.ref xs), .val (.ref ca), .val (.int (0 : Int32)), .val (.int (0 : Int32)), .val .null, .unset] [(.ref xs)])) rfl (hb hby d_jdk_42_method_149_code_9) (n := 0) (by decide) (by decide) (by decide) (by decide)
  have CR303 : CHr Z [("java/lang/String", 7)] s.vm h0 T302.vm h302 := CR0.trans ch302
  obtain ⟨T304, X304, e304, st304⟩ := getF X302 hx hZ302 hown302 (host := "") (Or.inl (hw _ (List.mem_of_getElem? (i := 39) rfl))) Via.refl e302 fV302 (g := (mkF m 11 #[.val (.ref xs), .val (.ref ca), .val (.int (0 : Int32)), .val (.int (0 : Int32)), .val .null, .unset] [(.ref b302), (.ref xs)])) rfl rfl (hb hby d_jdk_42_method_149_code_11)
  have c305 : Fld Z h302 xs "java/lang/String" "value" "[B" .null := (q1.ext E302)
  have c306 : Exa Z h302 xs "java/lang/String" := (q0.ext E302)
  have sf308 : Safe Z [("java/lang/String", 7)] T302.vm h302 xs := own_safe_null (EL := [("java/lang/String", 7)]) hZ302.alike c306 c305
  obtain ⟨T307, h307, X307, e307, W307, st307⟩ := putF X304 hx hZ302 hown302 (host := "") (Or.inl (hw _ (List.mem_of_getElem? (i := 39) rfl))) Via.refl e304 c305 c306 (Or.inr ⟨(hw _ (List.mem_of_getElem? (i := 40) rfl)), rfl, hnm⟩) (hw _ (List.mem_of_getElem? (i := 12) rfl)) (ty := (.array .byte)) (by decide) rfl rfl (g := (mkF m 14 #[.val (.ref xs), .val (.ref ca), .val (.int (0 : Int32)), .val (.int (0 : Int32)), .val .null, .unset] [(.ref bb302), (.ref xs)])) rfl rfl (hb hby d_jdk_42_method_149_code_14)
  have N307 := Fr.snoc X307 N0 q3
  have CR309 : CHr Z [("java/lang/String", 7)] s.vm h0 T302.vm h307 := CR303.trans (CHr.wr W307 sf308 CR303.1)
  have sf310 : Safe Z [("java/lang/String", 7)] T302.vm h307 xs := Safe.wr W307 sf308 CR303.1 sf308
  have F307 : Fld Z h307 xs "java/lang/String" "value" "[B" (.ref bb302) := c305.same W307
  obtain ⟨b311, T311, h311, kk311, bb311, kb311, X311, e311, E311, hS311, hk311, hZ311, hown311, fE311, fC311, fV311, fA311, la311, lb311, ch311, li311, sx311, st311⟩ := ldcCH X307 hx hZ302 hown302 (hw _ (List.mem_of_getElem? (i := 41) rfl)) (own_hw_str hw) e307 hS302 (Nat.le_trans hk302 (Keep.of_wr W307).1) (own_EW hw) (by decide) CR309.1 (vs := []) (z := (0 : Int32)) ⟨by decide, rfl⟩ (by decide) rfl (g := (mkF m 18 #[.val (.ref xs), .val (.ref ca), .val (.int (0 : Int32)), .val (.int (0 : Int32)), .val .null, .unset] [(.ref xs)])) rfl (hb hby d_jdk_42_method_149_code_18) (n := 0) (by decide) (by decide) (by decide) (by decide)
  have CR312 : CHr Z [("java/lang/String", 7)] s.vm h0 T311.vm h311 := CR309.trans ch311
  have sf313 : Safe Z [("java/lang/String", 7)] T311.vm h311 xs := ch311.safe (Nat.lt_of_lt_of_le c306.lt (Keep.of_wr W307).1) sf310
  obtain ⟨T314, X314, e314, st314⟩ := getF X311 hx hZ311 hown311 (host := "") (Or.inl (hw _ (List.mem_of_getElem? (i := 37) rfl))) Via.refl e311 fC311 (g := (mkF m 20 #[.val (.ref xs), .val (.ref ca), .val (.int (0 : Int32)), .val (.int (0 : Int32)), .val .null, .unset] [(.ref b311), (.ref xs)])) rfl rfl (hb hby d_jdk_42_method_149_code_20)
  have c315 : Fld Z h311 xs "java/lang/String" "coder" "B" (.int (0 : Int32)) := (((q2.ext E302).other W307 (Or.inr (slot_ne (Or.inr (hw _ (List.mem_of_getElem? (i := 38) rfl))) (Or.inr (hw _ (List.mem_of_getElem? (i := 40) rfl))) (by decide) (t := .byte) (t' := (.array .byte)) (by decide) (by decide)))).ext E311)
  have c316 : Exa Z h311 xs "java/lang/String" := ((c306.wr W307).ext E311)
  obtain ⟨T317, h317, X317, e317, W317, st317⟩ := putFN X314 hx hZ311 hown311 (hw _ (List.mem_of_getElem? (i := 37) rfl)) Via.refl e314 c315 c316 (Or.inr ⟨(hw _ (List.mem_of_getElem? (i := 38) rfl)), rfl, hnm⟩) (hw _ (List.mem_of_getElem? (i := 12) rfl)) (ty := .byte) (v' := (.int (0 : Int32))) (by decide) rfl rfl (g := (mkF m 23 #[.val (.ref xs), .val (.ref ca), .val (.int (0 : Int32)), .val (.int (0 : Int32)), .val .null, .unset] [(.int (0 : Int32)), (.ref xs)])) rfl rfl (hb hby d_jdk_42_method_149_code_23)
  have N317 := Fr.snoc X317 N307 q3
  have CR318 : CHr Z [("java/lang/String", 7)] s.vm h0 T311.vm h317 := CR312.trans (CHr.wr W317 sf313 CR312.1)
  have sf319 : Safe Z [("java/lang/String", 7)] T311.vm h317 xs := Safe.wr W317 sf313 CR312.1 sf313
  have F317 : Fld Z h317 xs "java/lang/String" "coder" "B" (.int (0 : Int32)) := c315.same W317
  have c320 : Fld Z h317 xs "java/lang/String" "value" "[B" (.ref bb302) := ((F307.ext E311).other W317 (Or.inr (slot_ne (Or.inr (hw _ (List.mem_of_getElem? (i := 40) rfl))) (Or.inr (hw _ (List.mem_of_getElem? (i := 38) rfl))) (by decide) (t := (.array .byte)) (t' := .byte) (by decide) (by decide))))
  have ne321 : xs ≠ bb302 := Exa.neArv c306 fA302 (hw _ (List.mem_of_getElem? (i := 12) rfl))
  have c322 : Arv Z h317 bb302 kb302 .byte (0 : Int32) [] (.int 0) := (((fA302.other W307 (Ne.symm ne321)).ext E311).other W317 (Ne.symm ne321))
  obtain ⟨fs, hr, hrun, hended, hEnd⟩ := X317.leaveW hS311 (by rw [e317]; exact (Nat.le_trans hk311 (Keep.of_wr W317).1)) (v := none) (fun _ => rfl)
  refine ⟨_, _, pre0 _ ?_, hrun, hended, _, _, rfl, ?_, (by rw [hh]; show CHr Z [("java/lang/String", 7)] s.vm h0 T317.vm T317.heap; rw [e317]; exact CR318.trans (CHv.at X317 hZ311 (own_EW hw) CR318.1)), hEnd.1, hEnd.2.1, hEnd.2.2.1, hEnd.2.2.2.mono (by decide) (by decide)⟩
  · refine XS.aloadN X0.here hx rfl (hb hby d_jdk_42_method_149_code_0) rfl rfl ?_
    show Steps p.tables e below (s₁.setTop (mkF m 1 #[.val (.ref xs), .val (.ref ca), .val (.int (0 : Int32)), .val (.int (0 : Int32)), .val .null, .unset] [(.ref xs)])) _
    refine st301 _ ?_
    show Steps p.tables e below (T301.setTop (mkF m 4 #[.val (.ref xs), .val (.ref ca), .val (.int (0 : Int32)), .val (.int (0 : Int32)), .val .null, .unset] [])) _
    refine XS.iloadN X301.here hx rfl (hb hby d_jdk_42_method_149_code_4) rfl ?_
    show Steps p.tables e below (T301.setTop (mkF m 5 #[.val (.ref xs), .val (.ref ca), .val (.int (0 : Int32)), .val (.int (0 : Int32)), .val .null, .unset] [(.int (0 : Int32))])) _
    refine XS.ifNo X301.here hx rfl (hb hby d_jdk_42_method_149_code_5) rfl ((if0 _ _).trans (teq ((by decide) : (0 : Int32) = (0 : Int32))).2) ?_
    show Steps p.tables e below (T301.setTop (mkF m 8 #[.val (.ref xs), .val (.ref ca), .val (.int (0 : Int32)), .val (.int (0 : Int32)), .val .null, .unset] [])) _
    refine XS.aloadN X301.here hx rfl (hb hby d_jdk_42_method_149_code_8) rfl rfl ?_
    show Steps p.tables e below (T301.setTop (mkF m 9 #[.val (.ref xs), .val (.ref ca), .val (.int (0 : Int32)), .val (.int (0 : Int32)), .val .null, .unset] [(.ref xs)])) _
    refine st302 _ ?_
    show Steps p.tables e below (T302.setTop (mkF m 11 #[.val (.ref xs), .val (.ref ca), .val (.int (0 : Int32)), .val (.int (0 : Int32)), .val .null, .unset] [(.ref b302), (.ref xs)])) _
    refine st304 _ ?_
    show Steps p.tables e below (T304.setTop (mkF m 14 #[.val (.ref xs), .val (.ref ca), .val (.int (0 : Int32)), .val (.int (0 : Int32)), .val .null, .unset] [(.ref bb302), (.ref xs)])) _
    refine st307 _ ?_
    show Steps p.tables e below (T307.setTop (mkF m 17 #[.val (.ref xs), .val (.ref ca), .val (.int (0 : Int32)), .val (.int (0 : Int32)), .val .null, .unset] [])) _
    refine XS.aloadN X307.here hx rfl (hb hby d_jdk_42_method_149_code_17) rfl rfl ?_
    show Steps p.tables e below (T307.setTop (mkF m 18 #[.val (.ref xs), .val (.ref ca), .val (.int (0 : Int32)), .val (.int (0 : Int32)), .val .null, .unset] [(.ref xs)])) _
    refine st311 _ ?_
    show Steps p.tables e below (T311.setTop (mkF m 20 #[.val (.ref xs), .val (.ref ca), .val (.int (0 : Int32)), .val (.int (0 : Int32)), .val .null, .unset] [(.ref b311), (.ref xs)])) _
    refine st314 _ ?_
    show Steps p.tables e below (T314.setTop (mkF m 23 #[.val (.ref xs), .val (.ref ca), .val (.int (0 : Int32)), .val (.int (0 : Int32)), .val .null, .unset] [(.int (0 : Int32)), (.ref xs)])) _
    refine st317 _ ?_
    show Steps p.tables e below (T317.setTop (mkF m 26 #[.val (.ref xs), .val (.ref ca), .val (.int (0 : Int32)), .val (.int (0 : Int32)), .val .null, .unset] [])) _
    exact X317.returnOut hx Bd.returns (hb hby d_jdk_42_method_149_code_26) hr
  · show Q_newE4 Z xs ca h0 n0 _ T317.heap _
    rw [e317]
    exact ⟨bb302, kb302, rfl, N317, (((((Keep.refl h0 ([xs] : List Addr)).ext E302).wr W307 (Or.inl (by simp))).ext E311).wr W317 (Or.inl (by simp))), c320, F317, c322⟩
theorem d_jdk_42_method_3_code_0 : decode jdk_42_method_3_code 0 = .ok (.aload_n 0, 1) := by decide +kernel
theorem d_jdk_42_method_3_code_1 : decode jdk_42_method_3_code 1 = .ok (.aload_n 1, 1) := by decide +kernel
theorem d_jdk_42_method_3_code_2 : decode jdk_42_method_3_code 2 = .ok (.iconst 0, 1) := by decide +kernel
theorem d_jdk_42_method_3_code_3 : decode jdk_42_method_3_code 3 = .ok (.aload_n 1, 1) := by decide +kernel
theorem d_jdk_42_method_3_code_4 : decode jdk_42_method_3_code 4 = .ok (.arraylength, 1) := by decide +kernel
theorem d_jdk_42_method_3_code_5 : decode jdk_42_method_3_code 5 = .ok (.aconst_null, 1) := by decide +kernel
theorem d_jdk_42_method_3_code_6 : decode jdk_42_method_3_code 6 = .ok (.invokespecial 27, 3) := by decide +kernel
theorem pd_0 : parseMethodDescriptor "([CIILjava/lang/Void;)V" = some ⟨[(.array .char), .int, .int, (.object "java/lang/Void")], none⟩ := by decide +kernel
theorem d_jdk_42_method_3_code_9 : decode jdk_42_method_3_code 9 = .ok (.return_, 1) := by decide +kernel
theorem ef_1 (m : MethodId) (x0 : Addr) (x1 : Addr) : entryFrame m #[(.ref x0), (.ref x1)] 2 = mkF m 0 #[.val (.ref x0), .val (.ref x1)] [] := by first | (simp [entryFrame, mkF, argsToLocals, Value.category]; done) | rfl
def Q_newE1 (Z : State) (xs : Addr) (ca : Addr) (kc : ClassId) (h0 : Heap) (n0 : Nat) (v : Option Value) (h : Heap) (L : List Loc) : Prop := ∃ (tt : Addr) (kt : ClassId), (v = none) ∧ (Fr n0 L) ∧ (Keep h0 h ([xs] : List Addr)) ∧ (Fld Z h xs "java/lang/String" "value" "[B" (.ref tt)) ∧ (Fld Z h xs "java/lang/String" "coder" "B" (.int (0 : Int32))) ∧ (Arv Z h tt kt .byte (0 : Int32) [] (.int 0))
set_option maxRecDepth 65536 in
set_option maxHeartbeats 40000000 in
theorem rm_newE1 (l : Launch) (Z : State) (a0 : Array Value) (hw : ∀ d ∈ tables_1, d.before a0 Z = true) (ws : List Jvm.Cond) (xs : Addr) (ca : Addr) (kc : ClassId) (h0 : Heap) (n0 : Nat) (Z0 : n0 ≤ h0.size) (q0 : Exa Z h0 xs "java/lang/String") (q1 : Fld Z h0 xs "java/lang/String" "value" "[B" .null) (q2 : Fld Z h0 xs "java/lang/String" "coder" "B" (.int (0 : Int32))) (q3 : n0 ≤ xs) (q4 : Arv Z h0 ca kc .char (0 : Int32) [] (.int (0 : Int32))) :
    MetFree l (⟨"java/lang/String", "<init>", "([C)V"⟩ : MethodName) (head1 (Jvm.Cond.code (⟨"java/lang/String", "<init>", "([C)V"⟩ : MethodName) jdk_42_method_3_code 2 none :: ws) ({ frames := 2, cells := 4, slots := 8, locals := 29 } : Room)) (fun a₁ U₁ => a₁ = #[(.ref xs), (.ref ca)] ∧ Z.Warmed39 U₁.vm ∧ U₁.heap = h0 ∧ CHv Z [("java/lang/String", 7)] U₁.vm h0) (fun _ _ _ _ _ => True) (fun _ U₁ o₁ U₂ => ∃ v₁ L₁, o₁ = .returned v₁ ∧ Q_newE1 Z xs ca kc h0 n0 v₁ U₂.heap L₁ ∧ CHr Z [("java/lang/String", 7)] U₁.vm U₁.heap U₂.vm U₂.heap ∧ ReturnedEndW U₁ o₁ U₂ L₁ ({ frames := 2, cells := 4, slots := 8, locals := 29 } : Room).cells ({ frames := 2, cells := 4, slots := 8, locals := 29 } : Room).slots) := by
  refine MetFree.of_bodySF (plainFor_of_name pn_0) hisR ?_
  intro p e s m args below meth c s₁ Bd hml0 hP hK
  obtain ⟨rfl, hZ, hh, CH0⟩ := hP
  have hx := Bd.exec
  have hby := Bd.bytes
  have hml : c.maxLocals = 2 := hml0
  have hown : s.vm.findClass "java/lang/String" = some m.cls := findClass_of_methodNamed Bd.named
  have hnm := (name_of_methodNamed Bd.named Bd.method).1
  have X0 : Stand p l e ({ frames := 2, cells := 4, slots := 8, locals := 29 } : Room) (s.setVm s.vm) m #[(.ref xs), (.ref ca)] below meth c s₁ [] 0 0 := Stand.of_body Bd
  have e0 : s₁.heap = h0 := by rw [← hh, Bd.state]; rfl
  have N0 := Fr.nil n0
  have hZ0 : Z.Warmed39 (s.setVm s.vm).vm := hZ
  have hown0 : (s.setVm s.vm).vm.findClass "java/lang/String" = some m.cls := hown
  have hS0 : s.Since s.vm h0.size := (State.WarmedH.refl s).since _
  have hk0 : h0.size ≤ h0.size := Nat.le_refl _
  have CR0 : CHr Z [("java/lang/String", 7)] s.vm h0 s.vm h0 := CHr.refl CH0
  have pre0 : ∀ t, Steps p.tables e below (s₁.setTop (mkF m 0 #[.val (.ref xs), .val (.ref ca)] [])) t → Steps p.tables e below (s₁.setTop (entryFrame m #[(.ref xs), (.ref ca)] 2)) t := fun t k => castTop (ef_1 m xs ca) k
  obtain ⟨cl301, Ar301, -, S301, M301, -, -⟩ := id q4
  obtain ⟨_, _, ⟨T302, L302, k302, n302⟩, -, X302', hS302', hz302', ⟨Lc302, hQ302, l302, y302, z302, ch302⟩, st302⟩ := X0.specialBackS hx (y := (⟨"java/lang/String", "<init>", "([CIILjava/lang/Void;)V"⟩ : MethodName)) rfl hown0 (mvT hZ0 (hw _ (List.mem_of_getElem? (i := 18) rfl))) (mvT hZ0 (hw _ (List.mem_of_getElem? (i := 19) rfl))) (mvT hZ0 (hw _ (List.mem_of_getElem? (i := 21) rfl))) (by decide) (backOfSH (W := 0) (rm_newE4 l Z a0 hw [] xs ca h0 n0 Z0 q0 q1 q2 q3) hZ0 (hw _ (List.mem_of_getElem? (i := 21) rfl)) (hw _ (List.mem_of_getElem? (i := 13) rfl)) (by decide) (by decide) (own_EW hw) CR0.1) (g := (mkF m 6 #[.val (.ref xs), .val (.ref ca)] [.null, (.int (0 : Int32)), (.int (0 : Int32)), (.ref ca), (.ref xs)])) rfl (by rw [hml]; rfl) (Steps.refl _) (a := xs) (argsL := [(.ref ca), (.int (0 : Int32)), (.int (0 : Int32)), .null]) (rest := []) (lenOf pd_0 rfl) rfl (by show 2 * 0 + _ ≤ _; exact Nat.le_of_eq rfl) (hb hby d_jdk_42_method_3_code_6) (fun _ _ => ⟨rfl, e0, (by decide : 0 + 4 ≤ _), (by decide : 0 + 8 ≤ _)⟩)
  dsimp only [Pt.U, Pt.locs, Pt.cells, Pt.slots] at X302' l302 y302 z302 st302 hQ302 hS302' hz302' ch302
  subst l302 y302 z302
  obtain ⟨tt_302, kt_302, rfl, Nq302, K302, f302_0, f302_1, f302_2⟩ := hQ302
  have N302 := Fr.app N0 Nq302
  obtain ⟨X302, hS302, hZ302, hown302⟩ := rebS hS0 (by rw [e0]; exact hk0) X302' hS302' hz302' hZ0 hown0
  have CR303 : CHr Z [("java/lang/String", 7)] s.vm h0 T302.vm T302.heap := CR0.trans ch302
  obtain ⟨fs, hr, hrun, hended, hEnd⟩ := X302.leaveW hS302 (Nat.le_refl _) (v := none) (fun _ => rfl)
  refine ⟨_, _, pre0 _ ?_, hrun, hended, _, _, rfl, ?_, (by rw [hh]; show CHr Z [("java/lang/String", 7)] s.vm h0 T302.vm T302.heap; exact CR303.trans (CHv.at X302 hZ302 (own_EW hw) CR303.1)), hEnd.1, hEnd.2.1, hEnd.2.2.1, hEnd.2.2.2.mono (by decide) (by decide)⟩
  · refine XS.aloadN X0.here hx rfl (hb hby d_jdk_42_method_3_code_0) rfl rfl ?_
    show Steps p.tables e below (s₁.setTop (mkF m 1 #[.val (.ref xs), .val (.ref ca)] [(.ref xs)])) _
    refine XS.aloadN X0.here hx rfl (hb hby d_jdk_42_method_3_code_1) rfl rfl ?_
    show Steps p.tables e below (s₁.setTop (mkF m 2 #[.val (.ref xs), .val (.ref ca)] [(.ref ca), (.ref xs)])) _
    refine XS.iconst X0.here hx rfl (hb hby d_jdk_42_method_3_code_2) ?_
    show Steps p.tables e below (s₁.setTop (mkF m 3 #[.val (.ref xs), .val (.ref ca)] [(.int (0 : Int32)), (.ref ca), (.ref xs)])) _
    refine XS.aloadN X0.here hx rfl (hb hby d_jdk_42_method_3_code_3) rfl rfl ?_
    show Steps p.tables e below (s₁.setTop (mkF m 4 #[.val (.ref xs), .val (.ref ca)] [(.ref ca), (.int (0 : Int32)), (.ref ca), (.ref xs)])) _
    refine X0.arraylength hx (by rw [e0]; exact Ar301.1) (State.isArrayOf_alike hZ0.alike Ar301.2.1) (g := (mkF m 4 #[.val (.ref xs), .val (.ref ca)] [(.ref ca), (.int (0 : Int32)), (.ref ca), (.ref xs)])) rfl rfl (hb hby d_jdk_42_method_3_code_4) _ ?_
    rw [len_of S301 M301]
    show Steps p.tables e below (s₁.setTop (mkF m 5 #[.val (.ref xs), .val (.ref ca)] [(.int (0 : Int32)), (.int (0 : Int32)), (.ref ca), (.ref xs)])) _
    refine XS.aconstNull X0.here hx rfl (hb hby d_jdk_42_method_3_code_5) ?_
    show Steps p.tables e below (s₁.setTop (mkF m 6 #[.val (.ref xs), .val (.ref ca)] [.null, (.int (0 : Int32)), (.int (0 : Int32)), (.ref ca), (.ref xs)])) _
    refine st302.trans ?_
    show Steps p.tables e below (T302.setTop (mkF m 9 #[.val (.ref xs), .val (.ref ca)] [])) _
    exact X302.returnOut hx Bd.returns (hb hby d_jdk_42_method_3_code_9) hr
  · show Q_newE1 Z xs ca kc h0 n0 _ T302.heap _
    exact ⟨tt_302, kt_302, rfl, N302, ((Keep.refl h0 ([xs] : List Addr)).trans K302 (allS (Or.inl (by simp)) all0)), f302_0, f302_1, f302_2⟩
theorem d_method_3_code_0 : decode method_3_code 0 = .ok (.iload_n 0, 1) := by decide +kernel
theorem d_method_3_code_1 : decode method_3_code 1 = .ok (.ifCond .ne 14, 3) := by decide +kernel
theorem d_method_3_code_4 : decode method_3_code 4 = .ok (.new 27, 3) := by decide +kernel
theorem d_method_3_code_7 : decode method_3_code 7 = .ok (.dup, 1) := by decide +kernel
theorem d_method_3_code_8 : decode method_3_code 8 = .ok (.iconst 0, 1) := by decide +kernel
theorem d_method_3_code_9 : decode method_3_code 9 = .ok (.newarray .char, 2) := by decide +kernel
theorem d_method_3_code_11 : decode method_3_code 11 = .ok (.invokespecial 29, 3) := by decide +kernel
theorem pd_1 : parseMethodDescriptor "([C)V" = some ⟨[(.array .char)], none⟩ := by decide +kernel
theorem d_method_3_code_14 : decode method_3_code 14 = .ok (.areturn, 1) := by decide +kernel
theorem d_method_3_code_15 : decode method_3_code 15 = .ok (.iload_n 0, 1) := by decide +kernel
theorem d_method_3_code_16 : decode method_3_code 16 = .ok (.iconst 1, 1) := by decide +kernel
theorem d_method_3_code_17 : decode method_3_code 17 = .ok (.if_icmp .ne 18, 3) := by decide +kernel
theorem d_method_3_code_20 : decode method_3_code 20 = .ok (.new 27, 3) := by decide +kernel
theorem d_method_3_code_23 : decode method_3_code 23 = .ok (.dup, 1) := by decide +kernel
theorem d_method_3_code_24 : decode method_3_code 24 = .ok (.iconst 1, 1) := by decide +kernel
theorem d_method_3_code_25 : decode method_3_code 25 = .ok (.newarray .char, 2) := by decide +kernel
theorem d_method_3_code_27 : decode method_3_code 27 = .ok (.dup, 1) := by decide +kernel
theorem d_method_3_code_28 : decode method_3_code 28 = .ok (.iconst 0, 1) := by decide +kernel
theorem d_method_3_code_29 : decode method_3_code 29 = .ok (.iload_n 1, 1) := by decide +kernel
theorem d_method_3_code_30 : decode method_3_code 30 = .ok (.castore, 1) := by decide +kernel
theorem d_method_3_code_31 : decode method_3_code 31 = .ok (.invokespecial 29, 3) := by decide +kernel
theorem d_method_3_code_34 : decode method_3_code 34 = .ok (.areturn, 1) := by decide +kernel
theorem d_method_3_code_35 : decode method_3_code 35 = .ok (.new 27, 3) := by decide +kernel
theorem d_method_3_code_38 : decode method_3_code 38 = .ok (.dup, 1) := by decide +kernel
theorem d_method_3_code_39 : decode method_3_code 39 = .ok (.iconst 2, 1) := by decide +kernel
theorem d_method_3_code_40 : decode method_3_code 40 = .ok (.newarray .char, 2) := by decide +kernel
theorem d_method_3_code_42 : decode method_3_code 42 = .ok (.dup, 1) := by decide +kernel
theorem d_method_3_code_43 : decode method_3_code 43 = .ok (.iconst 0, 1) := by decide +kernel
theorem d_method_3_code_44 : decode method_3_code 44 = .ok (.iload_n 1, 1) := by decide +kernel
theorem d_method_3_code_45 : decode method_3_code 45 = .ok (.castore, 1) := by decide +kernel
theorem d_method_3_code_46 : decode method_3_code 46 = .ok (.dup, 1) := by decide +kernel
theorem d_method_3_code_47 : decode method_3_code 47 = .ok (.iconst 1, 1) := by decide +kernel
theorem d_method_3_code_48 : decode method_3_code 48 = .ok (.iload_n 2, 1) := by decide +kernel
theorem d_method_3_code_49 : decode method_3_code 49 = .ok (.castore, 1) := by decide +kernel
theorem d_method_3_code_50 : decode method_3_code 50 = .ok (.invokespecial 29, 3) := by decide +kernel
theorem d_method_3_code_53 : decode method_3_code 53 = .ok (.areturn, 1) := by decide +kernel
theorem ef_2 (m : MethodId) (x0 : Int32) (x1 : Int32) (x2 : Int32) : entryFrame m #[(.int x0), (.int x1), (.int x2)] 3 = mkF m 0 #[.val (.int x0), .val (.int x1), .val (.int x2)] [] := by first | (simp [entryFrame, mkF, argsToLocals, Value.category]; done) | rfl
theorem pn_1 : plainName "com/example/holdfast/holdfast/jpql/TokenIsSymbolPinLaw" = true := by first | (simp [plainName, overriddenIn]; done) | decide +kernel
def Q_make (Z : State) (nq : Int32) (c0 : Int32) (c1 : Int32) (G : Int32) (h0 : Heap) (n0 : Nat) (v : Option Value) (h : Heap) (L : List Loc) : Prop := ∃ (xr : Addr) (tt : Addr) (kt : ClassId) (nn : Int32) (vs : List Value), (v = some (.ref xr)) ∧ (Fr n0 L) ∧ (Keep h0 h ([] : List Addr)) ∧ (h0.size ≤ xr) ∧ (Exa Z h xr "java/lang/String") ∧ (Fld Z h xr "java/lang/String" "value" "[B" (.ref tt)) ∧ (Fld Z h xr "java/lang/String" "coder" "B" (.int (0 : Int32))) ∧ (Arv Z h tt kt .byte nn vs (.int 0)) ∧ (StrChars.Road.CodA (own_cs nq c0 c1) 0 nn vs)
set_option maxRecDepth 65536 in
set_option maxHeartbeats 40000000 in
theorem rm_make (l : Launch) (Z : State) (a0 : Array Value) (hw : ∀ d ∈ tables_1, d.before a0 Z = true) (ws : List Jvm.Cond) (nq : Int32) (c0 : Int32) (c1 : Int32) (G : Int32) (h0 : Heap) (n0 : Nat) (Z0 : n0 ≤ h0.size) (q0 : Sta Z Z.heap "java/lang/String" "COMPACT_STRINGS" "Z" (.int G)) (hCS : ¬ (G = (0 : Int32))) (q2 : Old Z n0 h0) (hq : nq = (0 : Int32) ∨ nq = (1 : Int32) ∨ nq = (2 : Int32)) (hn0 : nar .char c0 = c0) (hn1 : nar .char c1 = c1) (hl0 : ¬ c0 < 0 ∧ ¬ (255 : Int32) < c0) (hl1 : ¬ c1 < 0 ∧ ¬ (255 : Int32) < c1) :
    MetFree l (⟨"com/example/holdfast/holdfast/jpql/TokenIsSymbolPinLaw", "make", "(ICC)Ljava/lang/String;"⟩ : MethodName) (head1 (Jvm.Cond.code (⟨"com/example/holdfast/holdfast/jpql/TokenIsSymbolPinLaw", "make", "(ICC)Ljava/lang/String;"⟩ : MethodName) method_3_code 3 (some (.object "java/lang/String")) :: ws) ({ frames := 4, cells := 6, slots := 12, locals := 66 } : Room)) (fun a₁ U₁ => a₁ = #[(.int nq), (.int c0), (.int c1)] ∧ Z.Warmed39 U₁.vm ∧ U₁.heap = h0 ∧ CHv Z [("java/lang/String", 7)] U₁.vm h0) (fun _ _ _ _ _ => True) (fun _ U₁ o₁ U₂ => ∃ v₁ L₁, o₁ = .returned v₁ ∧ Q_make Z nq c0 c1 G h0 n0 v₁ U₂.heap L₁ ∧ CHr Z [("java/lang/String", 7)] U₁.vm U₁.heap U₂.vm U₂.heap ∧ ReturnedEndW U₁ o₁ U₂ L₁ ({ frames := 4, cells := 6, slots := 12, locals := 66 } : Room).cells ({ frames := 4, cells := 6, slots := 12, locals := 66 } : Room).slots) := by
  refine MetFree.of_bodySF (plainFor_of_name pn_1) hisR ?_
  intro p e s m args below meth c s₁ Bd hml0 hP hK
  obtain ⟨rfl, hZ, hh, CH0⟩ := hP
  have hx := Bd.exec
  have hby := Bd.bytes
  have hml : c.maxLocals = 3 := hml0
  have hown : s.vm.findClass "com/example/holdfast/holdfast/jpql/TokenIsSymbolPinLaw" = some m.cls := findClass_of_methodNamed Bd.named
  have hnm := (name_of_methodNamed Bd.named Bd.method).1
  have X0 : Stand p l e ({ frames := 4, cells := 6, slots := 12, locals := 66 } : Room) (s.setVm s.vm) m #[(.int nq), (.int c0), (.int c1)] below meth c s₁ [] 0 0 := Stand.of_body Bd
  have e0 : s₁.heap = h0 := by rw [← hh, Bd.state]; rfl
  have N0 := Fr.nil n0
  have hZ0 : Z.Warmed39 (s.setVm s.vm).vm := hZ
  have hown0 : (s.setVm s.vm).vm.findClass "com/example/holdfast/holdfast/jpql/TokenIsSymbolPinLaw" = some m.cls := hown
  have hS0 : s.Since s.vm h0.size := (State.WarmedH.refl s).since _
  have hk0 : h0.size ≤ h0.size := Nat.le_refl _
  have CR0 : CHr Z [("java/lang/String", 7)] s.vm h0 s.vm h0 := CHr.refl CH0
  have pre0 : ∀ t, Steps p.tables e below (s₁.setTop (mkF m 0 #[.val (.int nq), .val (.int c0), .val (.int c1)] [])) t → Steps p.tables e below (s₁.setTop (entryFrame m #[(.int nq), (.int c0), (.int c1)] 3)) t := fun t k => castTop (ef_2 m nq c0 c1) k
  rcases hq with hq | hq | hq
  · subst hq
    obtain ⟨T301, h301, X301, e301, E301, A301, D301, -, st301⟩ := newO X0 hx hZ0 hown0 (hw _ (List.mem_of_getElem? (i := 11) rfl)) (hw _ (List.mem_of_getElem? (i := 12) rfl)) (hw _ (List.mem_of_getElem? (i := 13) rfl)) e0 (g := (mkF m 4 #[.val (.int (0 : Int32)), .val (.int c0), .val (.int c1)] [])) rfl (hb hby d_method_3_code_4) (by decide) (by decide)
    obtain ⟨b301, g301⟩ : ∃ z, z = h0.size := ⟨_, rfl⟩
    rw [← g301] at A301 D301 st301
    have sf302 : Safe Z [("java/lang/String", 7)] s.vm h0 b301 := Safe.new (Nat.le_of_eq g301.symm)
    have CR303 : CHr Z [("java/lang/String", 7)] s.vm h0 s.vm h301 := CR0.trans (CHr.ext E301 CR0.1)
    have sf304 : Safe Z [("java/lang/String", 7)] s.vm h301 b301 := Safe.ext E301 CR0.1 sf302
    have D301_coder : Fld Z h301 b301 "java/lang/String" "coder" "B" (.int (0 : Int32)) := D301 (Or.inr (hw _ (List.mem_of_getElem? (i := 38) rfl))) (ty := .byte) (by decide)
    have D301_value : Fld Z h301 b301 "java/lang/String" "value" "[B" .null := D301 (Or.inr (hw _ (List.mem_of_getElem? (i := 40) rfl))) (ty := (.array .byte)) (by decide)
    obtain ⟨T305, h305, ky305, X305, e305, E305, A305, st305⟩ := newP X301 hx hZ0 (hw _ (List.mem_of_getElem? (i := 14) rfl)) e301 (g := (mkF m 9 #[.val (.int (0 : Int32)), .val (.int c0), .val (.int c1)] [(.int (0 : Int32)), (.ref b301), (.ref b301)])) rfl (hb hby d_method_3_code_9) rfl ((by decide) : ¬ ((0 : Int32) < (0 : Int32))) (cap := 0) ((by decide) : (0 : Int32).toNatClampNeg ≤ 0) (by decide) (by decide) (by decide)
    obtain ⟨b305, g305⟩ : ∃ z, z = h301.size := ⟨_, rfl⟩
    rw [← g305] at A305 st305
    have sf306 : Safe Z [("java/lang/String", 7)] s.vm h301 b305 := Safe.new (Nat.le_of_eq g305.symm)
    have CR307 : CHr Z [("java/lang/String", 7)] s.vm h0 s.vm h305 := CR303.trans (CHr.ext E305 CR303.1)
    have sf308 : Safe Z [("java/lang/String", 7)] s.vm h305 b301 := Safe.ext E305 CR303.1 sf304
    have sf309 : Safe Z [("java/lang/String", 7)] s.vm h305 b305 := Safe.ext E305 CR303.1 sf306
    have V305 : Arv Z h305 b305 ky305 .char (0 : Int32) [] (.int (0 : Int32)) := Arv.new A305 (by decide)
    have c310 : Exa Z h305 b301 "java/lang/String" := (A301.ext E305)
    have c311 : Fld Z h305 b301 "java/lang/String" "value" "[B" .null := (D301_value.ext E305)
    have c312 : Fld Z h305 b301 "java/lang/String" "coder" "B" (.int (0 : Int32)) := (D301_coder.ext E305)
    have ge313 : n0 ≤ b301 := Nat.le_trans Z0 (Nat.le_trans (Nat.le_refl _) (Nat.le_of_eq g301.symm))
    obtain ⟨_, _, ⟨T314, L314, k314, n314⟩, -, X314', hS314', hz314', ⟨Lc314, hQ314, l314, y314, z314, ch314⟩, st314⟩ := X305.specialBackS hx (y := (⟨"java/lang/String", "<init>", "([C)V"⟩ : MethodName)) rfl hown0 (mvT hZ0 (hw _ (List.mem_of_getElem? (i := 15) rfl))) (mvT hZ0 (hw _ (List.mem_of_getElem? (i := 16) rfl))) (mvT hZ0 (hw _ (List.mem_of_getElem? (i := 17) rfl))) (by decide) (backOfSH (W := 1) (rm_newE1 l Z a0 hw [] b301 b305 ky305 h305 n0 (Nat.le_trans Z0 (Nat.le_trans E301.1 E305.1)) c310 c311 c312 ge313 V305) hZ0 (hw _ (List.mem_of_getElem? (i := 17) rfl)) (hw _ (List.mem_of_getElem? (i := 13) rfl)) (by decide) (by decide) (own_EW hw) CR307.1) (g := (mkF m 11 #[.val (.int (0 : Int32)), .val (.int c0), .val (.int c1)] [(.ref b305), (.ref b301), (.ref b301)])) rfl (by rw [hml]; rfl) (Steps.refl _) (a := b301) (argsL := [(.ref b305)]) (rest := [(.ref b301)]) (lenOf pd_1 rfl) rfl (by show 2 * 0 + _ ≤ _; exact Nat.le_of_eq rfl) (hb hby d_method_3_code_11) (fun _ _ => ⟨rfl, e305, (by decide : 2 + 4 ≤ _), (by decide : 4 + 8 ≤ _)⟩)
    dsimp only [Pt.U, Pt.locs, Pt.cells, Pt.slots] at X314' l314 y314 z314 st314 hQ314 hS314' hz314' ch314
    subst l314 y314 z314
    obtain ⟨tt_314, kt_314, rfl, Nq314, K314, f314_0, f314_1, f314_2⟩ := hQ314
    have N314 := Fr.app N0 Nq314
    obtain ⟨X314, hS314, hZ314, hown314⟩ := rebS hS0 (by rw [e305]; exact (Nat.le_trans hk0 (Nat.le_trans E301.1 E305.1))) X314' hS314' hz314' hZ0 hown0
    have CR315 : CHr Z [("java/lang/String", 7)] s.vm h0 T314.vm T314.heap := CR307.trans ch314
    have sf316 : Safe Z [("java/lang/String", 7)] T314.vm T314.heap b301 := ch314.safe c310.lt sf308
    have sf317 : Safe Z [("java/lang/String", 7)] T314.vm T314.heap b305 := ch314.safe V305.lt sf309
    have c318 : Exa Z T314.heap b301 "java/lang/String" := (c310.keep K314)
    obtain ⟨fs, hr, hrun, hended, hEnd⟩ := X314.leaveW hS314 (Nat.le_refl _) (v := some (.ref b301)) (fun h => by rw [Bd.returns] at h; cases h)
    refine ⟨_, _, pre0 _ ?_, hrun, hended, _, _, rfl, ?_, (by rw [hh]; show CHr Z [("java/lang/String", 7)] s.vm h0 T314.vm T314.heap; exact CR315.trans (CHv.at X314 hZ314 (own_EW hw) CR315.1)), hEnd.1, hEnd.2.1, hEnd.2.2.1, hEnd.2.2.2.mono (by decide) (by decide)⟩
    · refine XS.iloadN X0.here hx rfl (hb hby d_method_3_code_0) rfl ?_
      show Steps p.tables e below (s₁.setTop (mkF m 1 #[.val (.int (0 : Int32)), .val (.int c0), .val (.int c1)] [(.int (0 : Int32))])) _
      refine XS.ifNo X0.here hx rfl (hb hby d_method_3_code_1) rfl ((if0 _ _).trans (teq ((by decide) : (0 : Int32) = (0 : Int32))).2) ?_
      show Steps p.tables e below (s₁.setTop (mkF m 4 #[.val (.int (0 : Int32)), .val (.int c0), .val (.int c1)] [])) _
      refine st301 _ ?_
      show Steps p.tables e below (T301.setTop (mkF m 7 #[.val (.int (0 : Int32)), .val (.int c0), .val (.int c1)] [(.ref b301)])) _
      refine XS.dup X301.here hx rfl (hb hby d_method_3_code_7) rfl rfl ?_
      show Steps p.tables e below (T301.setTop (mkF m 8 #[.val (.int (0 : Int32)), .val (.int c0), .val (.int c1)] [(.ref b301), (.ref b301)])) _
      refine XS.iconst X301.here hx rfl (hb hby d_method_3_code_8) ?_
      show Steps p.tables e below (T301.setTop (mkF m 9 #[.val (.int (0 : Int32)), .val (.int c0), .val (.int c1)] [(.int (0 : Int32)), (.ref b301), (.ref b301)])) _
      refine st305 _ ?_
      show Steps p.tables e below (T305.setTop (mkF m 11 #[.val (.int (0 : Int32)), .val (.int c0), .val (.int c1)] [(.ref b305), (.ref b301), (.ref b301)])) _
      refine st314.trans ?_
      show Steps p.tables e below (T314.setTop (mkF m 14 #[.val (.int (0 : Int32)), .val (.int c0), .val (.int c1)] [(.ref b301)])) _
      jvm_step X314.here [X314.here.top, hx, (hb hby d_method_3_code_14), X314.method', Bd.returns, Value.isRef, FieldType.isReference]
      first | (intro acts; rw [hr _ acts rfl rfl rfl]) | rw [hr _ _ rfl rfl rfl]
      exact Steps.refl _
    · show Q_make Z (0 : Int32) c0 c1 G h0 n0 _ T314.heap _
      exact ⟨b301, tt_314, kt_314, (0 : Int32), [], rfl, N314, ((((Keep.refl h0 ([] : List Addr)).ext E301).ext E305).trans K314 (allS (Or.inr (Nat.le_trans (Nat.le_refl _) (Nat.le_of_eq g301.symm))) all0)), (Nat.le_trans (Nat.le_refl _) (Nat.le_of_eq g301.symm)), c318, f314_0, f314_1, f314_2, (by rw [own_cs0]; exact Or.inl ⟨rfl, rfl, rfl, by simp⟩)⟩
  · subst hq
    obtain ⟨T319, h319, X319, e319, E319, A319, D319, -, st319⟩ := newO X0 hx hZ0 hown0 (hw _ (List.mem_of_getElem? (i := 11) rfl)) (hw _ (List.mem_of_getElem? (i := 12) rfl)) (hw _ (List.mem_of_getElem? (i := 13) rfl)) e0 (g := (mkF m 20 #[.val (.int (1 : Int32)), .val (.int c0), .val (.int c1)] [])) rfl (hb hby d_method_3_code_20) (by decide) (by decide)
    obtain ⟨b319, g319⟩ : ∃ z, z = h0.size := ⟨_, rfl⟩
    rw [← g319] at A319 D319 st319
    have sf320 : Safe Z [("java/lang/String", 7)] s.vm h0 b319 := Safe.new (Nat.le_of_eq g319.symm)
    have CR321 : CHr Z [("java/lang/String", 7)] s.vm h0 s.vm h319 := CR0.trans (CHr.ext E319 CR0.1)
    have sf322 : Safe Z [("java/lang/String", 7)] s.vm h319 b319 := Safe.ext E319 CR0.1 sf320
    have D319_coder : Fld Z h319 b319 "java/lang/String" "coder" "B" (.int (0 : Int32)) := D319 (Or.inr (hw _ (List.mem_of_getElem? (i := 38) rfl))) (ty := .byte) (by decide)
    have D319_value : Fld Z h319 b319 "java/lang/String" "value" "[B" .null := D319 (Or.inr (hw _ (List.mem_of_getElem? (i := 40) rfl))) (ty := (.array .byte)) (by decide)
    obtain ⟨T323, h323, ky323, X323, e323, E323, A323, st323⟩ := newP X319 hx hZ0 (hw _ (List.mem_of_getElem? (i := 14) rfl)) e319 (g := (mkF m 25 #[.val (.int (1 : Int32)), .val (.int c0), .val (.int c1)] [(.int (1 : Int32)), (.ref b319), (.ref b319)])) rfl (hb hby d_method_3_code_25) rfl ((by decide) : ¬ ((1 : Int32) < (0 : Int32))) (cap := 1) ((by decide) : (1 : Int32).toNatClampNeg ≤ 1) (by decide) (by decide) (by decide)
    obtain ⟨b323, g323⟩ : ∃ z, z = h319.size := ⟨_, rfl⟩
    rw [← g323] at A323 st323
    have sf324 : Safe Z [("java/lang/String", 7)] s.vm h319 b323 := Safe.new (Nat.le_of_eq g323.symm)
    have CR325 : CHr Z [("java/lang/String", 7)] s.vm h0 s.vm h323 := CR321.trans (CHr.ext E323 CR321.1)
    have sf326 : Safe Z [("java/lang/String", 7)] s.vm h323 b319 := Safe.ext E323 CR321.1 sf322
    have sf327 : Safe Z [("java/lang/String", 7)] s.vm h323 b323 := Safe.ext E323 CR321.1 sf324
    have V323 : Arv Z h323 b323 ky323 .char (1 : Int32) [] (.int (0 : Int32)) := Arv.new A323 (by decide)
    have U323 : Arv Z h323 b323 ky323 .char (1 : Int32) [(.int (0 : Int32))] (.int (0 : Int32)) := V323.pad (pad_rep [] (.int (0 : Int32)) 1)
    have ge329 : n0 ≤ b323 := Nat.le_trans Z0 (Nat.le_trans E319.1 (Nat.le_of_eq g323.symm))
    obtain ⟨cl328, Ar328, qq328, S328, M328, Hh328, U328⟩ := id U323
    obtain ⟨T328, h328, X328, e328, W328, st328⟩ := stC X323 hx hZ0 e323 Ar328 (j := (0 : Int32)) (inb_of S328 ⟨(by decide : ¬ ((0 : Int32) < (0 : Int32))), (by decide : (0 : Int32) < (1 : Int32))⟩) (g := (mkF m 30 #[.val (.int (1 : Int32)), .val (.int c0), .val (.int c1)] [(.int c0), (.int (0 : Int32)), (.ref b323), (.ref b323), (.ref b319), (.ref b319)])) rfl rfl (hb hby d_method_3_code_30)
    have N328 := Fr.snoc X328 N0 ge329
    have CR330 : CHr Z [("java/lang/String", 7)] s.vm h0 s.vm h328 := CR325.trans (CHr.wr W328 sf327 CR325.1)
    have sf331 : Safe Z [("java/lang/String", 7)] s.vm h328 b319 := Safe.wr W328 sf327 CR325.1 sf326
    have sf332 : Safe Z [("java/lang/String", 7)] s.vm h328 b323 := Safe.wr W328 sf327 CR325.1 sf327
    have V328 : Arv Z h328 b323 ky323 .char (1 : Int32) [(.int (nar .char c0))] (.int (0 : Int32)) := Arv.set Ar328 qq328 S328 M328 Hh328 U328 (fits_nar_char _) W328 0 rfl (Nat.le_of_ble_eq_true rfl)
    have VR328 : Arv Z h328 b323 ky323 .char (1 : Int32) [(.int c0)] (.int (0 : Int32)) := by have q := V328; rw [hn0] at q; exact q
    have c334 : Old Z n0 h328 := (((q2.ext E319).ext E323).wr W328 ge329)
    have hp335 : ∀ c ∈ ([c0] : List Int32), ¬ c < 0 ∧ ¬ (255 : Int32) < c := by
      intro c hc
      simp only [List.mem_cons, List.not_mem_nil, or_false] at hc
      rcases hc with rfl
      · exact hl0
    have c336 : Exa Z h328 b319 "java/lang/String" := ((A319.ext E323).wr W328)
    have ne337 : b319 ≠ b323 := Nat.ne_of_lt (Nat.lt_of_lt_of_le D319_coder.lt (Nat.le_of_eq g323.symm))
    have c338 : Fld Z h328 b319 "java/lang/String" "value" "[B" .null := ((D319_value.ext E323).other W328 (Or.inl ne337))
    have c339 : Fld Z h328 b319 "java/lang/String" "coder" "B" (.int (0 : Int32)) := ((D319_coder.ext E323).other W328 (Or.inl ne337))
    have ge340 : n0 ≤ b319 := Nat.le_trans Z0 (Nat.le_trans (Nat.le_refl _) (Nat.le_of_eq g319.symm))
    obtain ⟨_, _, ⟨T333, L333, k333, n333⟩, -, X333, ⟨Lc333, hQ333, l333, y333, z333⟩, st333⟩ := X328.specialBack hx (y := (⟨"java/lang/String", "<init>", "([C)V"⟩ : MethodName)) rfl hown0 (mvT hZ0 (hw _ (List.mem_of_getElem? (i := 15) rfl))) (mvT hZ0 (hw _ (List.mem_of_getElem? (i := 16) rfl))) (mvT hZ0 (hw _ (List.mem_of_getElem? (i := 17) rfl))) (by decide) (StrChars.Road.backV (W := 1) hZ0 (own_hw_backV hw) (kI := 4) (hw _ (List.mem_of_getElem? (i := 12) rfl)) (cs := ([c0] : List Int32)) (bs := (([c0] : List Int32)).map (fun c => c.toInt8.toInt32)) (n := 1) ge340 (Nat.le_trans Z0 (Nat.le_trans (Nat.le_trans E319.1 E323.1) (Keep.of_wr W328).1)) c336 c338 c339 VR328 (q0.ext c334.2) hCS rfl rfl (by decide) (by decide) hp335 rfl (by decide) (by decide)) (g := (mkF m 31 #[.val (.int (1 : Int32)), .val (.int c0), .val (.int c1)] [(.ref b323), (.ref b319), (.ref b319)])) rfl (by rw [hml]; rfl) (Steps.refl _) (a := b319) (argsL := [(.ref b323)]) (rest := [(.ref b319)]) (lenOf pd_1 rfl) rfl (by show 2 * 0 + _ ≤ _; exact Nat.le_of_eq rfl) (hb hby d_method_3_code_31) (fun _ _ => ⟨rfl, e328, (by decide : 2 + 1 ≤ _), (by decide : 5 + 1 ≤ _)⟩)
    dsimp only [Pt.U, Pt.locs, Pt.cells, Pt.slots] at X333 l333 y333 z333 st333 hQ333
    subst l333 y333 z333
    obtain ⟨rfl, Nq333, K333, fE333, fC333, t333, kb333, gt333, sz333, nt333, fV333, fA333⟩ := hQ333
    have N333 := Fr.app N328 Nq333
    have sf341 : Safe Z [("java/lang/String", 7)] s.vm h328 t333 := Safe.new sz333
    have CR342 : CHr Z [("java/lang/String", 7)] s.vm h0 s.vm T333.heap := CR330.trans (CHr.keep K333 (sfS sf331 sf0) CR330.1)
    have sf343 : Safe Z [("java/lang/String", 7)] s.vm T333.heap b319 := Safe.keep K333 (sfS sf331 sf0) CR330.1 sf331
    have sf344 : Safe Z [("java/lang/String", 7)] s.vm T333.heap b323 := Safe.keep K333 (sfS sf331 sf0) CR330.1 sf332
    have sf345 : Safe Z [("java/lang/String", 7)] s.vm T333.heap t333 := Safe.keep K333 (sfS sf331 sf0) CR330.1 sf341
    have hcd333 : StrChars.Road.CodA ([c0] : List Int32) 0 (1 : Int32) (((([c0] : List Int32)).map (fun c => c.toInt8.toInt32)).map Value.int) := StrChars.Road.codOf (n := 1) rfl (fun c hc => (hp335 c hc).2)
    obtain ⟨fs, hr, hrun, hended, hEnd⟩ := X333.leaveW hS0 (Nat.le_trans hk0 (Nat.le_trans (Nat.le_trans (Nat.le_trans E319.1 E323.1) (Keep.of_wr W328).1) K333.1)) (v := some (.ref b319)) (fun h => by rw [Bd.returns] at h; cases h)
    refine ⟨_, _, pre0 _ ?_, hrun, hended, _, _, rfl, ?_, (by rw [hh]; show CHr Z [("java/lang/String", 7)] s.vm h0 T333.vm T333.heap; exact CR342.trans (CHv.at X333 hZ0 (own_EW hw) CR342.1)), hEnd.1, hEnd.2.1, hEnd.2.2.1, hEnd.2.2.2.mono (by decide) (by decide)⟩
    · refine XS.iloadN X0.here hx rfl (hb hby d_method_3_code_0) rfl ?_
      show Steps p.tables e below (s₁.setTop (mkF m 1 #[.val (.int (1 : Int32)), .val (.int c0), .val (.int c1)] [(.int (1 : Int32))])) _
      refine XS.ifYes X0.here hx rfl (pc0 := 1) (pc' := 15) rfl (hb hby d_method_3_code_1) rfl ((if0 _ _).trans (feq ((by decide) : ¬ ((1 : Int32) = (0 : Int32)))).2) (by decide) (by decide) ?_
      show Steps p.tables e below (s₁.setTop (mkF m 15 #[.val (.int (1 : Int32)), .val (.int c0), .val (.int c1)] [])) _
      refine XS.iloadN X0.here hx rfl (hb hby d_method_3_code_15) rfl ?_
      show Steps p.tables e below (s₁.setTop (mkF m 16 #[.val (.int (1 : Int32)), .val (.int c0), .val (.int c1)] [(.int (1 : Int32))])) _
      refine XS.iconst X0.here hx rfl (hb hby d_method_3_code_16) ?_
      show Steps p.tables e below (s₁.setTop (mkF m 17 #[.val (.int (1 : Int32)), .val (.int c0), .val (.int c1)] [(.int (1 : Int32)), (.int (1 : Int32))])) _
      refine XS.icmpNo X0.here hx rfl (hb hby d_method_3_code_17) rfl (teq ((by decide) : (1 : Int32) = (1 : Int32))).2 ?_
      show Steps p.tables e below (s₁.setTop (mkF m 20 #[.val (.int (1 : Int32)), .val (.int c0), .val (.int c1)] [])) _
      refine st319 _ ?_
      show Steps p.tables e below (T319.setTop (mkF m 23 #[.val (.int (1 : Int32)), .val (.int c0), .val (.int c1)] [(.ref b319)])) _
      refine XS.dup X319.here hx rfl (hb hby d_method_3_code_23) rfl rfl ?_
      show Steps p.tables e below (T319.setTop (mkF m 24 #[.val (.int (1 : Int32)), .val (.int c0), .val (.int c1)] [(.ref b319), (.ref b319)])) _
      refine XS.iconst X319.here hx rfl (hb hby d_method_3_code_24) ?_
      show Steps p.tables e below (T319.setTop (mkF m 25 #[.val (.int (1 : Int32)), .val (.int c0), .val (.int c1)] [(.int (1 : Int32)), (.ref b319), (.ref b319)])) _
      refine st323 _ ?_
      show Steps p.tables e below (T323.setTop (mkF m 27 #[.val (.int (1 : Int32)), .val (.int c0), .val (.int c1)] [(.ref b323), (.ref b319), (.ref b319)])) _
      refine XS.dup X323.here hx rfl (hb hby d_method_3_code_27) rfl rfl ?_
      show Steps p.tables e below (T323.setTop (mkF m 28 #[.val (.int (1 : Int32)), .val (.int c0), .val (.int c1)] [(.ref b323), (.ref b323), (.ref b319), (.ref b319)])) _
      refine XS.iconst X323.here hx rfl (hb hby d_method_3_code_28) ?_
      show Steps p.tables e below (T323.setTop (mkF m 29 #[.val (.int (1 : Int32)), .val (.int c0), .val (.int c1)] [(.int (0 : Int32)), (.ref b323), (.ref b323), (.ref b319), (.ref b319)])) _
      refine XS.iloadN X323.here hx rfl (hb hby d_method_3_code_29) rfl ?_
      show Steps p.tables e below (T323.setTop (mkF m 30 #[.val (.int (1 : Int32)), .val (.int c0), .val (.int c1)] [(.int c0), (.int (0 : Int32)), (.ref b323), (.ref b323), (.ref b319), (.ref b319)])) _
      refine st328 _ ?_
      show Steps p.tables e below (T328.setTop (mkF m 31 #[.val (.int (1 : Int32)), .val (.int c0), .val (.int c1)] [(.ref b323), (.ref b319), (.ref b319)])) _
      refine st333.trans ?_
      show Steps p.tables e below (T333.setTop (mkF m 34 #[.val (.int (1 : Int32)), .val (.int c0), .val (.int c1)] [(.ref b319)])) _
      jvm_step X333.here [X333.here.top, hx, (hb hby d_method_3_code_34), X333.method', Bd.returns, Value.isRef, FieldType.isReference]
      first | (intro acts; rw [hr _ acts rfl rfl rfl]) | rw [hr _ _ rfl rfl rfl]
      exact Steps.refl _
    · show Q_make Z (1 : Int32) c0 c1 G h0 n0 _ T333.heap _
      exact ⟨b319, t333, kb333, (1 : Int32), (((([c0] : List Int32)).map (fun c => c.toInt8.toInt32)).map Value.int), rfl, N333, (((((Keep.refl h0 ([] : List Addr)).ext E319).ext E323).wr W328 (Or.inr (Nat.le_trans E319.1 (Nat.le_of_eq g323.symm)))).trans K333 (allS (Or.inr (Nat.le_trans (Nat.le_refl _) (Nat.le_of_eq g319.symm))) all0)), (Nat.le_trans (Nat.le_refl _) (Nat.le_of_eq g319.symm)), fE333, fV333, fC333, fA333, (by rw [own_cs1]; exact hcd333)⟩
  · subst hq
    obtain ⟨T346, h346, X346, e346, E346, A346, D346, -, st346⟩ := newO X0 hx hZ0 hown0 (hw _ (List.mem_of_getElem? (i := 11) rfl)) (hw _ (List.mem_of_getElem? (i := 12) rfl)) (hw _ (List.mem_of_getElem? (i := 13) rfl)) e0 (g := (mkF m 35 #[.val (.int (2 : Int32)), .val (.int c0), .val (.int c1)] [])) rfl (hb hby d_method_3_code_35) (by decide) (by decide)
    obtain ⟨b346, g346⟩ : ∃ z, z = h0.size := ⟨_, rfl⟩
    rw [← g346] at A346 D346 st346
    have sf347 : Safe Z [("java/lang/String", 7)] s.vm h0 b346 := Safe.new (Nat.le_of_eq g346.symm)
    have CR348 : CHr Z [("java/lang/String", 7)] s.vm h0 s.vm h346 := CR0.trans (CHr.ext E346 CR0.1)
    have sf349 : Safe Z [("java/lang/String", 7)] s.vm h346 b346 := Safe.ext E346 CR0.1 sf347
    have D346_coder : Fld Z h346 b346 "java/lang/String" "coder" "B" (.int (0 : Int32)) := D346 (Or.inr (hw _ (List.mem_of_getElem? (i := 38) rfl))) (ty := .byte) (by decide)
    have D346_value : Fld Z h346 b346 "java/lang/String" "value" "[B" .null := D346 (Or.inr (hw _ (List.mem_of_getElem? (i := 40) rfl))) (ty := (.array .byte)) (by decide)
    obtain ⟨T350, h350, ky350, X350, e350, E350, A350, st350⟩ := newP X346 hx hZ0 (hw _ (List.mem_of_getElem? (i := 14) rfl)) e346 (g := (mkF m 40 #[.val (.int (2 : Int32)), .val (.int c0), .val (.int c1)] [(.int (2 : Int32)), (.ref b346), (.ref b346)])) rfl (hb hby d_method_3_code_40) rfl ((by decide) : ¬ ((2 : Int32) < (0 : Int32))) (cap := 2) ((by decide) : (2 : Int32).toNatClampNeg ≤ 2) (by decide) (by decide) (by decide)
    obtain ⟨b350, g350⟩ : ∃ z, z = h346.size := ⟨_, rfl⟩
    rw [← g350] at A350 st350
    have sf351 : Safe Z [("java/lang/String", 7)] s.vm h346 b350 := Safe.new (Nat.le_of_eq g350.symm)
    have CR352 : CHr Z [("java/lang/String", 7)] s.vm h0 s.vm h350 := CR348.trans (CHr.ext E350 CR348.1)
    have sf353 : Safe Z [("java/lang/String", 7)] s.vm h350 b346 := Safe.ext E350 CR348.1 sf349
    have sf354 : Safe Z [("java/lang/String", 7)] s.vm h350 b350 := Safe.ext E350 CR348.1 sf351
    have V350 : Arv Z h350 b350 ky350 .char (2 : Int32) [] (.int (0 : Int32)) := Arv.new A350 (by decide)
    have U350 : Arv Z h350 b350 ky350 .char (2 : Int32) [(.int (0 : Int32)), (.int (0 : Int32))] (.int (0 : Int32)) := V350.pad (pad_rep [] (.int (0 : Int32)) 2)
    have ge356 : n0 ≤ b350 := Nat.le_trans Z0 (Nat.le_trans E346.1 (Nat.le_of_eq g350.symm))
    obtain ⟨cl355, Ar355, qq355, S355, M355, Hh355, U355⟩ := id U350
    obtain ⟨T355, h355, X355, e355, W355, st355⟩ := stC X350 hx hZ0 e350 Ar355 (j := (0 : Int32)) (inb_of S355 ⟨(by decide : ¬ ((0 : Int32) < (0 : Int32))), (by decide : (0 : Int32) < (2 : Int32))⟩) (g := (mkF m 45 #[.val (.int (2 : Int32)), .val (.int c0), .val (.int c1)] [(.int c0), (.int (0 : Int32)), (.ref b350), (.ref b350), (.ref b346), (.ref b346)])) rfl rfl (hb hby d_method_3_code_45)
    have N355 := Fr.snoc X355 N0 ge356
    have CR357 : CHr Z [("java/lang/String", 7)] s.vm h0 s.vm h355 := CR352.trans (CHr.wr W355 sf354 CR352.1)
    have sf358 : Safe Z [("java/lang/String", 7)] s.vm h355 b346 := Safe.wr W355 sf354 CR352.1 sf353
    have sf359 : Safe Z [("java/lang/String", 7)] s.vm h355 b350 := Safe.wr W355 sf354 CR352.1 sf354
    have V355 : Arv Z h355 b350 ky350 .char (2 : Int32) [(.int (nar .char c0)), (.int (0 : Int32))] (.int (0 : Int32)) := Arv.set Ar355 qq355 S355 M355 Hh355 U355 (fits_nar_char _) W355 0 rfl (Nat.le_of_ble_eq_true rfl)
    have VR355 : Arv Z h355 b350 ky350 .char (2 : Int32) [(.int c0), (.int (0 : Int32))] (.int (0 : Int32)) := by have q := V355; rw [hn0] at q; exact q
    obtain ⟨cl360, Ar360, qq360, S360, M360, Hh360, U360⟩ := id VR355
    obtain ⟨T360, h360, X360, e360, W360, st360⟩ := stC X355 hx hZ0 e355 Ar360 (j := (1 : Int32)) (inb_of S360 ⟨(by decide : ¬ ((1 : Int32) < (0 : Int32))), (by decide : (1 : Int32) < (2 : Int32))⟩) (g := (mkF m 49 #[.val (.int (2 : Int32)), .val (.int c0), .val (.int c1)] [(.int c1), (.int (1 : Int32)), (.ref b350), (.ref b350), (.ref b346), (.ref b346)])) rfl rfl (hb hby d_method_3_code_49)
    have N360 := Fr.snoc X360 N355 ge356
    have CR361 : CHr Z [("java/lang/String", 7)] s.vm h0 s.vm h360 := CR357.trans (CHr.wr W360 sf359 CR357.1)
    have sf362 : Safe Z [("java/lang/String", 7)] s.vm h360 b346 := Safe.wr W360 sf359 CR357.1 sf358
    have sf363 : Safe Z [("java/lang/String", 7)] s.vm h360 b350 := Safe.wr W360 sf359 CR357.1 sf359
    have V360 : Arv Z h360 b350 ky350 .char (2 : Int32) [(.int c0), (.int (nar .char c1))] (.int (0 : Int32)) := Arv.set Ar360 qq360 S360 M360 Hh360 U360 (fits_nar_char _) W360 1 rfl (Nat.le_of_ble_eq_true rfl)
    have VR360 : Arv Z h360 b350 ky350 .char (2 : Int32) [(.int c0), (.int c1)] (.int (0 : Int32)) := by have q := V360; rw [hn1] at q; exact q
    have c365 : Old Z n0 h360 := ((((q2.ext E346).ext E350).wr W355 ge356).wr W360 ge356)
    have hp366 : ∀ c ∈ ([c0, c1] : List Int32), ¬ c < 0 ∧ ¬ (255 : Int32) < c := by
      intro c hc
      simp only [List.mem_cons, List.not_mem_nil, or_false] at hc
      rcases hc with rfl | rfl
      · exact hl0
      · exact hl1
    have c367 : Exa Z h360 b346 "java/lang/String" := (((A346.ext E350).wr W355).wr W360)
    have ne368 : b346 ≠ b350 := Nat.ne_of_lt (Nat.lt_of_lt_of_le D346_coder.lt (Nat.le_of_eq g350.symm))
    have c369 : Fld Z h360 b346 "java/lang/String" "value" "[B" .null := (((D346_value.ext E350).other W355 (Or.inl ne368)).other W360 (Or.inl ne368))
    have c370 : Fld Z h360 b346 "java/lang/String" "coder" "B" (.int (0 : Int32)) := (((D346_coder.ext E350).other W355 (Or.inl ne368)).other W360 (Or.inl ne368))
    have ge371 : n0 ≤ b346 := Nat.le_trans Z0 (Nat.le_trans (Nat.le_refl _) (Nat.le_of_eq g346.symm))
    obtain ⟨_, _, ⟨T364, L364, k364, n364⟩, -, X364, ⟨Lc364, hQ364, l364, y364, z364⟩, st364⟩ := X360.specialBack hx (y := (⟨"java/lang/String", "<init>", "([C)V"⟩ : MethodName)) rfl hown0 (mvT hZ0 (hw _ (List.mem_of_getElem? (i := 15) rfl))) (mvT hZ0 (hw _ (List.mem_of_getElem? (i := 16) rfl))) (mvT hZ0 (hw _ (List.mem_of_getElem? (i := 17) rfl))) (by decide) (StrChars.Road.backV (W := 1) hZ0 (own_hw_backV hw) (kI := 4) (hw _ (List.mem_of_getElem? (i := 12) rfl)) (cs := ([c0, c1] : List Int32)) (bs := (([c0, c1] : List Int32)).map (fun c => c.toInt8.toInt32)) (n := 2) ge371 (Nat.le_trans Z0 (Nat.le_trans (Nat.le_trans (Nat.le_trans E346.1 E350.1) (Keep.of_wr W355).1) (Keep.of_wr W360).1)) c367 c369 c370 VR360 (q0.ext c365.2) hCS rfl rfl (by decide) (by decide) hp366 rfl (by decide) (by decide)) (g := (mkF m 50 #[.val (.int (2 : Int32)), .val (.int c0), .val (.int c1)] [(.ref b350), (.ref b346), (.ref b346)])) rfl (by rw [hml]; rfl) (Steps.refl _) (a := b346) (argsL := [(.ref b350)]) (rest := [(.ref b346)]) (lenOf pd_1 rfl) rfl (by show 2 * 0 + _ ≤ _; exact Nat.le_of_eq rfl) (hb hby d_method_3_code_50) (fun _ _ => ⟨rfl, e360, (by decide : 2 + 1 ≤ _), (by decide : 6 + 2 ≤ _)⟩)
    dsimp only [Pt.U, Pt.locs, Pt.cells, Pt.slots] at X364 l364 y364 z364 st364 hQ364
    subst l364 y364 z364
    obtain ⟨rfl, Nq364, K364, fE364, fC364, t364, kb364, gt364, sz364, nt364, fV364, fA364⟩ := hQ364
    have N364 := Fr.app N360 Nq364
    have sf372 : Safe Z [("java/lang/String", 7)] s.vm h360 t364 := Safe.new sz364
    have CR373 : CHr Z [("java/lang/String", 7)] s.vm h0 s.vm T364.heap := CR361.trans (CHr.keep K364 (sfS sf362 sf0) CR361.1)
    have sf374 : Safe Z [("java/lang/String", 7)] s.vm T364.heap b346 := Safe.keep K364 (sfS sf362 sf0) CR361.1 sf362
    have sf375 : Safe Z [("java/lang/String", 7)] s.vm T364.heap b350 := Safe.keep K364 (sfS sf362 sf0) CR361.1 sf363
    have sf376 : Safe Z [("java/lang/String", 7)] s.vm T364.heap t364 := Safe.keep K364 (sfS sf362 sf0) CR361.1 sf372
    have hcd364 : StrChars.Road.CodA ([c0, c1] : List Int32) 0 (2 : Int32) (((([c0, c1] : List Int32)).map (fun c => c.toInt8.toInt32)).map Value.int) := StrChars.Road.codOf (n := 2) rfl (fun c hc => (hp366 c hc).2)
    obtain ⟨fs, hr, hrun, hended, hEnd⟩ := X364.leaveW hS0 (Nat.le_trans hk0 (Nat.le_trans (Nat.le_trans (Nat.le_trans (Nat.le_trans E346.1 E350.1) (Keep.of_wr W355).1) (Keep.of_wr W360).1) K364.1)) (v := some (.ref b346)) (fun h => by rw [Bd.returns] at h; cases h)
    refine ⟨_, _, pre0 _ ?_, hrun, hended, _, _, rfl, ?_, (by rw [hh]; show CHr Z [("java/lang/String", 7)] s.vm h0 T364.vm T364.heap; exact CR373.trans (CHv.at X364 hZ0 (own_EW hw) CR373.1)), hEnd.1, hEnd.2.1, hEnd.2.2.1, hEnd.2.2.2.mono (by decide) (by decide)⟩
    · refine XS.iloadN X0.here hx rfl (hb hby d_method_3_code_0) rfl ?_
      show Steps p.tables e below (s₁.setTop (mkF m 1 #[.val (.int (2 : Int32)), .val (.int c0), .val (.int c1)] [(.int (2 : Int32))])) _
      refine XS.ifYes X0.here hx rfl (pc0 := 1) (pc' := 15) rfl (hb hby d_method_3_code_1) rfl ((if0 _ _).trans (feq ((by decide) : ¬ ((2 : Int32) = (0 : Int32)))).2) (by decide) (by decide) ?_
      show Steps p.tables e below (s₁.setTop (mkF m 15 #[.val (.int (2 : Int32)), .val (.int c0), .val (.int c1)] [])) _
      refine XS.iloadN X0.here hx rfl (hb hby d_method_3_code_15) rfl ?_
      show Steps p.tables e below (s₁.setTop (mkF m 16 #[.val (.int (2 : Int32)), .val (.int c0), .val (.int c1)] [(.int (2 : Int32))])) _
      refine XS.iconst X0.here hx rfl (hb hby d_method_3_code_16) ?_
      show Steps p.tables e below (s₁.setTop (mkF m 17 #[.val (.int (2 : Int32)), .val (.int c0), .val (.int c1)] [(.int (1 : Int32)), (.int (2 : Int32))])) _
      refine XS.icmpYes X0.here hx rfl (pc0 := 17) (pc' := 35) rfl (hb hby d_method_3_code_17) rfl (feq ((by decide) : ¬ ((2 : Int32) = (1 : Int32)))).2 (by decide) (by decide) ?_
      show Steps p.tables e below (s₁.setTop (mkF m 35 #[.val (.int (2 : Int32)), .val (.int c0), .val (.int c1)] [])) _
      refine st346 _ ?_
      show Steps p.tables e below (T346.setTop (mkF m 38 #[.val (.int (2 : Int32)), .val (.int c0), .val (.int c1)] [(.ref b346)])) _
      refine XS.dup X346.here hx rfl (hb hby d_method_3_code_38) rfl rfl ?_
      show Steps p.tables e below (T346.setTop (mkF m 39 #[.val (.int (2 : Int32)), .val (.int c0), .val (.int c1)] [(.ref b346), (.ref b346)])) _
      refine XS.iconst X346.here hx rfl (hb hby d_method_3_code_39) ?_
      show Steps p.tables e below (T346.setTop (mkF m 40 #[.val (.int (2 : Int32)), .val (.int c0), .val (.int c1)] [(.int (2 : Int32)), (.ref b346), (.ref b346)])) _
      refine st350 _ ?_
      show Steps p.tables e below (T350.setTop (mkF m 42 #[.val (.int (2 : Int32)), .val (.int c0), .val (.int c1)] [(.ref b350), (.ref b346), (.ref b346)])) _
      refine XS.dup X350.here hx rfl (hb hby d_method_3_code_42) rfl rfl ?_
      show Steps p.tables e below (T350.setTop (mkF m 43 #[.val (.int (2 : Int32)), .val (.int c0), .val (.int c1)] [(.ref b350), (.ref b350), (.ref b346), (.ref b346)])) _
      refine XS.iconst X350.here hx rfl (hb hby d_method_3_code_43) ?_
      show Steps p.tables e below (T350.setTop (mkF m 44 #[.val (.int (2 : Int32)), .val (.int c0), .val (.int c1)] [(.int (0 : Int32)), (.ref b350), (.ref b350), (.ref b346), (.ref b346)])) _
      refine XS.iloadN X350.here hx rfl (hb hby d_method_3_code_44) rfl ?_
      show Steps p.tables e below (T350.setTop (mkF m 45 #[.val (.int (2 : Int32)), .val (.int c0), .val (.int c1)] [(.int c0), (.int (0 : Int32)), (.ref b350), (.ref b350), (.ref b346), (.ref b346)])) _
      refine st355 _ ?_
      show Steps p.tables e below (T355.setTop (mkF m 46 #[.val (.int (2 : Int32)), .val (.int c0), .val (.int c1)] [(.ref b350), (.ref b346), (.ref b346)])) _
      refine XS.dup X355.here hx rfl (hb hby d_method_3_code_46) rfl rfl ?_
      show Steps p.tables e below (T355.setTop (mkF m 47 #[.val (.int (2 : Int32)), .val (.int c0), .val (.int c1)] [(.ref b350), (.ref b350), (.ref b346), (.ref b346)])) _
      refine XS.iconst X355.here hx rfl (hb hby d_method_3_code_47) ?_
      show Steps p.tables e below (T355.setTop (mkF m 48 #[.val (.int (2 : Int32)), .val (.int c0), .val (.int c1)] [(.int (1 : Int32)), (.ref b350), (.ref b350), (.ref b346), (.ref b346)])) _
      refine XS.iloadN X355.here hx rfl (hb hby d_method_3_code_48) rfl ?_
      show Steps p.tables e below (T355.setTop (mkF m 49 #[.val (.int (2 : Int32)), .val (.int c0), .val (.int c1)] [(.int c1), (.int (1 : Int32)), (.ref b350), (.ref b350), (.ref b346), (.ref b346)])) _
      refine st360 _ ?_
      show Steps p.tables e below (T360.setTop (mkF m 50 #[.val (.int (2 : Int32)), .val (.int c0), .val (.int c1)] [(.ref b350), (.ref b346), (.ref b346)])) _
      refine st364.trans ?_
      show Steps p.tables e below (T364.setTop (mkF m 53 #[.val (.int (2 : Int32)), .val (.int c0), .val (.int c1)] [(.ref b346)])) _
      jvm_step X364.here [X364.here.top, hx, (hb hby d_method_3_code_53), X364.method', Bd.returns, Value.isRef, FieldType.isReference]
      first | (intro acts; rw [hr _ acts rfl rfl rfl]) | rw [hr _ _ rfl rfl rfl]
      exact Steps.refl _
    · show Q_make Z (2 : Int32) c0 c1 G h0 n0 _ T364.heap _
      exact ⟨b346, t364, kb364, (2 : Int32), (((([c0, c1] : List Int32)).map (fun c => c.toInt8.toInt32)).map Value.int), rfl, N364, ((((((Keep.refl h0 ([] : List Addr)).ext E346).ext E350).wr W355 (Or.inr (Nat.le_trans E346.1 (Nat.le_of_eq g350.symm)))).wr W360 (Or.inr (Nat.le_trans E346.1 (Nat.le_of_eq g350.symm)))).trans K364 (allS (Or.inr (Nat.le_trans (Nat.le_refl _) (Nat.le_of_eq g346.symm))) all0)), (Nat.le_trans (Nat.le_refl _) (Nat.le_of_eq g346.symm)), fE364, fV364, fC364, fA364, (by rw [own_cs2]; exact hcd364)⟩
theorem d_method_4_code_0 : decode method_4_code 0 = .ok (.iload_n 0, 1) := by decide +kernel
theorem d_method_4_code_1 : decode method_4_code 1 = .ok (.ifCond .ne 7, 3) := by decide +kernel
theorem d_method_4_code_4 : decode method_4_code 4 = .ok (.getstatic 32, 3) := by decide +kernel
theorem d_method_4_code_7 : decode method_4_code 7 = .ok (.areturn, 1) := by decide +kernel
theorem d_method_4_code_8 : decode method_4_code 8 = .ok (.iload_n 0, 1) := by decide +kernel
theorem d_method_4_code_9 : decode method_4_code 9 = .ok (.iconst 1, 1) := by decide +kernel
theorem d_method_4_code_10 : decode method_4_code 10 = .ok (.if_icmp .ne 7, 3) := by decide +kernel
theorem d_method_4_code_13 : decode method_4_code 13 = .ok (.getstatic 38, 3) := by decide +kernel
theorem d_method_4_code_16 : decode method_4_code 16 = .ok (.areturn, 1) := by decide +kernel
theorem d_method_4_code_17 : decode method_4_code 17 = .ok (.iload_n 0, 1) := by decide +kernel
theorem d_method_4_code_18 : decode method_4_code 18 = .ok (.iconst 2, 1) := by decide +kernel
theorem d_method_4_code_19 : decode method_4_code 19 = .ok (.if_icmp .ne 7, 3) := by decide +kernel
theorem d_method_4_code_22 : decode method_4_code 22 = .ok (.getstatic 41, 3) := by decide +kernel
theorem d_method_4_code_25 : decode method_4_code 25 = .ok (.areturn, 1) := by decide +kernel
theorem d_method_4_code_26 : decode method_4_code 26 = .ok (.iload_n 0, 1) := by decide +kernel
theorem d_method_4_code_27 : decode method_4_code 27 = .ok (.iconst 3, 1) := by decide +kernel
theorem d_method_4_code_28 : decode method_4_code 28 = .ok (.if_icmp .ne 7, 3) := by decide +kernel
theorem d_method_4_code_31 : decode method_4_code 31 = .ok (.getstatic 44, 3) := by decide +kernel
theorem d_method_4_code_34 : decode method_4_code 34 = .ok (.areturn, 1) := by decide +kernel
theorem d_method_4_code_35 : decode method_4_code 35 = .ok (.iload_n 0, 1) := by decide +kernel
theorem d_method_4_code_36 : decode method_4_code 36 = .ok (.iconst 4, 1) := by decide +kernel
theorem d_method_4_code_37 : decode method_4_code 37 = .ok (.if_icmp .ne 7, 3) := by decide +kernel
theorem d_method_4_code_40 : decode method_4_code 40 = .ok (.getstatic 47, 3) := by decide +kernel
theorem d_method_4_code_43 : decode method_4_code 43 = .ok (.areturn, 1) := by decide +kernel
theorem d_method_4_code_44 : decode method_4_code 44 = .ok (.iload_n 0, 1) := by decide +kernel
theorem d_method_4_code_45 : decode method_4_code 45 = .ok (.iconst 5, 1) := by decide +kernel
theorem d_method_4_code_46 : decode method_4_code 46 = .ok (.if_icmp .ne 7, 3) := by decide +kernel
theorem d_method_4_code_49 : decode method_4_code 49 = .ok (.getstatic 50, 3) := by decide +kernel
theorem d_method_4_code_52 : decode method_4_code 52 = .ok (.areturn, 1) := by decide +kernel
theorem d_method_4_code_53 : decode method_4_code 53 = .ok (.getstatic 53, 3) := by decide +kernel
theorem d_method_4_code_56 : decode method_4_code 56 = .ok (.areturn, 1) := by decide +kernel
theorem ef_3 (m : MethodId) (x0 : Int32) : entryFrame m #[(.int x0)] 1 = mkF m 0 #[.val (.int x0)] [] := by first | (simp [entryFrame, mkF, argsToLocals, Value.category]; done) | rfl
def Q_kindOf (Z : State) (idq : Int32) (k0 : Addr) (k1 : Addr) (k2 : Addr) (k3 : Addr) (k4 : Addr) (k5 : Addr) (k6 : Addr) (h0 : Heap) (n0 : Nat) (v : Option Value) (h : Heap) (L : List Loc) : Prop := (v = some (.ref (own_k idq k0 k1 k2 k3 k4 k5 k6))) ∧ (Fr n0 L) ∧ (h = h0)
set_option maxRecDepth 65536 in
set_option maxHeartbeats 40000000 in
theorem rm_kindOf (l : Launch) (Z : State) (a0 : Array Value) (hw : ∀ d ∈ tables_1, d.before a0 Z = true) (ws : List Jvm.Cond) (idq : Int32) (k0 : Addr) (k1 : Addr) (k2 : Addr) (k3 : Addr) (k4 : Addr) (k5 : Addr) (k6 : Addr) (h0 : Heap) (n0 : Nat) (Z0 : n0 ≤ h0.size) (q0 : Sta Z Z.heap "com/example/holdfast/holdfast/jpql/Scanner$Kind" "IDENTIFIER" "Lcom/example/holdfast/holdfast/jpql/Scanner$Kind;" (.ref k0)) (q1 : Sta Z Z.heap "com/example/holdfast/holdfast/jpql/Scanner$Kind" "STRING" "Lcom/example/holdfast/holdfast/jpql/Scanner$Kind;" (.ref k1)) (q2 : Sta Z Z.heap "com/example/holdfast/holdfast/jpql/Scanner$Kind" "NUMBER" "Lcom/example/holdfast/holdfast/jpql/Scanner$Kind;" (.ref k2)) (q3 : Sta Z Z.heap "com/example/holdfast/holdfast/jpql/Scanner$Kind" "NAMED_PARAMETER" "Lcom/example/holdfast/holdfast/jpql/Scanner$Kind;" (.ref k3)) (q4 : Sta Z Z.heap "com/example/holdfast/holdfast/jpql/Scanner$Kind" "POSITIONAL_PARAMETER" "Lcom/example/holdfast/holdfast/jpql/Scanner$Kind;" (.ref k4)) (q5 : Sta Z Z.heap "com/example/holdfast/holdfast/jpql/Scanner$Kind" "SYMBOL" "Lcom/example/holdfast/holdfast/jpql/Scanner$Kind;" (.ref k5)) (q6 : Sta Z Z.heap "com/example/holdfast/holdfast/jpql/Scanner$Kind" "END" "Lcom/example/holdfast/holdfast/jpql/Scanner$Kind;" (.ref k6)) (q7 : Old Z n0 h0) (hid : idq = (0 : Int32) ∨ idq = (1 : Int32) ∨ idq = (2 : Int32) ∨ idq = (3 : Int32) ∨ idq = (4 : Int32) ∨ idq = (5 : Int32) ∨ idq = (6 : Int32)) :
    MetFree l (⟨"com/example/holdfast/holdfast/jpql/TokenIsSymbolPinLaw", "kindOf", "(I)Lcom/example/holdfast/holdfast/jpql/Scanner$Kind;"⟩ : MethodName) (head1 (Jvm.Cond.code (⟨"com/example/holdfast/holdfast/jpql/TokenIsSymbolPinLaw", "kindOf", "(I)Lcom/example/holdfast/holdfast/jpql/Scanner$Kind;"⟩ : MethodName) method_4_code 1 (some (.object "com/example/holdfast/holdfast/jpql/Scanner$Kind")) :: ws) ({ frames := 0, cells := 0, slots := 0, locals := 0 } : Room)) (fun a₁ U₁ => a₁ = #[(.int idq)] ∧ Z.Warmed39 U₁.vm ∧ U₁.heap = h0) (fun _ _ _ _ _ => True) (fun _ U₁ o₁ U₂ => ∃ v₁ L₁, o₁ = .returned v₁ ∧ Q_kindOf Z idq k0 k1 k2 k3 k4 k5 k6 h0 n0 v₁ U₂.heap L₁ ∧ FrameEnd U₁ o₁ U₂ L₁ ({ frames := 0, cells := 0, slots := 0, locals := 0 } : Room).cells ({ frames := 0, cells := 0, slots := 0, locals := 0 } : Room).slots) := by
  refine MetFree.of_bodySF (plainFor_of_name pn_1) hisR ?_
  intro p e s m args below meth c s₁ Bd hml0 hP hK
  obtain ⟨rfl, hZ, hh⟩ := hP
  have hx := Bd.exec
  have hby := Bd.bytes
  have hml : c.maxLocals = 1 := hml0
  have hown : s.vm.findClass "com/example/holdfast/holdfast/jpql/TokenIsSymbolPinLaw" = some m.cls := findClass_of_methodNamed Bd.named
  have hnm := (name_of_methodNamed Bd.named Bd.method).1
  have X0 : Stand p l e ({ frames := 0, cells := 0, slots := 0, locals := 0 } : Room) s m #[(.int idq)] below meth c s₁ [] 0 0 := Stand.of_body Bd
  have e0 : s₁.heap = h0 := by rw [← hh, Bd.state]; rfl
  have N0 := Fr.nil n0
  have pre0 : ∀ t, Steps p.tables e below (s₁.setTop (mkF m 0 #[.val (.int idq)] [])) t → Steps p.tables e below (s₁.setTop (entryFrame m #[(.int idq)] 1)) t := fun t k => castTop (ef_3 m idq) k
  rcases hid with hid | hid | hid | hid | hid | hid | hid
  · subst hid
    obtain ⟨T301, X301, e301, st301⟩ := getS2 X0 hx hZ hown (host := "") (Or.inl (hw _ (List.mem_of_getElem? (i := 5) rfl))) Via.refl e0 (q0.ext q7.2) (g := (mkF m 4 #[.val (.int (0 : Int32))] [])) rfl (hb hby d_method_4_code_4)
    obtain ⟨fs, hr, hrun, hended, hW, hsame⟩ := X301.leave (v := some (.ref k0)) (fun h => by rw [Bd.returns] at h; cases h)
    refine ⟨_, _, pre0 _ ?_, hrun, hended, _, _, rfl, ?_, ⟨_, rfl⟩, hW, hsame.mono (by decide) (by decide)⟩
    · refine XS.iloadN X0.here hx rfl (hb hby d_method_4_code_0) rfl ?_
      show Steps p.tables e below (s₁.setTop (mkF m 1 #[.val (.int (0 : Int32))] [(.int (0 : Int32))])) _
      refine XS.ifNo X0.here hx rfl (hb hby d_method_4_code_1) rfl ((if0 _ _).trans (teq ((by decide) : (0 : Int32) = (0 : Int32))).2) ?_
      show Steps p.tables e below (s₁.setTop (mkF m 4 #[.val (.int (0 : Int32))] [])) _
      refine st301 _ ?_
      show Steps p.tables e below (T301.setTop (mkF m 7 #[.val (.int (0 : Int32))] [(.ref k0)])) _
      jvm_step X301.here [X301.here.top, hx, (hb hby d_method_4_code_7), X301.method', Bd.returns, Value.isRef, FieldType.isReference]
      first | (intro acts; rw [hr _ acts rfl rfl rfl]) | rw [hr _ _ rfl rfl rfl]
      exact Steps.refl _
    · show Q_kindOf Z (0 : Int32) k0 k1 k2 k3 k4 k5 k6 h0 n0 _ T301.heap _
      rw [e301]
      exact ⟨(by rw [own_k0]), N0, rfl⟩
  · subst hid
    obtain ⟨T302, X302, e302, st302⟩ := getS2 X0 hx hZ hown (host := "") (Or.inl (hw _ (List.mem_of_getElem? (i := 79) rfl))) Via.refl e0 (q1.ext q7.2) (g := (mkF m 13 #[.val (.int (1 : Int32))] [])) rfl (hb hby d_method_4_code_13)
    obtain ⟨fs, hr, hrun, hended, hW, hsame⟩ := X302.leave (v := some (.ref k1)) (fun h => by rw [Bd.returns] at h; cases h)
    refine ⟨_, _, pre0 _ ?_, hrun, hended, _, _, rfl, ?_, ⟨_, rfl⟩, hW, hsame.mono (by decide) (by decide)⟩
    · refine XS.iloadN X0.here hx rfl (hb hby d_method_4_code_0) rfl ?_
      show Steps p.tables e below (s₁.setTop (mkF m 1 #[.val (.int (1 : Int32))] [(.int (1 : Int32))])) _
      refine XS.ifYes X0.here hx rfl (pc0 := 1) (pc' := 8) rfl (hb hby d_method_4_code_1) rfl ((if0 _ _).trans (feq ((by decide) : ¬ ((1 : Int32) = (0 : Int32)))).2) (by decide) (by decide) ?_
      show Steps p.tables e below (s₁.setTop (mkF m 8 #[.val (.int (1 : Int32))] [])) _
      refine XS.iloadN X0.here hx rfl (hb hby d_method_4_code_8) rfl ?_
      show Steps p.tables e below (s₁.setTop (mkF m 9 #[.val (.int (1 : Int32))] [(.int (1 : Int32))])) _
      refine XS.iconst X0.here hx rfl (hb hby d_method_4_code_9) ?_
      show Steps p.tables e below (s₁.setTop (mkF m 10 #[.val (.int (1 : Int32))] [(.int (1 : Int32)), (.int (1 : Int32))])) _
      refine XS.icmpNo X0.here hx rfl (hb hby d_method_4_code_10) rfl (teq ((by decide) : (1 : Int32) = (1 : Int32))).2 ?_
      show Steps p.tables e below (s₁.setTop (mkF m 13 #[.val (.int (1 : Int32))] [])) _
      refine st302 _ ?_
      show Steps p.tables e below (T302.setTop (mkF m 16 #[.val (.int (1 : Int32))] [(.ref k1)])) _
      jvm_step X302.here [X302.here.top, hx, (hb hby d_method_4_code_16), X302.method', Bd.returns, Value.isRef, FieldType.isReference]
      first | (intro acts; rw [hr _ acts rfl rfl rfl]) | rw [hr _ _ rfl rfl rfl]
      exact Steps.refl _
    · show Q_kindOf Z (1 : Int32) k0 k1 k2 k3 k4 k5 k6 h0 n0 _ T302.heap _
      rw [e302]
      exact ⟨(by rw [own_k1]), N0, rfl⟩
  · subst hid
    obtain ⟨T303, X303, e303, st303⟩ := getS2 X0 hx hZ hown (host := "") (Or.inl (hw _ (List.mem_of_getElem? (i := 77) rfl))) Via.refl e0 (q2.ext q7.2) (g := (mkF m 22 #[.val (.int (2 : Int32))] [])) rfl (hb hby d_method_4_code_22)
    obtain ⟨fs, hr, hrun, hended, hW, hsame⟩ := X303.leave (v := some (.ref k2)) (fun h => by rw [Bd.returns] at h; cases h)
    refine ⟨_, _, pre0 _ ?_, hrun, hended, _, _, rfl, ?_, ⟨_, rfl⟩, hW, hsame.mono (by decide) (by decide)⟩
    · refine XS.iloadN X0.here hx rfl (hb hby d_method_4_code_0) rfl ?_
      show Steps p.tables e below (s₁.setTop (mkF m 1 #[.val (.int (2 : Int32))] [(.int (2 : Int32))])) _
      refine XS.ifYes X0.here hx rfl (pc0 := 1) (pc' := 8) rfl (hb hby d_method_4_code_1) rfl ((if0 _ _).trans (feq ((by decide) : ¬ ((2 : Int32) = (0 : Int32)))).2) (by decide) (by decide) ?_
      show Steps p.tables e below (s₁.setTop (mkF m 8 #[.val (.int (2 : Int32))] [])) _
      refine XS.iloadN X0.here hx rfl (hb hby d_method_4_code_8) rfl ?_
      show Steps p.tables e below (s₁.setTop (mkF m 9 #[.val (.int (2 : Int32))] [(.int (2 : Int32))])) _
      refine XS.iconst X0.here hx rfl (hb hby d_method_4_code_9) ?_
      show Steps p.tables e below (s₁.setTop (mkF m 10 #[.val (.int (2 : Int32))] [(.int (1 : Int32)), (.int (2 : Int32))])) _
      refine XS.icmpYes X0.here hx rfl (pc0 := 10) (pc' := 17) rfl (hb hby d_method_4_code_10) rfl (feq ((by decide) : ¬ ((2 : Int32) = (1 : Int32)))).2 (by decide) (by decide) ?_
      show Steps p.tables e below (s₁.setTop (mkF m 17 #[.val (.int (2 : Int32))] [])) _
      refine XS.iloadN X0.here hx rfl (hb hby d_method_4_code_17) rfl ?_
      show Steps p.tables e below (s₁.setTop (mkF m 18 #[.val (.int (2 : Int32))] [(.int (2 : Int32))])) _
      refine XS.iconst X0.here hx rfl (hb hby d_method_4_code_18) ?_
      show Steps p.tables e below (s₁.setTop (mkF m 19 #[.val (.int (2 : Int32))] [(.int (2 : Int32)), (.int (2 : Int32))])) _
      refine XS.icmpNo X0.here hx rfl (hb hby d_method_4_code_19) rfl (teq ((by decide) : (2 : Int32) = (2 : Int32))).2 ?_
      show Steps p.tables e below (s₁.setTop (mkF m 22 #[.val (.int (2 : Int32))] [])) _
      refine st303 _ ?_
      show Steps p.tables e below (T303.setTop (mkF m 25 #[.val (.int (2 : Int32))] [(.ref k2)])) _
      jvm_step X303.here [X303.here.top, hx, (hb hby d_method_4_code_25), X303.method', Bd.returns, Value.isRef, FieldType.isReference]
      first | (intro acts; rw [hr _ acts rfl rfl rfl]) | rw [hr _ _ rfl rfl rfl]
      exact Steps.refl _
    · show Q_kindOf Z (2 : Int32) k0 k1 k2 k3 k4 k5 k6 h0 n0 _ T303.heap _
      rw [e303]
      exact ⟨(by rw [own_k2]), N0, rfl⟩
  · subst hid
    obtain ⟨T304, X304, e304, st304⟩ := getS2 X0 hx hZ hown (host := "") (Or.inl (hw _ (List.mem_of_getElem? (i := 81) rfl))) Via.refl e0 (q3.ext q7.2) (g := (mkF m 31 #[.val (.int (3 : Int32))] [])) rfl (hb hby d_method_4_code_31)
    obtain ⟨fs, hr, hrun, hended, hW, hsame⟩ := X304.leave (v := some (.ref k3)) (fun h => by rw [Bd.returns] at h; cases h)
    refine ⟨_, _, pre0 _ ?_, hrun, hended, _, _, rfl, ?_, ⟨_, rfl⟩, hW, hsame.mono (by decide) (by decide)⟩
    · refine XS.iloadN X0.here hx rfl (hb hby d_method_4_code_0) rfl ?_
      show Steps p.tables e below (s₁.setTop (mkF m 1 #[.val (.int (3 : Int32))] [(.int (3 : Int32))])) _
      refine XS.ifYes X0.here hx rfl (pc0 := 1) (pc' := 8) rfl (hb hby d_method_4_code_1) rfl ((if0 _ _).trans (feq ((by decide) : ¬ ((3 : Int32) = (0 : Int32)))).2) (by decide) (by decide) ?_
      show Steps p.tables e below (s₁.setTop (mkF m 8 #[.val (.int (3 : Int32))] [])) _
      refine XS.iloadN X0.here hx rfl (hb hby d_method_4_code_8) rfl ?_
      show Steps p.tables e below (s₁.setTop (mkF m 9 #[.val (.int (3 : Int32))] [(.int (3 : Int32))])) _
      refine XS.iconst X0.here hx rfl (hb hby d_method_4_code_9) ?_
      show Steps p.tables e below (s₁.setTop (mkF m 10 #[.val (.int (3 : Int32))] [(.int (1 : Int32)), (.int (3 : Int32))])) _
      refine XS.icmpYes X0.here hx rfl (pc0 := 10) (pc' := 17) rfl (hb hby d_method_4_code_10) rfl (feq ((by decide) : ¬ ((3 : Int32) = (1 : Int32)))).2 (by decide) (by decide) ?_
      show Steps p.tables e below (s₁.setTop (mkF m 17 #[.val (.int (3 : Int32))] [])) _
      refine XS.iloadN X0.here hx rfl (hb hby d_method_4_code_17) rfl ?_
      show Steps p.tables e below (s₁.setTop (mkF m 18 #[.val (.int (3 : Int32))] [(.int (3 : Int32))])) _
      refine XS.iconst X0.here hx rfl (hb hby d_method_4_code_18) ?_
      show Steps p.tables e below (s₁.setTop (mkF m 19 #[.val (.int (3 : Int32))] [(.int (2 : Int32)), (.int (3 : Int32))])) _
      refine XS.icmpYes X0.here hx rfl (pc0 := 19) (pc' := 26) rfl (hb hby d_method_4_code_19) rfl (feq ((by decide) : ¬ ((3 : Int32) = (2 : Int32)))).2 (by decide) (by decide) ?_
      show Steps p.tables e below (s₁.setTop (mkF m 26 #[.val (.int (3 : Int32))] [])) _
      refine XS.iloadN X0.here hx rfl (hb hby d_method_4_code_26) rfl ?_
      show Steps p.tables e below (s₁.setTop (mkF m 27 #[.val (.int (3 : Int32))] [(.int (3 : Int32))])) _
      refine XS.iconst X0.here hx rfl (hb hby d_method_4_code_27) ?_
      show Steps p.tables e below (s₁.setTop (mkF m 28 #[.val (.int (3 : Int32))] [(.int (3 : Int32)), (.int (3 : Int32))])) _
      refine XS.icmpNo X0.here hx rfl (hb hby d_method_4_code_28) rfl (teq ((by decide) : (3 : Int32) = (3 : Int32))).2 ?_
      show Steps p.tables e below (s₁.setTop (mkF m 31 #[.val (.int (3 : Int32))] [])) _
      refine st304 _ ?_
      show Steps p.tables e below (T304.setTop (mkF m 34 #[.val (.int (3 : Int32))] [(.ref k3)])) _
      jvm_step X304.here [X304.here.top, hx, (hb hby d_method_4_code_34), X304.method', Bd.returns, Value.isRef, FieldType.isReference]
      first | (intro acts; rw [hr _ acts rfl rfl rfl]) | rw [hr _ _ rfl rfl rfl]
      exact Steps.refl _
    · show Q_kindOf Z (3 : Int32) k0 k1 k2 k3 k4 k5 k6 h0 n0 _ T304.heap _
      rw [e304]
      exact ⟨(by rw [own_k3]), N0, rfl⟩
  · subst hid
    obtain ⟨T305, X305, e305, st305⟩ := getS2 X0 hx hZ hown (host := "") (Or.inl (hw _ (List.mem_of_getElem? (i := 83) rfl))) Via.refl e0 (q4.ext q7.2) (g := (mkF m 40 #[.val (.int (4 : Int32))] [])) rfl (hb hby d_method_4_code_40)
    obtain ⟨fs, hr, hrun, hended, hW, hsame⟩ := X305.leave (v := some (.ref k4)) (fun h => by rw [Bd.returns] at h; cases h)
    refine ⟨_, _, pre0 _ ?_, hrun, hended, _, _, rfl, ?_, ⟨_, rfl⟩, hW, hsame.mono (by decide) (by decide)⟩
    · refine XS.iloadN X0.here hx rfl (hb hby d_method_4_code_0) rfl ?_
      show Steps p.tables e below (s₁.setTop (mkF m 1 #[.val (.int (4 : Int32))] [(.int (4 : Int32))])) _
      refine XS.ifYes X0.here hx rfl (pc0 := 1) (pc' := 8) rfl (hb hby d_method_4_code_1) rfl ((if0 _ _).trans (feq ((by decide) : ¬ ((4 : Int32) = (0 : Int32)))).2) (by decide) (by decide) ?_
      show Steps p.tables e below (s₁.setTop (mkF m 8 #[.val (.int (4 : Int32))] [])) _
      refine XS.iloadN X0.here hx rfl (hb hby d_method_4_code_8) rfl ?_
      show Steps p.tables e below (s₁.setTop (mkF m 9 #[.val (.int (4 : Int32))] [(.int (4 : Int32))])) _
      refine XS.iconst X0.here hx rfl (hb hby d_method_4_code_9) ?_
      show Steps p.tables e below (s₁.setTop (mkF m 10 #[.val (.int (4 : Int32))] [(.int (1 : Int32)), (.int (4 : Int32))])) _
      refine XS.icmpYes X0.here hx rfl (pc0 := 10) (pc' := 17) rfl (hb hby d_method_4_code_10) rfl (feq ((by decide) : ¬ ((4 : Int32) = (1 : Int32)))).2 (by decide) (by decide) ?_
      show Steps p.tables e below (s₁.setTop (mkF m 17 #[.val (.int (4 : Int32))] [])) _
      refine XS.iloadN X0.here hx rfl (hb hby d_method_4_code_17) rfl ?_
      show Steps p.tables e below (s₁.setTop (mkF m 18 #[.val (.int (4 : Int32))] [(.int (4 : Int32))])) _
      refine XS.iconst X0.here hx rfl (hb hby d_method_4_code_18) ?_
      show Steps p.tables e below (s₁.setTop (mkF m 19 #[.val (.int (4 : Int32))] [(.int (2 : Int32)), (.int (4 : Int32))])) _
      refine XS.icmpYes X0.here hx rfl (pc0 := 19) (pc' := 26) rfl (hb hby d_method_4_code_19) rfl (feq ((by decide) : ¬ ((4 : Int32) = (2 : Int32)))).2 (by decide) (by decide) ?_
      show Steps p.tables e below (s₁.setTop (mkF m 26 #[.val (.int (4 : Int32))] [])) _
      refine XS.iloadN X0.here hx rfl (hb hby d_method_4_code_26) rfl ?_
      show Steps p.tables e below (s₁.setTop (mkF m 27 #[.val (.int (4 : Int32))] [(.int (4 : Int32))])) _
      refine XS.iconst X0.here hx rfl (hb hby d_method_4_code_27) ?_
      show Steps p.tables e below (s₁.setTop (mkF m 28 #[.val (.int (4 : Int32))] [(.int (3 : Int32)), (.int (4 : Int32))])) _
      refine XS.icmpYes X0.here hx rfl (pc0 := 28) (pc' := 35) rfl (hb hby d_method_4_code_28) rfl (feq ((by decide) : ¬ ((4 : Int32) = (3 : Int32)))).2 (by decide) (by decide) ?_
      show Steps p.tables e below (s₁.setTop (mkF m 35 #[.val (.int (4 : Int32))] [])) _
      refine XS.iloadN X0.here hx rfl (hb hby d_method_4_code_35) rfl ?_
      show Steps p.tables e below (s₁.setTop (mkF m 36 #[.val (.int (4 : Int32))] [(.int (4 : Int32))])) _
      refine XS.iconst X0.here hx rfl (hb hby d_method_4_code_36) ?_
      show Steps p.tables e below (s₁.setTop (mkF m 37 #[.val (.int (4 : Int32))] [(.int (4 : Int32)), (.int (4 : Int32))])) _
      refine XS.icmpNo X0.here hx rfl (hb hby d_method_4_code_37) rfl (teq ((by decide) : (4 : Int32) = (4 : Int32))).2 ?_
      show Steps p.tables e below (s₁.setTop (mkF m 40 #[.val (.int (4 : Int32))] [])) _
      refine st305 _ ?_
      show Steps p.tables e below (T305.setTop (mkF m 43 #[.val (.int (4 : Int32))] [(.ref k4)])) _
      jvm_step X305.here [X305.here.top, hx, (hb hby d_method_4_code_43), X305.method', Bd.returns, Value.isRef, FieldType.isReference]
      first | (intro acts; rw [hr _ acts rfl rfl rfl]) | rw [hr _ _ rfl rfl rfl]
      exact Steps.refl _
    · show Q_kindOf Z (4 : Int32) k0 k1 k2 k3 k4 k5 k6 h0 n0 _ T305.heap _
      rw [e305]
      exact ⟨(by rw [own_k4]), N0, rfl⟩
  · subst hid
    obtain ⟨T306, X306, e306, st306⟩ := getS2 X0 hx hZ hown (host := "") (Or.inl (hw _ (List.mem_of_getElem? (i := 66) rfl))) Via.refl e0 (q5.ext q7.2) (g := (mkF m 49 #[.val (.int (5 : Int32))] [])) rfl (hb hby d_method_4_code_49)
    obtain ⟨fs, hr, hrun, hended, hW, hsame⟩ := X306.leave (v := some (.ref k5)) (fun h => by rw [Bd.returns] at h; cases h)
    refine ⟨_, _, pre0 _ ?_, hrun, hended, _, _, rfl, ?_, ⟨_, rfl⟩, hW, hsame.mono (by decide) (by decide)⟩
    · refine XS.iloadN X0.here hx rfl (hb hby d_method_4_code_0) rfl ?_
      show Steps p.tables e below (s₁.setTop (mkF m 1 #[.val (.int (5 : Int32))] [(.int (5 : Int32))])) _
      refine XS.ifYes X0.here hx rfl (pc0 := 1) (pc' := 8) rfl (hb hby d_method_4_code_1) rfl ((if0 _ _).trans (feq ((by decide) : ¬ ((5 : Int32) = (0 : Int32)))).2) (by decide) (by decide) ?_
      show Steps p.tables e below (s₁.setTop (mkF m 8 #[.val (.int (5 : Int32))] [])) _
      refine XS.iloadN X0.here hx rfl (hb hby d_method_4_code_8) rfl ?_
      show Steps p.tables e below (s₁.setTop (mkF m 9 #[.val (.int (5 : Int32))] [(.int (5 : Int32))])) _
      refine XS.iconst X0.here hx rfl (hb hby d_method_4_code_9) ?_
      show Steps p.tables e below (s₁.setTop (mkF m 10 #[.val (.int (5 : Int32))] [(.int (1 : Int32)), (.int (5 : Int32))])) _
      refine XS.icmpYes X0.here hx rfl (pc0 := 10) (pc' := 17) rfl (hb hby d_method_4_code_10) rfl (feq ((by decide) : ¬ ((5 : Int32) = (1 : Int32)))).2 (by decide) (by decide) ?_
      show Steps p.tables e below (s₁.setTop (mkF m 17 #[.val (.int (5 : Int32))] [])) _
      refine XS.iloadN X0.here hx rfl (hb hby d_method_4_code_17) rfl ?_
      show Steps p.tables e below (s₁.setTop (mkF m 18 #[.val (.int (5 : Int32))] [(.int (5 : Int32))])) _
      refine XS.iconst X0.here hx rfl (hb hby d_method_4_code_18) ?_
      show Steps p.tables e below (s₁.setTop (mkF m 19 #[.val (.int (5 : Int32))] [(.int (2 : Int32)), (.int (5 : Int32))])) _
      refine XS.icmpYes X0.here hx rfl (pc0 := 19) (pc' := 26) rfl (hb hby d_method_4_code_19) rfl (feq ((by decide) : ¬ ((5 : Int32) = (2 : Int32)))).2 (by decide) (by decide) ?_
      show Steps p.tables e below (s₁.setTop (mkF m 26 #[.val (.int (5 : Int32))] [])) _
      refine XS.iloadN X0.here hx rfl (hb hby d_method_4_code_26) rfl ?_
      show Steps p.tables e below (s₁.setTop (mkF m 27 #[.val (.int (5 : Int32))] [(.int (5 : Int32))])) _
      refine XS.iconst X0.here hx rfl (hb hby d_method_4_code_27) ?_
      show Steps p.tables e below (s₁.setTop (mkF m 28 #[.val (.int (5 : Int32))] [(.int (3 : Int32)), (.int (5 : Int32))])) _
      refine XS.icmpYes X0.here hx rfl (pc0 := 28) (pc' := 35) rfl (hb hby d_method_4_code_28) rfl (feq ((by decide) : ¬ ((5 : Int32) = (3 : Int32)))).2 (by decide) (by decide) ?_
      show Steps p.tables e below (s₁.setTop (mkF m 35 #[.val (.int (5 : Int32))] [])) _
      refine XS.iloadN X0.here hx rfl (hb hby d_method_4_code_35) rfl ?_
      show Steps p.tables e below (s₁.setTop (mkF m 36 #[.val (.int (5 : Int32))] [(.int (5 : Int32))])) _
      refine XS.iconst X0.here hx rfl (hb hby d_method_4_code_36) ?_
      show Steps p.tables e below (s₁.setTop (mkF m 37 #[.val (.int (5 : Int32))] [(.int (4 : Int32)), (.int (5 : Int32))])) _
      refine XS.icmpYes X0.here hx rfl (pc0 := 37) (pc' := 44) rfl (hb hby d_method_4_code_37) rfl (feq ((by decide) : ¬ ((5 : Int32) = (4 : Int32)))).2 (by decide) (by decide) ?_
      show Steps p.tables e below (s₁.setTop (mkF m 44 #[.val (.int (5 : Int32))] [])) _
      refine XS.iloadN X0.here hx rfl (hb hby d_method_4_code_44) rfl ?_
      show Steps p.tables e below (s₁.setTop (mkF m 45 #[.val (.int (5 : Int32))] [(.int (5 : Int32))])) _
      refine XS.iconst X0.here hx rfl (hb hby d_method_4_code_45) ?_
      show Steps p.tables e below (s₁.setTop (mkF m 46 #[.val (.int (5 : Int32))] [(.int (5 : Int32)), (.int (5 : Int32))])) _
      refine XS.icmpNo X0.here hx rfl (hb hby d_method_4_code_46) rfl (teq ((by decide) : (5 : Int32) = (5 : Int32))).2 ?_
      show Steps p.tables e below (s₁.setTop (mkF m 49 #[.val (.int (5 : Int32))] [])) _
      refine st306 _ ?_
      show Steps p.tables e below (T306.setTop (mkF m 52 #[.val (.int (5 : Int32))] [(.ref k5)])) _
      jvm_step X306.here [X306.here.top, hx, (hb hby d_method_4_code_52), X306.method', Bd.returns, Value.isRef, FieldType.isReference]
      first | (intro acts; rw [hr _ acts rfl rfl rfl]) | rw [hr _ _ rfl rfl rfl]
      exact Steps.refl _
    · show Q_kindOf Z (5 : Int32) k0 k1 k2 k3 k4 k5 k6 h0 n0 _ T306.heap _
      rw [e306]
      exact ⟨(by rw [own_k5']), N0, rfl⟩
  · subst hid
    obtain ⟨T307, X307, e307, st307⟩ := getS2 X0 hx hZ hown (host := "") (Or.inl (hw _ (List.mem_of_getElem? (i := 85) rfl))) Via.refl e0 (q6.ext q7.2) (g := (mkF m 53 #[.val (.int (6 : Int32))] [])) rfl (hb hby d_method_4_code_53)
    obtain ⟨fs, hr, hrun, hended, hW, hsame⟩ := X307.leave (v := some (.ref k6)) (fun h => by rw [Bd.returns] at h; cases h)
    refine ⟨_, _, pre0 _ ?_, hrun, hended, _, _, rfl, ?_, ⟨_, rfl⟩, hW, hsame.mono (by decide) (by decide)⟩
    · refine XS.iloadN X0.here hx rfl (hb hby d_method_4_code_0) rfl ?_
      show Steps p.tables e below (s₁.setTop (mkF m 1 #[.val (.int (6 : Int32))] [(.int (6 : Int32))])) _
      refine XS.ifYes X0.here hx rfl (pc0 := 1) (pc' := 8) rfl (hb hby d_method_4_code_1) rfl ((if0 _ _).trans (feq ((by decide) : ¬ ((6 : Int32) = (0 : Int32)))).2) (by decide) (by decide) ?_
      show Steps p.tables e below (s₁.setTop (mkF m 8 #[.val (.int (6 : Int32))] [])) _
      refine XS.iloadN X0.here hx rfl (hb hby d_method_4_code_8) rfl ?_
      show Steps p.tables e below (s₁.setTop (mkF m 9 #[.val (.int (6 : Int32))] [(.int (6 : Int32))])) _
      refine XS.iconst X0.here hx rfl (hb hby d_method_4_code_9) ?_
      show Steps p.tables e below (s₁.setTop (mkF m 10 #[.val (.int (6 : Int32))] [(.int (1 : Int32)), (.int (6 : Int32))])) _
      refine XS.icmpYes X0.here hx rfl (pc0 := 10) (pc' := 17) rfl (hb hby d_method_4_code_10) rfl (feq ((by decide) : ¬ ((6 : Int32) = (1 : Int32)))).2 (by decide) (by decide) ?_
      show Steps p.tables e below (s₁.setTop (mkF m 17 #[.val (.int (6 : Int32))] [])) _
      refine XS.iloadN X0.here hx rfl (hb hby d_method_4_code_17) rfl ?_
      show Steps p.tables e below (s₁.setTop (mkF m 18 #[.val (.int (6 : Int32))] [(.int (6 : Int32))])) _
      refine XS.iconst X0.here hx rfl (hb hby d_method_4_code_18) ?_
      show Steps p.tables e below (s₁.setTop (mkF m 19 #[.val (.int (6 : Int32))] [(.int (2 : Int32)), (.int (6 : Int32))])) _
      refine XS.icmpYes X0.here hx rfl (pc0 := 19) (pc' := 26) rfl (hb hby d_method_4_code_19) rfl (feq ((by decide) : ¬ ((6 : Int32) = (2 : Int32)))).2 (by decide) (by decide) ?_
      show Steps p.tables e below (s₁.setTop (mkF m 26 #[.val (.int (6 : Int32))] [])) _
      refine XS.iloadN X0.here hx rfl (hb hby d_method_4_code_26) rfl ?_
      show Steps p.tables e below (s₁.setTop (mkF m 27 #[.val (.int (6 : Int32))] [(.int (6 : Int32))])) _
      refine XS.iconst X0.here hx rfl (hb hby d_method_4_code_27) ?_
      show Steps p.tables e below (s₁.setTop (mkF m 28 #[.val (.int (6 : Int32))] [(.int (3 : Int32)), (.int (6 : Int32))])) _
      refine XS.icmpYes X0.here hx rfl (pc0 := 28) (pc' := 35) rfl (hb hby d_method_4_code_28) rfl (feq ((by decide) : ¬ ((6 : Int32) = (3 : Int32)))).2 (by decide) (by decide) ?_
      show Steps p.tables e below (s₁.setTop (mkF m 35 #[.val (.int (6 : Int32))] [])) _
      refine XS.iloadN X0.here hx rfl (hb hby d_method_4_code_35) rfl ?_
      show Steps p.tables e below (s₁.setTop (mkF m 36 #[.val (.int (6 : Int32))] [(.int (6 : Int32))])) _
      refine XS.iconst X0.here hx rfl (hb hby d_method_4_code_36) ?_
      show Steps p.tables e below (s₁.setTop (mkF m 37 #[.val (.int (6 : Int32))] [(.int (4 : Int32)), (.int (6 : Int32))])) _
      refine XS.icmpYes X0.here hx rfl (pc0 := 37) (pc' := 44) rfl (hb hby d_method_4_code_37) rfl (feq ((by decide) : ¬ ((6 : Int32) = (4 : Int32)))).2 (by decide) (by decide) ?_
      show Steps p.tables e below (s₁.setTop (mkF m 44 #[.val (.int (6 : Int32))] [])) _
      refine XS.iloadN X0.here hx rfl (hb hby d_method_4_code_44) rfl ?_
      show Steps p.tables e below (s₁.setTop (mkF m 45 #[.val (.int (6 : Int32))] [(.int (6 : Int32))])) _
      refine XS.iconst X0.here hx rfl (hb hby d_method_4_code_45) ?_
      show Steps p.tables e below (s₁.setTop (mkF m 46 #[.val (.int (6 : Int32))] [(.int (5 : Int32)), (.int (6 : Int32))])) _
      refine XS.icmpYes X0.here hx rfl (pc0 := 46) (pc' := 53) rfl (hb hby d_method_4_code_46) rfl (feq ((by decide) : ¬ ((6 : Int32) = (5 : Int32)))).2 (by decide) (by decide) ?_
      show Steps p.tables e below (s₁.setTop (mkF m 53 #[.val (.int (6 : Int32))] [])) _
      refine st307 _ ?_
      show Steps p.tables e below (T307.setTop (mkF m 56 #[.val (.int (6 : Int32))] [(.ref k6)])) _
      jvm_step X307.here [X307.here.top, hx, (hb hby d_method_4_code_56), X307.method', Bd.returns, Value.isRef, FieldType.isReference]
      first | (intro acts; rw [hr _ acts rfl rfl rfl]) | rw [hr _ _ rfl rfl rfl]
      exact Steps.refl _
    · show Q_kindOf Z (6 : Int32) k0 k1 k2 k3 k4 k5 k6 h0 n0 _ T307.heap _
      rw [e307]
      exact ⟨(by rw [own_k6]), N0, rfl⟩
theorem d_prog_10_method_1_code_0 : decode prog_10_method_1_code 0 = .ok (.aload_n 0, 1) := by decide +kernel
theorem d_prog_10_method_1_code_1 : decode prog_10_method_1_code 1 = .ok (.invokespecial 1, 3) := by decide +kernel
theorem d_prog_10_method_1_code_4 : decode prog_10_method_1_code 4 = .ok (.aload_n 0, 1) := by decide +kernel
theorem d_prog_10_method_1_code_5 : decode prog_10_method_1_code 5 = .ok (.aload_n 1, 1) := by decide +kernel
theorem d_prog_10_method_1_code_6 : decode prog_10_method_1_code 6 = .ok (.putfield 7, 3) := by decide +kernel
theorem d_prog_10_method_1_code_9 : decode prog_10_method_1_code 9 = .ok (.aload_n 0, 1) := by decide +kernel
theorem d_prog_10_method_1_code_10 : decode prog_10_method_1_code 10 = .ok (.aload_n 2, 1) := by decide +kernel
theorem d_prog_10_method_1_code_11 : decode prog_10_method_1_code 11 = .ok (.putfield 13, 3) := by decide +kernel
theorem d_prog_10_method_1_code_14 : decode prog_10_method_1_code 14 = .ok (.aload_n 0, 1) := by decide +kernel
theorem d_prog_10_method_1_code_15 : decode prog_10_method_1_code 15 = .ok (.iload_n 3, 1) := by decide +kernel
theorem d_prog_10_method_1_code_16 : decode prog_10_method_1_code 16 = .ok (.putfield 17, 3) := by decide +kernel
theorem d_prog_10_method_1_code_19 : decode prog_10_method_1_code 19 = .ok (.aload_n 0, 1) := by decide +kernel
theorem d_prog_10_method_1_code_20 : decode prog_10_method_1_code 20 = .ok (.iload 4, 2) := by decide +kernel
theorem d_prog_10_method_1_code_22 : decode prog_10_method_1_code 22 = .ok (.putfield 21, 3) := by decide +kernel
theorem d_prog_10_method_1_code_25 : decode prog_10_method_1_code 25 = .ok (.return_, 1) := by decide +kernel
theorem ef_4 (m : MethodId) (x0 : Addr) (x1 : Addr) (x2 : Addr) (x3 : Int32) (x4 : Int32) : entryFrame m #[(.ref x0), (.ref x1), (.ref x2), (.int x3), (.int x4)] 5 = mkF m 0 #[.val (.ref x0), .val (.ref x1), .val (.ref x2), .val (.int x3), .val (.int x4)] [] := by first | (simp [entryFrame, mkF, argsToLocals, Value.category]; done) | rfl
theorem pn_2 : plainName "com/example/holdfast/holdfast/jpql/Scanner$Token" = true := by first | (simp [plainName, overriddenIn]; done) | decide +kernel
def Q_tokI (Z : State) (xt : Addr) (kd : Addr) (tx : Addr) (pa : Int32) (pb : Int32) (h0 : Heap) (n0 : Nat) (v : Option Value) (h : Heap) (L : List Loc) : Prop := (v = none) ∧ (Fr n0 L) ∧ (Keep h0 h ([xt] : List Addr)) ∧ (Fld Z h xt "com/example/holdfast/holdfast/jpql/Scanner$Token" "kind" "Lcom/example/holdfast/holdfast/jpql/Scanner$Kind;" (.ref kd)) ∧ (Fld Z h xt "com/example/holdfast/holdfast/jpql/Scanner$Token" "text" "Ljava/lang/String;" (.ref tx))
set_option maxRecDepth 65536 in
set_option maxHeartbeats 40000000 in
theorem rm_tokI (l : Launch) (Z : State) (a0 : Array Value) (hw : ∀ d ∈ tables_1, d.before a0 Z = true) (ws : List Jvm.Cond) (xt : Addr) (kd : Addr) (tx : Addr) (pa : Int32) (pb : Int32) (h0 : Heap) (n0 : Nat) (Z0 : n0 ≤ h0.size) (q0 : Exa Z h0 xt "com/example/holdfast/holdfast/jpql/Scanner$Token") (q1 : Fld Z h0 xt "com/example/holdfast/holdfast/jpql/Scanner$Token" "kind" "Lcom/example/holdfast/holdfast/jpql/Scanner$Kind;" .null) (q2 : Fld Z h0 xt "com/example/holdfast/holdfast/jpql/Scanner$Token" "text" "Ljava/lang/String;" .null) (q3 : Fld Z h0 xt "com/example/holdfast/holdfast/jpql/Scanner$Token" "position" "I" (.int (0 : Int32))) (q4 : Fld Z h0 xt "com/example/holdfast/holdfast/jpql/Scanner$Token" "end" "I" (.int (0 : Int32))) (q5 : n0 ≤ xt) :
    MetFree l (⟨"com/example/holdfast/holdfast/jpql/Scanner$Token", "<init>", "(Lcom/example/holdfast/holdfast/jpql/Scanner$Kind;Ljava/lang/String;II)V"⟩ : MethodName) (head1 (Jvm.Cond.code (⟨"com/example/holdfast/holdfast/jpql/Scanner$Token", "<init>", "(Lcom/example/holdfast/holdfast/jpql/Scanner$Kind;Ljava/lang/String;II)V"⟩ : MethodName) prog_10_method_1_code 5 none :: ws) ({ frames := 1, cells := 0, slots := 0, locals := 12 } : Room)) (fun a₁ U₁ => a₁ = #[(.ref xt), (.ref kd), (.ref tx), (.int pa), (.int pb)] ∧ Z.Warmed39 U₁.vm ∧ U₁.heap = h0) (fun _ _ _ _ _ => True) (fun _ U₁ o₁ U₂ => ∃ v₁ L₁, o₁ = .returned v₁ ∧ Q_tokI Z xt kd tx pa pb h0 n0 v₁ U₂.heap L₁ ∧ FrameEnd U₁ o₁ U₂ L₁ ({ frames := 1, cells := 0, slots := 0, locals := 12 } : Room).cells ({ frames := 1, cells := 0, slots := 0, locals := 12 } : Room).slots) := by
  refine MetFree.of_bodySF (plainFor_of_name pn_2) hisR ?_
  intro p e s m args below meth c s₁ Bd hml0 hP hK
  obtain ⟨rfl, hZ, hh⟩ := hP
  have hx := Bd.exec
  have hby := Bd.bytes
  have hml : c.maxLocals = 5 := hml0
  have hown : s.vm.findClass "com/example/holdfast/holdfast/jpql/Scanner$Token" = some m.cls := findClass_of_methodNamed Bd.named
  have hnm := (name_of_methodNamed Bd.named Bd.method).1
  have X0 : Stand p l e ({ frames := 1, cells := 0, slots := 0, locals := 12 } : Room) s m #[(.ref xt), (.ref kd), (.ref tx), (.int pa), (.int pb)] below meth c s₁ [] 0 0 := Stand.of_body Bd
  have e0 : s₁.heap = h0 := by rw [← hh, Bd.state]; rfl
  have N0 := Fr.nil n0
  have pre0 : ∀ t, Steps p.tables e below (s₁.setTop (mkF m 0 #[.val (.ref xt), .val (.ref kd), .val (.ref tx), .val (.int pa), .val (.int pb)] [])) t → Steps p.tables e below (s₁.setTop (entryFrame m #[(.ref xt), (.ref kd), (.ref tx), (.int pa), (.int pb)] 5)) t := fun t k => castTop (ef_4 m xt kd tx pa pb) k
  obtain ⟨T301, X301, e301, st301⟩ := initO X0 hx hZ hown (hw _ (List.mem_of_getElem? (i := 50) rfl)) (hw _ (List.mem_of_getElem? (i := 23) rfl)) (hw _ (List.mem_of_getElem? (i := 24) rfl)) e0 (g := (mkF m 1 #[.val (.ref xt), .val (.ref kd), .val (.ref tx), .val (.int pa), .val (.int pb)] [(.ref xt)])) rfl (by rw [hml]; rfl) rfl (hb hby d_prog_10_method_1_code_1) (by decide) (W := 0) (by show 2 * 0 + _ ≤ _; exact Nat.le_of_eq rfl) (by decide)
  obtain ⟨T302, h302, X302, e302, W302, st302⟩ := putF X301 hx hZ hown (host := "") (Or.inl (hw _ (List.mem_of_getElem? (i := 51) rfl))) Via.refl e301 q1 q0 (Or.inr ⟨(hw _ (List.mem_of_getElem? (i := 52) rfl)), rfl, hnm⟩) (hw _ (List.mem_of_getElem? (i := 45) rfl)) (ty := (.object "com/example/holdfast/holdfast/jpql/Scanner$Kind")) (by decide) rfl rfl (g := (mkF m 6 #[.val (.ref xt), .val (.ref kd), .val (.ref tx), .val (.int pa), .val (.int pb)] [(.ref kd), (.ref xt)])) rfl rfl (hb hby d_prog_10_method_1_code_6)
  have N302 := Fr.snoc X302 N0 q5
  have F302 : Fld Z h302 xt "com/example/holdfast/holdfast/jpql/Scanner$Token" "kind" "Lcom/example/holdfast/holdfast/jpql/Scanner$Kind;" (.ref kd) := q1.same W302
  have c303 : Fld Z h302 xt "com/example/holdfast/holdfast/jpql/Scanner$Token" "text" "Ljava/lang/String;" .null := (q2.other W302 (Or.inr (slot_ne (Or.inr (hw _ (List.mem_of_getElem? (i := 54) rfl))) (Or.inr (hw _ (List.mem_of_getElem? (i := 52) rfl))) (by decide) (t := (.object "java/lang/String")) (t' := (.object "com/example/holdfast/holdfast/jpql/Scanner$Kind")) (by decide) (by decide))))
  have c304 : Exa Z h302 xt "com/example/holdfast/holdfast/jpql/Scanner$Token" := (q0.wr W302)
  obtain ⟨T305, h305, X305, e305, W305, st305⟩ := putF X302 hx hZ hown (host := "") (Or.inl (hw _ (List.mem_of_getElem? (i := 53) rfl))) Via.refl e302 c303 c304 (Or.inr ⟨(hw _ (List.mem_of_getElem? (i := 54) rfl)), rfl, hnm⟩) (hw _ (List.mem_of_getElem? (i := 45) rfl)) (ty := (.object "java/lang/String")) (by decide) rfl rfl (g := (mkF m 11 #[.val (.ref xt), .val (.ref kd), .val (.ref tx), .val (.int pa), .val (.int pb)] [(.ref tx), (.ref xt)])) rfl rfl (hb hby d_prog_10_method_1_code_11)
  have N305 := Fr.snoc X305 N302 q5
  have F305 : Fld Z h305 xt "com/example/holdfast/holdfast/jpql/Scanner$Token" "text" "Ljava/lang/String;" (.ref tx) := c303.same W305
  have c306 : Fld Z h305 xt "com/example/holdfast/holdfast/jpql/Scanner$Token" "position" "I" (.int (0 : Int32)) := ((q3.other W302 (Or.inr (slot_ne (Or.inr (hw _ (List.mem_of_getElem? (i := 56) rfl))) (Or.inr (hw _ (List.mem_of_getElem? (i := 52) rfl))) (by decide) (t := .int) (t' := (.object "com/example/holdfast/holdfast/jpql/Scanner$Kind")) (by decide) (by decide)))).other W305 (Or.inr (slot_ne (Or.inr (hw _ (List.mem_of_getElem? (i := 56) rfl))) (Or.inr (hw _ (List.mem_of_getElem? (i := 54) rfl))) (by decide) (t := .int) (t' := (.object "java/lang/String")) (by decide) (by decide))))
  have c307 : Exa Z h305 xt "com/example/holdfast/holdfast/jpql/Scanner$Token" := (c304.wr W305)
  obtain ⟨T308, h308, X308, e308, W308, st308⟩ := putF X305 hx hZ hown (host := "") (Or.inl (hw _ (List.mem_of_getElem? (i := 55) rfl))) Via.refl e305 c306 c307 (Or.inr ⟨(hw _ (List.mem_of_getElem? (i := 56) rfl)), rfl, hnm⟩) (hw _ (List.mem_of_getElem? (i := 45) rfl)) (ty := .int) (by decide) rfl rfl (g := (mkF m 16 #[.val (.ref xt), .val (.ref kd), .val (.ref tx), .val (.int pa), .val (.int pb)] [(.int pa), (.ref xt)])) rfl rfl (hb hby d_prog_10_method_1_code_16)
  have N308 := Fr.snoc X308 N305 q5
  have F308 : Fld Z h308 xt "com/example/holdfast/holdfast/jpql/Scanner$Token" "position" "I" (.int pa) := c306.same W308
  have c309 : Fld Z h308 xt "com/example/holdfast/holdfast/jpql/Scanner$Token" "end" "I" (.int (0 : Int32)) := (((q4.other W302 (Or.inr (slot_ne (Or.inr (hw _ (List.mem_of_getElem? (i := 58) rfl))) (Or.inr (hw _ (List.mem_of_getElem? (i := 52) rfl))) (by decide) (t := .int) (t' := (.object "com/example/holdfast/holdfast/jpql/Scanner$Kind")) (by decide) (by decide)))).other W305 (Or.inr (slot_ne (Or.inr (hw _ (List.mem_of_getElem? (i := 58) rfl))) (Or.inr (hw _ (List.mem_of_getElem? (i := 54) rfl))) (by decide) (t := .int) (t' := (.object "java/lang/String")) (by decide) (by decide)))).other W308 (Or.inr (slot_ne (Or.inr (hw _ (List.mem_of_getElem? (i := 58) rfl))) (Or.inr (hw _ (List.mem_of_getElem? (i := 56) rfl))) (by decide) (t := .int) (t' := .int) (by decide) (by decide))))
  have c310 : Exa Z h308 xt "com/example/holdfast/holdfast/jpql/Scanner$Token" := (c307.wr W308)
  obtain ⟨T311, h311, X311, e311, W311, st311⟩ := putF X308 hx hZ hown (host := "") (Or.inl (hw _ (List.mem_of_getElem? (i := 57) rfl))) Via.refl e308 c309 c310 (Or.inr ⟨(hw _ (List.mem_of_getElem? (i := 58) rfl)), rfl, hnm⟩) (hw _ (List.mem_of_getElem? (i := 45) rfl)) (ty := .int) (by decide) rfl rfl (g := (mkF m 22 #[.val (.ref xt), .val (.ref kd), .val (.ref tx), .val (.int pa), .val (.int pb)] [(.int pb), (.ref xt)])) rfl rfl (hb hby d_prog_10_method_1_code_22)
  have N311 := Fr.snoc X311 N308 q5
  have F311 : Fld Z h311 xt "com/example/holdfast/holdfast/jpql/Scanner$Token" "end" "I" (.int pb) := c309.same W311
  have c312 : Fld Z h311 xt "com/example/holdfast/holdfast/jpql/Scanner$Token" "kind" "Lcom/example/holdfast/holdfast/jpql/Scanner$Kind;" (.ref kd) := (((F302.other W305 (Or.inr (slot_ne (Or.inr (hw _ (List.mem_of_getElem? (i := 52) rfl))) (Or.inr (hw _ (List.mem_of_getElem? (i := 54) rfl))) (by decide) (t := (.object "com/example/holdfast/holdfast/jpql/Scanner$Kind")) (t' := (.object "java/lang/String")) (by decide) (by decide)))).other W308 (Or.inr (slot_ne (Or.inr (hw _ (List.mem_of_getElem? (i := 52) rfl))) (Or.inr (hw _ (List.mem_of_getElem? (i := 56) rfl))) (by decide) (t := (.object "com/example/holdfast/holdfast/jpql/Scanner$Kind")) (t' := .int) (by decide) (by decide)))).other W311 (Or.inr (slot_ne (Or.inr (hw _ (List.mem_of_getElem? (i := 52) rfl))) (Or.inr (hw _ (List.mem_of_getElem? (i := 58) rfl))) (by decide) (t := (.object "com/example/holdfast/holdfast/jpql/Scanner$Kind")) (t' := .int) (by decide) (by decide))))
  have c313 : Fld Z h311 xt "com/example/holdfast/holdfast/jpql/Scanner$Token" "text" "Ljava/lang/String;" (.ref tx) := ((F305.other W308 (Or.inr (slot_ne (Or.inr (hw _ (List.mem_of_getElem? (i := 54) rfl))) (Or.inr (hw _ (List.mem_of_getElem? (i := 56) rfl))) (by decide) (t := (.object "java/lang/String")) (t' := .int) (by decide) (by decide)))).other W311 (Or.inr (slot_ne (Or.inr (hw _ (List.mem_of_getElem? (i := 54) rfl))) (Or.inr (hw _ (List.mem_of_getElem? (i := 58) rfl))) (by decide) (t := (.object "java/lang/String")) (t' := .int) (by decide) (by decide))))
  obtain ⟨fs, hr, hrun, hended, hW, hsame⟩ := X311.leave (v := none) (fun _ => rfl)
  refine ⟨_, _, pre0 _ ?_, hrun, hended, _, _, rfl, ?_, ⟨_, rfl⟩, hW, hsame.mono (by decide) (by decide)⟩
  · refine XS.aloadN X0.here hx rfl (hb hby d_prog_10_method_1_code_0) rfl rfl ?_
    show Steps p.tables e below (s₁.setTop (mkF m 1 #[.val (.ref xt), .val (.ref kd), .val (.ref tx), .val (.int pa), .val (.int pb)] [(.ref xt)])) _
    refine st301 _ ?_
    show Steps p.tables e below (T301.setTop (mkF m 4 #[.val (.ref xt), .val (.ref kd), .val (.ref tx), .val (.int pa), .val (.int pb)] [])) _
    refine XS.aloadN X301.here hx rfl (hb hby d_prog_10_method_1_code_4) rfl rfl ?_
    show Steps p.tables e below (T301.setTop (mkF m 5 #[.val (.ref xt), .val (.ref kd), .val (.ref tx), .val (.int pa), .val (.int pb)] [(.ref xt)])) _
    refine XS.aloadN X301.here hx rfl (hb hby d_prog_10_method_1_code_5) rfl rfl ?_
    show Steps p.tables e below (T301.setTop (mkF m 6 #[.val (.ref xt), .val (.ref kd), .val (.ref tx), .val (.int pa), .val (.int pb)] [(.ref kd), (.ref xt)])) _
    refine st302 _ ?_
    show Steps p.tables e below (T302.setTop (mkF m 9 #[.val (.ref xt), .val (.ref kd), .val (.ref tx), .val (.int pa), .val (.int pb)] [])) _
    refine XS.aloadN X302.here hx rfl (hb hby d_prog_10_method_1_code_9) rfl rfl ?_
    show Steps p.tables e below (T302.setTop (mkF m 10 #[.val (.ref xt), .val (.ref kd), .val (.ref tx), .val (.int pa), .val (.int pb)] [(.ref xt)])) _
    refine XS.aloadN X302.here hx rfl (hb hby d_prog_10_method_1_code_10) rfl rfl ?_
    show Steps p.tables e below (T302.setTop (mkF m 11 #[.val (.ref xt), .val (.ref kd), .val (.ref tx), .val (.int pa), .val (.int pb)] [(.ref tx), (.ref xt)])) _
    refine st305 _ ?_
    show Steps p.tables e below (T305.setTop (mkF m 14 #[.val (.ref xt), .val (.ref kd), .val (.ref tx), .val (.int pa), .val (.int pb)] [])) _
    refine XS.aloadN X305.here hx rfl (hb hby d_prog_10_method_1_code_14) rfl rfl ?_
    show Steps p.tables e below (T305.setTop (mkF m 15 #[.val (.ref xt), .val (.ref kd), .val (.ref tx), .val (.int pa), .val (.int pb)] [(.ref xt)])) _
    refine XS.iloadN X305.here hx rfl (hb hby d_prog_10_method_1_code_15) rfl ?_
    show Steps p.tables e below (T305.setTop (mkF m 16 #[.val (.ref xt), .val (.ref kd), .val (.ref tx), .val (.int pa), .val (.int pb)] [(.int pa), (.ref xt)])) _
    refine st308 _ ?_
    show Steps p.tables e below (T308.setTop (mkF m 19 #[.val (.ref xt), .val (.ref kd), .val (.ref tx), .val (.int pa), .val (.int pb)] [])) _
    refine XS.aloadN X308.here hx rfl (hb hby d_prog_10_method_1_code_19) rfl rfl ?_
    show Steps p.tables e below (T308.setTop (mkF m 20 #[.val (.ref xt), .val (.ref kd), .val (.ref tx), .val (.int pa), .val (.int pb)] [(.ref xt)])) _
    refine XS.iload X308.here hx rfl (hb hby d_prog_10_method_1_code_20) rfl ?_
    show Steps p.tables e below (T308.setTop (mkF m 22 #[.val (.ref xt), .val (.ref kd), .val (.ref tx), .val (.int pa), .val (.int pb)] [(.int pb), (.ref xt)])) _
    refine st311 _ ?_
    show Steps p.tables e below (T311.setTop (mkF m 25 #[.val (.ref xt), .val (.ref kd), .val (.ref tx), .val (.int pa), .val (.int pb)] [])) _
    exact X311.returnOut hx Bd.returns (hb hby d_prog_10_method_1_code_25) hr
  · show Q_tokI Z xt kd tx pa pb h0 n0 _ T311.heap _
    rw [e311]
    exact ⟨rfl, N311, (((((Keep.refl h0 ([xt] : List Addr)).wr W302 (Or.inl (by simp))).wr W305 (Or.inl (by simp))).wr W308 (Or.inl (by simp))).wr W311 (Or.inl (by simp))), c312, c313⟩
theorem d_prog_10_method_6_code_0 : decode prog_10_method_6_code 0 = .ok (.aload_n 0, 1) := by decide +kernel
theorem d_prog_10_method_6_code_1 : decode prog_10_method_6_code 1 = .ok (.getfield 7, 3) := by decide +kernel
theorem d_prog_10_method_6_code_4 : decode prog_10_method_6_code 4 = .ok (.getstatic 35, 3) := by decide +kernel
theorem d_prog_10_method_6_code_7 : decode prog_10_method_6_code 7 = .ok (.if_acmp .ne 18, 3) := by decide +kernel
theorem d_prog_10_method_6_code_10 : decode prog_10_method_6_code 10 = .ok (.aload_n 0, 1) := by decide +kernel
theorem d_prog_10_method_6_code_11 : decode prog_10_method_6_code 11 = .ok (.getfield 13, 3) := by decide +kernel
theorem d_prog_10_method_6_code_14 : decode prog_10_method_6_code 14 = .ok (.aload_n 1, 1) := by decide +kernel
theorem d_prog_10_method_6_code_15 : decode prog_10_method_6_code 15 = .ok (.invokevirtual 38, 3) := by decide +kernel
theorem pd_2 : parseMethodDescriptor "(Ljava/lang/Object;)Z" = some ⟨[(.object "java/lang/Object")], some .boolean⟩ := by decide +kernel
theorem d_prog_10_method_6_code_18 : decode prog_10_method_6_code 18 = .ok (.ifCond .eq 7, 3) := by decide +kernel
theorem d_prog_10_method_6_code_21 : decode prog_10_method_6_code 21 = .ok (.iconst 1, 1) := by decide +kernel
theorem d_prog_10_method_6_code_22 : decode prog_10_method_6_code 22 = .ok (.goto 4, 3) := by decide +kernel
theorem d_prog_10_method_6_code_26 : decode prog_10_method_6_code 26 = .ok (.ireturn, 1) := by decide +kernel
theorem d_prog_10_method_6_code_25 : decode prog_10_method_6_code 25 = .ok (.iconst 0, 1) := by decide +kernel
def Q_isSym (Z : State) (xt : Addr) (sy : Addr) (kd : Addr) (k5 : Addr) (tx : Addr) (G : Int32) (t1 : Addr) (kb1 : ClassId) (m1 : Int32) (vs1 : List Value) (cs : List Int32) (t2 : Addr) (kb2 : ClassId) (m2 : Int32) (vs2 : List Value) (ds : List Int32) (h0 : Heap) (n0 : Nat) (v : Option Value) (h : Heap) (L : List Loc) : Prop := ∃ (rv : Int32), (v = some (.int rv)) ∧ (Fr n0 L) ∧ (h = h0) ∧ ((rv = (1 : Int32) ∧ kd = k5 ∧ cs = ds) ∨ (rv = (0 : Int32) ∧ ¬ (kd = k5 ∧ cs = ds)))
set_option maxRecDepth 65536 in
set_option maxHeartbeats 40000000 in
theorem rm_isSym (l : Launch) (Z : State) (a0 : Array Value) (hw : ∀ d ∈ tables_1, d.before a0 Z = true) (ws : List Jvm.Cond) (xt : Addr) (sy : Addr) (kd : Addr) (k5 : Addr) (tx : Addr) (G : Int32) (t1 : Addr) (kb1 : ClassId) (m1 : Int32) (vs1 : List Value) (cs : List Int32) (t2 : Addr) (kb2 : ClassId) (m2 : Int32) (vs2 : List Value) (ds : List Int32) (h0 : Heap) (n0 : Nat) (Z0 : n0 ≤ h0.size) (q0 : Sta Z Z.heap "java/lang/String" "COMPACT_STRINGS" "Z" (.int G)) (hCS : ¬ (G = (0 : Int32))) (q2 : Old Z n0 h0) (q3 : Sta Z Z.heap "com/example/holdfast/holdfast/jpql/Scanner$Kind" "SYMBOL" "Lcom/example/holdfast/holdfast/jpql/Scanner$Kind;" (.ref k5)) (q4 : Fld Z h0 xt "com/example/holdfast/holdfast/jpql/Scanner$Token" "kind" "Lcom/example/holdfast/holdfast/jpql/Scanner$Kind;" (.ref kd)) (q5 : Fld Z h0 xt "com/example/holdfast/holdfast/jpql/Scanner$Token" "text" "Ljava/lang/String;" (.ref tx)) (q6 : Exa Z h0 tx "java/lang/String") (q7 : Fld Z h0 tx "java/lang/String" "value" "[B" (.ref t1)) (q8 : Fld Z h0 tx "java/lang/String" "coder" "B" (.int (0 : Int32))) (q9 : Arv Z h0 t1 kb1 .byte m1 vs1 (.int 0)) (hcd1 : StrChars.Road.CodA cs 0 m1 vs1) (hbd1 : ∀ c ∈ cs, ¬ c < 0 ∧ ¬ (65535 : Int32) < c) (hle1 : cs.length ≤ 4000) (q13 : Exa Z h0 sy "java/lang/String") (q14 : Fld Z h0 sy "java/lang/String" "value" "[B" (.ref t2)) (q15 : Fld Z h0 sy "java/lang/String" "coder" "B" (.int (0 : Int32))) (q16 : Arv Z h0 t2 kb2 .byte m2 vs2 (.int 0)) (hcd2 : StrChars.Road.CodA ds 0 m2 vs2) (hbd2 : ∀ c ∈ ds, ¬ c < 0 ∧ ¬ (65535 : Int32) < c) (hle2 : ds.length ≤ 4000) :
    MetFree l (⟨"com/example/holdfast/holdfast/jpql/Scanner$Token", "isSymbol", "(Ljava/lang/String;)Z"⟩ : MethodName) (head1 (Jvm.Cond.code (⟨"com/example/holdfast/holdfast/jpql/Scanner$Token", "isSymbol", "(Ljava/lang/String;)Z"⟩ : MethodName) prog_10_method_6_code 2 (some .boolean) :: ws) ({ frames := 2, cells := 0, slots := 0, locals := 28 } : Room)) (fun a₁ U₁ => a₁ = #[(.ref xt), (.ref sy)] ∧ Z.Warmed39 U₁.vm ∧ U₁.heap = h0) (fun _ _ _ _ _ => True) (fun _ U₁ o₁ U₂ => ∃ v₁ L₁, o₁ = .returned v₁ ∧ Q_isSym Z xt sy kd k5 tx G t1 kb1 m1 vs1 cs t2 kb2 m2 vs2 ds h0 n0 v₁ U₂.heap L₁ ∧ FrameEnd U₁ o₁ U₂ L₁ ({ frames := 2, cells := 0, slots := 0, locals := 28 } : Room).cells ({ frames := 2, cells := 0, slots := 0, locals := 28 } : Room).slots) := by
  refine MetFree.of_bodySF (plainFor_of_name pn_2) hisR ?_
  intro p e s m args below meth c s₁ Bd hml0 hP hK
  obtain ⟨rfl, hZ, hh⟩ := hP
  have hx := Bd.exec
  have hby := Bd.bytes
  have hml : c.maxLocals = 2 := hml0
  have hown : s.vm.findClass "com/example/holdfast/holdfast/jpql/Scanner$Token" = some m.cls := findClass_of_methodNamed Bd.named
  have hnm := (name_of_methodNamed Bd.named Bd.method).1
  have X0 : Stand p l e ({ frames := 2, cells := 0, slots := 0, locals := 28 } : Room) s m #[(.ref xt), (.ref sy)] below meth c s₁ [] 0 0 := Stand.of_body Bd
  have e0 : s₁.heap = h0 := by rw [← hh, Bd.state]; rfl
  have N0 := Fr.nil n0
  have pre0 : ∀ t, Steps p.tables e below (s₁.setTop (mkF m 0 #[.val (.ref xt), .val (.ref sy)] [])) t → Steps p.tables e below (s₁.setTop (entryFrame m #[(.ref xt), (.ref sy)] 2)) t := fun t k => castTop (ef_1 m xt sy) k
  obtain ⟨T301, X301, e301, st301⟩ := getF X0 hx hZ hown (host := "") (Or.inl (hw _ (List.mem_of_getElem? (i := 51) rfl))) Via.refl e0 q4 (g := (mkF m 1 #[.val (.ref xt), .val (.ref sy)] [(.ref xt)])) rfl rfl (hb hby d_prog_10_method_6_code_1)
  obtain ⟨T302, X302, e302, st302⟩ := getS2 X301 hx hZ hown (host := "") (Or.inl (hw _ (List.mem_of_getElem? (i := 64) rfl))) Via.refl e301 (q3.ext q2.2) (g := (mkF m 4 #[.val (.ref xt), .val (.ref sy)] [(.ref kd)])) rfl (hb hby d_prog_10_method_6_code_4)
  have pre303 : ∀ t, Steps p.tables e below (T302.setTop (mkF m 7 #[.val (.ref xt), .val (.ref sy)] [(.ref k5), (.ref kd)])) t → Steps p.tables e below (s₁.setTop (entryFrame m #[(.ref xt), (.ref sy)] 2)) t := fun t kk => pre0 t (by
    refine XS.aloadN X0.here hx rfl (hb hby d_prog_10_method_6_code_0) rfl rfl ?_
    show Steps p.tables e below (s₁.setTop (mkF m 1 #[.val (.ref xt), .val (.ref sy)] [(.ref xt)])) _
    refine st301 _ ?_
    show Steps p.tables e below (T301.setTop (mkF m 4 #[.val (.ref xt), .val (.ref sy)] [(.ref kd)])) _
    refine st302 _ ?_
    show Steps p.tables e below (T302.setTop (mkF m 7 #[.val (.ref xt), .val (.ref sy)] [(.ref k5), (.ref kd)])) _
    exact kk)
  by_cases hkk : kd = k5
  · obtain ⟨T304, X304, e304, st304⟩ := getF X302 hx hZ hown (host := "") (Or.inl (hw _ (List.mem_of_getElem? (i := 53) rfl))) Via.refl e302 q5 (g := (mkF m 11 #[.val (.ref xt), .val (.ref sy)] [(.ref xt)])) rfl rfl (hb hby d_prog_10_method_6_code_11)
    obtain ⟨cq305, kq305, q305a, q305b, q305c⟩ := isOf hZ e304 q6
    obtain ⟨_, _, ⟨T305, L305, k305, n305⟩, -, X305, ⟨Lc305, hQ305, l305, y305, z305⟩, st305⟩ := X304.virtualBack hx (y := (⟨"java/lang/String", "equals", "(Ljava/lang/Object;)Z"⟩ : MethodName)) (z := (⟨"java/lang/String", "equals", "(Ljava/lang/Object;)Z"⟩ : MethodName)) hown (mvT hZ (hw _ (List.mem_of_getElem? (i := 67) rfl))) (mvT hZ (hw _ (List.mem_of_getElem? (i := 68) rfl))) (notFace_of_selects (args := #[]) (mvT hZ (hw _ (List.mem_of_getElem? (i := 70) rfl)))) (mvT hZ (hw _ (List.mem_of_getElem? (i := 70) rfl))) (mvT hZ (hw _ (List.mem_of_getElem? (i := 69) rfl))) (by decide) (StrChars.Road.eqW (W := 0) hZ (own_hw_eqW hw) (kI := 4) (hw _ (List.mem_of_getElem? (i := 12) rfl)) q6 q7 q8 q9 hcd1 hbd1 hle1 q13 q14 q15 q16 hcd2 hbd2 hle2 (q0.ext q2.2) hCS (by decide) (by decide)) q305a q305c (g := (mkF m 15 #[.val (.ref xt), .val (.ref sy)] [(.ref sy), (.ref tx)])) rfl (by rw [hml]; rfl) (Steps.refl _) (argsL := [(.ref sy)]) (rest := []) (lenOf pd_2 rfl) rfl (by show 2 * 0 + _ ≤ _; exact Nat.le_of_eq rfl) (hb hby d_prog_10_method_6_code_15) (fun _ _ => ⟨rfl, e304, (by decide : 0 + 0 ≤ _), (by decide : 0 + 0 ≤ _)⟩)
    dsimp only [Pt.U, Pt.locs, Pt.cells, Pt.slots] at X305 l305 y305 z305 st305 hQ305
    subst l305 y305 z305
    obtain ⟨hc305, rfl, e305⟩ := hQ305
    obtain ⟨r305, rfl, hr305⟩ : ∃ z : Int32, _ = some (Value.int z) ∧ ((z = 1 ∧ cs = ds) ∨ (z = 0 ∧ ¬ cs = ds)) := hc305.elim (fun q => ⟨1, q.1, Or.inl ⟨rfl, q.2⟩⟩) (fun q => ⟨0, q.1, Or.inr ⟨rfl, q.2⟩⟩)
    have N305 := Fr.app N0 (Fr.nil n0)
    have pre306 : ∀ t, Steps p.tables e below (T305.setTop (mkF m 18 #[.val (.ref xt), .val (.ref sy)] [(.int r305)])) t → Steps p.tables e below (s₁.setTop (entryFrame m #[(.ref xt), (.ref sy)] 2)) t := fun t kk => pre303 t (by
      refine Jvm.RoadKit.acmp (g := (mkF m 7 #[.val (.ref xt), .val (.ref sy)] [(.ref k5), (.ref kd)])) X302 hx rfl rfl rfl (pc0 := 7) (pc' := 10) (same := true) rfl (hb hby d_prog_10_method_6_code_7) rfl (decide_eq_true (congrArg Value.ref hkk)) (by decide) (by decide) ?_
      show Steps p.tables e below (T302.setTop (mkF m 10 #[.val (.ref xt), .val (.ref sy)] [])) _
      refine XS.aloadN X302.here hx rfl (hb hby d_prog_10_method_6_code_10) rfl rfl ?_
      show Steps p.tables e below (T302.setTop (mkF m 11 #[.val (.ref xt), .val (.ref sy)] [(.ref xt)])) _
      refine st304 _ ?_
      show Steps p.tables e below (T304.setTop (mkF m 14 #[.val (.ref xt), .val (.ref sy)] [(.ref tx)])) _
      refine XS.aloadN X304.here hx rfl (hb hby d_prog_10_method_6_code_14) rfl rfl ?_
      show Steps p.tables e below (T304.setTop (mkF m 15 #[.val (.ref xt), .val (.ref sy)] [(.ref sy), (.ref tx)])) _
      refine st305.trans ?_
      show Steps p.tables e below (T305.setTop (mkF m 18 #[.val (.ref xt), .val (.ref sy)] [(.int r305)])) _
      exact kk)
    rcases hr305 with ⟨hr1, hr2⟩ | ⟨hr1, hr2⟩
    · subst hr1
      obtain ⟨fs, hr, hrun, hended, hW, hsame⟩ := X305.leave (v := some (.int (1 : Int32))) (fun h => by rw [Bd.returns] at h; cases h)
      refine ⟨_, _, pre306 _ ?_, hrun, hended, _, _, rfl, ?_, ⟨_, rfl⟩, hW, hsame.mono (by decide) (by decide)⟩
      · refine XS.ifNo X305.here hx rfl (hb hby d_prog_10_method_6_code_18) rfl ((if0 _ _).trans (feq ((by decide) : ¬ ((1 : Int32) = (0 : Int32)))).1) ?_
        show Steps p.tables e below (T305.setTop (mkF m 21 #[.val (.ref xt), .val (.ref sy)] [])) _
        refine XS.iconst X305.here hx rfl (hb hby d_prog_10_method_6_code_21) ?_
        show Steps p.tables e below (T305.setTop (mkF m 22 #[.val (.ref xt), .val (.ref sy)] [(.int (1 : Int32))])) _
        refine XS.goto X305.here hx rfl (pc0 := 22) (pc' := 26) rfl (hb hby d_prog_10_method_6_code_22) (by decide) (by decide) ?_
        show Steps p.tables e below (T305.setTop (mkF m 26 #[.val (.ref xt), .val (.ref sy)] [(.int (1 : Int32))])) _
        exact retN X305 hx (t := .boolean) Bd.returns (by simp) (hb hby d_prog_10_method_6_code_26) hr
      · show Q_isSym Z xt sy kd k5 tx G t1 kb1 m1 vs1 cs t2 kb2 m2 vs2 ds h0 n0 _ T305.heap _
        rw [e305]
        exact ⟨(1 : Int32), rfl, N305, rfl, Or.inl ⟨rfl, hkk, hr2⟩⟩
    · subst hr1
      obtain ⟨fs, hr, hrun, hended, hW, hsame⟩ := X305.leave (v := some (.int (0 : Int32))) (fun h => by rw [Bd.returns] at h; cases h)
      refine ⟨_, _, pre306 _ ?_, hrun, hended, _, _, rfl, ?_, ⟨_, rfl⟩, hW, hsame.mono (by decide) (by decide)⟩
      · refine XS.ifYes X305.here hx rfl (pc0 := 18) (pc' := 25) rfl (hb hby d_prog_10_method_6_code_18) rfl ((if0 _ _).trans (teq ((by decide) : (0 : Int32) = (0 : Int32))).1) (by decide) (by decide) ?_
        show Steps p.tables e below (T305.setTop (mkF m 25 #[.val (.ref xt), .val (.ref sy)] [])) _
        refine XS.iconst X305.here hx rfl (hb hby d_prog_10_method_6_code_25) ?_
        show Steps p.tables e below (T305.setTop (mkF m 26 #[.val (.ref xt), .val (.ref sy)] [(.int (0 : Int32))])) _
        exact retN X305 hx (t := .boolean) Bd.returns (by simp) (hb hby d_prog_10_method_6_code_26) hr
      · show Q_isSym Z xt sy kd k5 tx G t1 kb1 m1 vs1 cs t2 kb2 m2 vs2 ds h0 n0 _ T305.heap _
        rw [e305]
        exact ⟨(0 : Int32), rfl, N305, rfl, Or.inr ⟨rfl, fun q => hr2 q.2⟩⟩
  · obtain ⟨fs, hr, hrun, hended, hW, hsame⟩ := X302.leave (v := some (.int (0 : Int32))) (fun h => by rw [Bd.returns] at h; cases h)
    refine ⟨_, _, pre303 _ ?_, hrun, hended, _, _, rfl, ?_, ⟨_, rfl⟩, hW, hsame.mono (by decide) (by decide)⟩
    · refine Jvm.RoadKit.acmp (g := (mkF m 7 #[.val (.ref xt), .val (.ref sy)] [(.ref k5), (.ref kd)])) X302 hx rfl rfl rfl (pc0 := 7) (pc' := 25) (same := false) rfl (hb hby d_prog_10_method_6_code_7) rfl (decide_eq_false fun q => hkk (Value.ref.inj q)) (by decide) (by decide) ?_
      show Steps p.tables e below (T302.setTop (mkF m 25 #[.val (.ref xt), .val (.ref sy)] [])) _
      refine XS.iconst X302.here hx rfl (hb hby d_prog_10_method_6_code_25) ?_
      show Steps p.tables e below (T302.setTop (mkF m 26 #[.val (.ref xt), .val (.ref sy)] [(.int (0 : Int32))])) _
      exact retN X302 hx (t := .boolean) Bd.returns (by simp) (hb hby d_prog_10_method_6_code_26) hr
    · show Q_isSym Z xt sy kd k5 tx G t1 kb1 m1 vs1 cs t2 kb2 m2 vs2 ds h0 n0 _ T302.heap _
      rw [e302]
      exact ⟨(0 : Int32), rfl, N0, rfl, Or.inr ⟨rfl, fun q => hkk q.1⟩⟩
theorem pd_3 : parseMethodDescriptor "(I)Lcom/example/holdfast/holdfast/jpql/Scanner$Kind;" = some ⟨[.int], some (.object "com/example/holdfast/holdfast/jpql/Scanner$Kind")⟩ := by decide +kernel
theorem pd_4 : parseMethodDescriptor "(ICC)Ljava/lang/String;" = some ⟨[.int, .char, .char], some (.object "java/lang/String")⟩ := by decide +kernel
theorem pd_5 : parseMethodDescriptor "(Lcom/example/holdfast/holdfast/jpql/Scanner$Kind;Ljava/lang/String;II)V" = some ⟨[(.object "com/example/holdfast/holdfast/jpql/Scanner$Kind"), (.object "java/lang/String"), .int, .int], none⟩ := by decide +kernel
theorem pd_6 : parseMethodDescriptor "(Ljava/lang/String;)Z" = some ⟨[(.object "java/lang/String")], some .boolean⟩ := by decide +kernel
theorem ef_5 (m : MethodId) (x0 : Int32) (x1 : Int32) (x2 : Int32) (x3 : Int32) : entryFrame m #[(.int x0), (.int x1), (.int x2), (.int x3)] maxLocals = mkF m 0 #[.val (.int x0), .val (.int x1), .val (.int x2), .val (.int x3), .unset, .unset, .unset, .unset, .unset, .unset, .unset, .unset, .unset, .unset, .unset, .unset, .unset] [] := by first | (simp [entryFrame, mkF, argsToLocals, Value.category, maxLocals]; done) | rfl
def Q_law (Z : State) (i0 : Int32) (i1 : Int32) (i2 : Int32) (i3 : Int32) (G : Int32) (k0 : Addr) (k1 : Addr) (k2 : Addr) (k3 : Addr) (k4 : Addr) (k5 : Addr) (k6 : Addr) (h0 : Heap) (n0 : Nat) (v : Option Value) (h : Heap) (L : List Loc) : Prop := (v = some (.int (1 : Int32))) ∧ (Fr n0 L)
set_option maxRecDepth 65536 in
set_option maxHeartbeats 40000000 in
theorem rm_law (l : Launch) (Z : State) (a0 : Array Value) (hw : ∀ d ∈ tables_1, d.before a0 Z = true) (ws : List Jvm.Cond) (i0 : Int32) (i1 : Int32) (i2 : Int32) (i3 : Int32) (G : Int32) (k0 : Addr) (k1 : Addr) (k2 : Addr) (k3 : Addr) (k4 : Addr) (k5 : Addr) (k6 : Addr) (h0 : Heap) (n0 : Nat) (Z0 : n0 ≤ h0.size) (q0 : Sta Z Z.heap "java/lang/String" "COMPACT_STRINGS" "Z" (.int G)) (hCS : ¬ (G = (0 : Int32))) (q2 : Old Z n0 h0) (q3 : Sta Z Z.heap "com/example/holdfast/holdfast/jpql/Scanner$Kind" "IDENTIFIER" "Lcom/example/holdfast/holdfast/jpql/Scanner$Kind;" (.ref k0)) (q4 : Sta Z Z.heap "com/example/holdfast/holdfast/jpql/Scanner$Kind" "STRING" "Lcom/example/holdfast/holdfast/jpql/Scanner$Kind;" (.ref k1)) (q5 : Sta Z Z.heap "com/example/holdfast/holdfast/jpql/Scanner$Kind" "NUMBER" "Lcom/example/holdfast/holdfast/jpql/Scanner$Kind;" (.ref k2)) (q6 : Sta Z Z.heap "com/example/holdfast/holdfast/jpql/Scanner$Kind" "NAMED_PARAMETER" "Lcom/example/holdfast/holdfast/jpql/Scanner$Kind;" (.ref k3)) (q7 : Sta Z Z.heap "com/example/holdfast/holdfast/jpql/Scanner$Kind" "POSITIONAL_PARAMETER" "Lcom/example/holdfast/holdfast/jpql/Scanner$Kind;" (.ref k4)) (q8 : Sta Z Z.heap "com/example/holdfast/holdfast/jpql/Scanner$Kind" "SYMBOL" "Lcom/example/holdfast/holdfast/jpql/Scanner$Kind;" (.ref k5)) (q9 : Sta Z Z.heap "com/example/holdfast/holdfast/jpql/Scanner$Kind" "END" "Lcom/example/holdfast/holdfast/jpql/Scanner$Kind;" (.ref k6)) (hdist : k0 ≠ k5 ∧ k1 ≠ k5 ∧ k2 ≠ k5 ∧ k3 ≠ k5 ∧ k4 ≠ k5 ∧ k6 ≠ k5) :
    MetFree l x (head1 (Jvm.Cond.code x code maxLocals ret :: ws) room_1) (fun a₁ U₁ => a₁ = #[(.int i0), (.int i1), (.int i2), (.int i3)] ∧ Z.Warmed39 U₁.vm ∧ U₁.heap = h0 ∧ CHv Z [("java/lang/String", 7)] U₁.vm h0) (fun _ _ _ _ _ => True) (fun _ U₁ o₁ U₂ => ∃ v₁ L₁, o₁ = .returned v₁ ∧ Q_law Z i0 i1 i2 i3 G k0 k1 k2 k3 k4 k5 k6 h0 n0 v₁ U₂.heap L₁ ∧ ReturnedEndW U₁ o₁ U₂ L₁ room_1.cells room_1.slots) := by
  refine MetFree.of_bodySF (plainFor_of_name pn_1) hisR ?_
  intro p e s m args below meth c s₁ Bd hml0 hP hK
  obtain ⟨rfl, hZ, hh, CH0⟩ := hP
  have hx := Bd.exec
  have hby := Bd.bytes
  have hml : c.maxLocals = 17 := hml0
  have hown : s.vm.findClass "com/example/holdfast/holdfast/jpql/TokenIsSymbolPinLaw" = some m.cls := findClass_of_methodNamed Bd.named
  have hnm := (name_of_methodNamed Bd.named Bd.method).1
  have X0 : Stand p l e room_1 (s.setVm s.vm) m #[(.int i0), (.int i1), (.int i2), (.int i3)] below meth c s₁ [] 0 0 := Stand.of_body Bd
  have e0 : s₁.heap = h0 := by rw [← hh, Bd.state]; rfl
  have N0 := Fr.nil n0
  have hZ0 : Z.Warmed39 (s.setVm s.vm).vm := hZ
  have hown0 : (s.setVm s.vm).vm.findClass "com/example/holdfast/holdfast/jpql/TokenIsSymbolPinLaw" = some m.cls := hown
  have hS0 : s.Since s.vm h0.size := (State.WarmedH.refl s).since _
  have hk0 : h0.size ≤ h0.size := Nat.le_refl _
  have CR0 : CHr Z [("java/lang/String", 7)] s.vm h0 s.vm h0 := CHr.refl CH0
  have pre0 : ∀ t, Steps p.tables e below (s₁.setTop (mkF m 0 #[.val (.int i0), .val (.int i1), .val (.int i2), .val (.int i3), .unset, .unset, .unset, .unset, .unset, .unset, .unset, .unset, .unset, .unset, .unset, .unset, .unset] [])) t → Steps p.tables e below (s₁.setTop (entryFrame m #[(.int i0), (.int i1), (.int i2), (.int i3)] maxLocals)) t := fun t k => castTop (ef_5 m i0 i1 i2 i3) k
  have pre301 : ∀ t, Steps p.tables e below (s₁.setTop (mkF m 9 #[.val (.int i0), .val (.int i1), .val (.int i2), .val (.int i3), .val (.int ((i0 &&& (2147483647 : Int32)) % (7 : Int32))), .unset, .unset, .unset, .unset, .unset, .unset, .unset, .unset, .unset, .unset, .unset, .unset] [])) t → Steps p.tables e below (s₁.setTop (entryFrame m #[(.int i0), (.int i1), (.int i2), (.int i3)] maxLocals)) t := fun t kk => pre0 t (by
    refine XS.iloadN X0.here hx rfl (hb hby at_0) rfl ?_
    show Steps p.tables e below (s₁.setTop (mkF m 1 #[.val (.int i0), .val (.int i1), .val (.int i2), .val (.int i3), .unset, .unset, .unset, .unset, .unset, .unset, .unset, .unset, .unset, .unset, .unset, .unset, .unset] [(.int i0)])) _
    refine X0.ldcInt hx hown0 (mvT hZ0 (hw _ (List.mem_of_getElem? (i := 0) rfl))) (g := (mkF m 1 #[.val (.int i0), .val (.int i1), .val (.int i2), .val (.int i3), .unset, .unset, .unset, .unset, .unset, .unset, .unset, .unset, .unset, .unset, .unset, .unset, .unset] [(.int i0)])) rfl (hb hby at_1) _ ?_
    show Steps p.tables e below (s₁.setTop (mkF m 3 #[.val (.int i0), .val (.int i1), .val (.int i2), .val (.int i3), .unset, .unset, .unset, .unset, .unset, .unset, .unset, .unset, .unset, .unset, .unset, .unset, .unset] [(.int (2147483647 : Int32)), (.int i0)])) _
    refine XS.iand X0.here hx rfl (hb hby at_3) rfl ?_
    show Steps p.tables e below (s₁.setTop (mkF m 4 #[.val (.int i0), .val (.int i1), .val (.int i2), .val (.int i3), .unset, .unset, .unset, .unset, .unset, .unset, .unset, .unset, .unset, .unset, .unset, .unset, .unset] [(.int (i0 &&& (2147483647 : Int32)))])) _
    refine XS.bipush X0.here hx rfl (hb hby at_4) ?_
    show Steps p.tables e below (s₁.setTop (mkF m 6 #[.val (.int i0), .val (.int i1), .val (.int i2), .val (.int i3), .unset, .unset, .unset, .unset, .unset, .unset, .unset, .unset, .unset, .unset, .unset, .unset, .unset] [(.int (7 : Int32)), (.int (i0 &&& (2147483647 : Int32)))])) _
    refine iremM X0 hx rfl (hb hby at_6) rfl (by decide) ?_
    show Steps p.tables e below (s₁.setTop (mkF m 7 #[.val (.int i0), .val (.int i1), .val (.int i2), .val (.int i3), .unset, .unset, .unset, .unset, .unset, .unset, .unset, .unset, .unset, .unset, .unset, .unset, .unset] [(.int ((i0 &&& (2147483647 : Int32)) % (7 : Int32)))])) _
    refine XS.istore X0.here hx rfl (hb hby at_7) rfl (l' := #[.val (.int i0), .val (.int i1), .val (.int i2), .val (.int i3), .val (.int ((i0 &&& (2147483647 : Int32)) % (7 : Int32))), .unset, .unset, .unset, .unset, .unset, .unset, .unset, .unset, .unset, .unset, .unset, .unset]) rfl ?_
    show Steps p.tables e below (s₁.setTop (mkF m 9 #[.val (.int i0), .val (.int i1), .val (.int i2), .val (.int i3), .val (.int ((i0 &&& (2147483647 : Int32)) % (7 : Int32))), .unset, .unset, .unset, .unset, .unset, .unset, .unset, .unset, .unset, .unset, .unset, .unset] [])) _
    exact kk)
  obtain ⟨idx, h_idx⟩ : ∃ z, z = ((i0 &&& (2147483647 : Int32)) % (7 : Int32)) := ⟨_, rfl⟩
  rw [← h_idx] at pre301
  have hid : idx = (0 : Int32) ∨ idx = (1 : Int32) ∨ idx = (2 : Int32) ∨ idx = (3 : Int32) ∨ idx = (4 : Int32) ∨ idx = (5 : Int32) ∨ idx = (6 : Int32) := by rw [h_idx]; exact own_m7 i0
  obtain ⟨_, _, ⟨T302, L302, k302, n302⟩, -, X302, ⟨Lc302, hQ302, l302, y302, z302⟩, st302⟩ := Jvm.LawKit.callS X0 hx (y := (⟨"com/example/holdfast/holdfast/jpql/TokenIsSymbolPinLaw", "kindOf", "(I)Lcom/example/holdfast/holdfast/jpql/Scanner$Kind;"⟩ : MethodName)) hown0 (mvT hZ0 (hw _ (List.mem_of_getElem? (i := 1) rfl))) (mvT hZ0 (hw _ (List.mem_of_getElem? (i := 2) rfl))) (mvT hZ0 (hw _ (List.mem_of_getElem? (i := 3) rfl))) (mvT hZ0 (hw _ (List.mem_of_getElem? (i := 4) rfl))) (by decide) (backOf (W := 0) (rm_kindOf l Z a0 hw [] idx k0 k1 k2 k3 k4 k5 k6 h0 n0 Z0 q3 q4 q5 q6 q7 q8 q9 q2 (hid)) hZ0 (hw _ (List.mem_of_getElem? (i := 4) rfl)) (hw _ (List.mem_of_getElem? (i := 3) rfl)) (by decide) (by decide)) (g := (mkF m 11 #[.val (.int i0), .val (.int i1), .val (.int i2), .val (.int i3), .val (.int idx), .unset, .unset, .unset, .unset, .unset, .unset, .unset, .unset, .unset, .unset, .unset, .unset] [(.int idx)])) rfl (by rw [hml]; rfl) (argsL := [(.int idx)]) (rest := []) (lenOf pd_3 rfl) rfl (by show 2 * 0 + _ ≤ _; exact Nat.le_of_eq rfl) (hb hby at_11) (fun _ _ => ⟨rfl, e0, (by decide : 0 + 0 ≤ _), (by decide : 0 + 0 ≤ _)⟩)
  dsimp only [Pt.U, Pt.locs, Pt.cells, Pt.slots] at X302 l302 y302 z302 st302 hQ302
  subst l302 y302 z302
  obtain ⟨rfl, Nq302, e302⟩ := hQ302
  have N302 := Fr.app N0 Nq302
  have pre303 : ∀ t, Steps p.tables e below (T302.setTop (mkF m 24 #[.val (.int i0), .val (.int i1), .val (.int i2), .val (.int i3), .val (.int idx), .val (.ref (own_k idx k0 k1 k2 k3 k4 k5 k6)), .val (.int ((i3 &&& (2147483647 : Int32)) % (3 : Int32))), .unset, .unset, .unset, .unset, .unset, .unset, .unset, .unset, .unset, .unset] [])) t → Steps p.tables e below (s₁.setTop (entryFrame m #[(.int i0), (.int i1), (.int i2), (.int i3)] maxLocals)) t := fun t kk => pre301 t (by
    refine XS.iload X0.here hx rfl (hb hby at_9) rfl ?_
    show Steps p.tables e below (s₁.setTop (mkF m 11 #[.val (.int i0), .val (.int i1), .val (.int i2), .val (.int i3), .val (.int idx), .unset, .unset, .unset, .unset, .unset, .unset, .unset, .unset, .unset, .unset, .unset, .unset] [(.int idx)])) _
    refine st302 _ ?_
    show Steps p.tables e below (T302.setTop (mkF m 14 #[.val (.int i0), .val (.int i1), .val (.int i2), .val (.int i3), .val (.int idx), .unset, .unset, .unset, .unset, .unset, .unset, .unset, .unset, .unset, .unset, .unset, .unset] [(.ref (own_k idx k0 k1 k2 k3 k4 k5 k6))])) _
    refine XS.astore X302.here hx rfl (hb hby at_14) rfl rfl (l' := #[.val (.int i0), .val (.int i1), .val (.int i2), .val (.int i3), .val (.int idx), .val (.ref (own_k idx k0 k1 k2 k3 k4 k5 k6)), .unset, .unset, .unset, .unset, .unset, .unset, .unset, .unset, .unset, .unset, .unset]) rfl ?_
    show Steps p.tables e below (T302.setTop (mkF m 16 #[.val (.int i0), .val (.int i1), .val (.int i2), .val (.int i3), .val (.int idx), .val (.ref (own_k idx k0 k1 k2 k3 k4 k5 k6)), .unset, .unset, .unset, .unset, .unset, .unset, .unset, .unset, .unset, .unset, .unset] [])) _
    refine XS.iloadN X302.here hx rfl (hb hby at_16) rfl ?_
    show Steps p.tables e below (T302.setTop (mkF m 17 #[.val (.int i0), .val (.int i1), .val (.int i2), .val (.int i3), .val (.int idx), .val (.ref (own_k idx k0 k1 k2 k3 k4 k5 k6)), .unset, .unset, .unset, .unset, .unset, .unset, .unset, .unset, .unset, .unset, .unset] [(.int i3)])) _
    refine X302.ldcInt hx hown0 (mvT hZ0 (hw _ (List.mem_of_getElem? (i := 0) rfl))) (g := (mkF m 17 #[.val (.int i0), .val (.int i1), .val (.int i2), .val (.int i3), .val (.int idx), .val (.ref (own_k idx k0 k1 k2 k3 k4 k5 k6)), .unset, .unset, .unset, .unset, .unset, .unset, .unset, .unset, .unset, .unset, .unset] [(.int i3)])) rfl (hb hby at_17) _ ?_
    show Steps p.tables e below (T302.setTop (mkF m 19 #[.val (.int i0), .val (.int i1), .val (.int i2), .val (.int i3), .val (.int idx), .val (.ref (own_k idx k0 k1 k2 k3 k4 k5 k6)), .unset, .unset, .unset, .unset, .unset, .unset, .unset, .unset, .unset, .unset, .unset] [(.int (2147483647 : Int32)), (.int i3)])) _
    refine XS.iand X302.here hx rfl (hb hby at_19) rfl ?_
    show Steps p.tables e below (T302.setTop (mkF m 20 #[.val (.int i0), .val (.int i1), .val (.int i2), .val (.int i3), .val (.int idx), .val (.ref (own_k idx k0 k1 k2 k3 k4 k5 k6)), .unset, .unset, .unset, .unset, .unset, .unset, .unset, .unset, .unset, .unset, .unset] [(.int (i3 &&& (2147483647 : Int32)))])) _
    refine XS.iconst X302.here hx rfl (hb hby at_20) ?_
    show Steps p.tables e below (T302.setTop (mkF m 21 #[.val (.int i0), .val (.int i1), .val (.int i2), .val (.int i3), .val (.int idx), .val (.ref (own_k idx k0 k1 k2 k3 k4 k5 k6)), .unset, .unset, .unset, .unset, .unset, .unset, .unset, .unset, .unset, .unset, .unset] [(.int (3 : Int32)), (.int (i3 &&& (2147483647 : Int32)))])) _
    refine iremM X302 hx rfl (hb hby at_21) rfl (by decide) ?_
    show Steps p.tables e below (T302.setTop (mkF m 22 #[.val (.int i0), .val (.int i1), .val (.int i2), .val (.int i3), .val (.int idx), .val (.ref (own_k idx k0 k1 k2 k3 k4 k5 k6)), .unset, .unset, .unset, .unset, .unset, .unset, .unset, .unset, .unset, .unset, .unset] [(.int ((i3 &&& (2147483647 : Int32)) % (3 : Int32)))])) _
    refine XS.istore X302.here hx rfl (hb hby at_22) rfl (l' := #[.val (.int i0), .val (.int i1), .val (.int i2), .val (.int i3), .val (.int idx), .val (.ref (own_k idx k0 k1 k2 k3 k4 k5 k6)), .val (.int ((i3 &&& (2147483647 : Int32)) % (3 : Int32))), .unset, .unset, .unset, .unset, .unset, .unset, .unset, .unset, .unset, .unset]) rfl ?_
    show Steps p.tables e below (T302.setTop (mkF m 24 #[.val (.int i0), .val (.int i1), .val (.int i2), .val (.int i3), .val (.int idx), .val (.ref (own_k idx k0 k1 k2 k3 k4 k5 k6)), .val (.int ((i3 &&& (2147483647 : Int32)) % (3 : Int32))), .unset, .unset, .unset, .unset, .unset, .unset, .unset, .unset, .unset, .unset] [])) _
    exact kk)
  obtain ⟨tl, h_tl⟩ : ∃ z, z = ((i3 &&& (2147483647 : Int32)) % (3 : Int32)) := ⟨_, rfl⟩
  rw [← h_tl] at pre303
  have htl : tl = (0 : Int32) ∨ tl = (1 : Int32) ∨ tl = (2 : Int32) := by rw [h_tl]; exact own_m3 _
  have pre304 : ∀ t, Steps p.tables e below (T302.setTop (mkF m 35 #[.val (.int i0), .val (.int i1), .val (.int i2), .val (.int i3), .val (.int idx), .val (.ref (own_k idx k0 k1 k2 k3 k4 k5 k6)), .val (.int tl), .val (.int ((((i3.toUInt32 >>> ((8 : Int32) &&& 31).toUInt32).toInt32) &&& (2147483647 : Int32)) % (3 : Int32))), .unset, .unset, .unset, .unset, .unset, .unset, .unset, .unset, .unset] [])) t → Steps p.tables e below (s₁.setTop (entryFrame m #[(.int i0), (.int i1), (.int i2), (.int i3)] maxLocals)) t := fun t kk => pre303 t (by
    refine XS.iloadN X302.here hx rfl (hb hby at_24) rfl ?_
    show Steps p.tables e below (T302.setTop (mkF m 25 #[.val (.int i0), .val (.int i1), .val (.int i2), .val (.int i3), .val (.int idx), .val (.ref (own_k idx k0 k1 k2 k3 k4 k5 k6)), .val (.int tl), .unset, .unset, .unset, .unset, .unset, .unset, .unset, .unset, .unset, .unset] [(.int i3)])) _
    refine XS.bipush X302.here hx rfl (hb hby at_25) ?_
    show Steps p.tables e below (T302.setTop (mkF m 27 #[.val (.int i0), .val (.int i1), .val (.int i2), .val (.int i3), .val (.int idx), .val (.ref (own_k idx k0 k1 k2 k3 k4 k5 k6)), .val (.int tl), .unset, .unset, .unset, .unset, .unset, .unset, .unset, .unset, .unset, .unset] [(.int (8 : Int32)), (.int i3)])) _
    refine XS.iushr X302.here hx rfl (hb hby at_27) rfl ?_
    show Steps p.tables e below (T302.setTop (mkF m 28 #[.val (.int i0), .val (.int i1), .val (.int i2), .val (.int i3), .val (.int idx), .val (.ref (own_k idx k0 k1 k2 k3 k4 k5 k6)), .val (.int tl), .unset, .unset, .unset, .unset, .unset, .unset, .unset, .unset, .unset, .unset] [(.int ((i3.toUInt32 >>> ((8 : Int32) &&& 31).toUInt32).toInt32))])) _
    refine X302.ldcInt hx hown0 (mvT hZ0 (hw _ (List.mem_of_getElem? (i := 0) rfl))) (g := (mkF m 28 #[.val (.int i0), .val (.int i1), .val (.int i2), .val (.int i3), .val (.int idx), .val (.ref (own_k idx k0 k1 k2 k3 k4 k5 k6)), .val (.int tl), .unset, .unset, .unset, .unset, .unset, .unset, .unset, .unset, .unset, .unset] [(.int ((i3.toUInt32 >>> ((8 : Int32) &&& 31).toUInt32).toInt32))])) rfl (hb hby at_28) _ ?_
    show Steps p.tables e below (T302.setTop (mkF m 30 #[.val (.int i0), .val (.int i1), .val (.int i2), .val (.int i3), .val (.int idx), .val (.ref (own_k idx k0 k1 k2 k3 k4 k5 k6)), .val (.int tl), .unset, .unset, .unset, .unset, .unset, .unset, .unset, .unset, .unset, .unset] [(.int (2147483647 : Int32)), (.int ((i3.toUInt32 >>> ((8 : Int32) &&& 31).toUInt32).toInt32))])) _
    refine XS.iand X302.here hx rfl (hb hby at_30) rfl ?_
    show Steps p.tables e below (T302.setTop (mkF m 31 #[.val (.int i0), .val (.int i1), .val (.int i2), .val (.int i3), .val (.int idx), .val (.ref (own_k idx k0 k1 k2 k3 k4 k5 k6)), .val (.int tl), .unset, .unset, .unset, .unset, .unset, .unset, .unset, .unset, .unset, .unset] [(.int (((i3.toUInt32 >>> ((8 : Int32) &&& 31).toUInt32).toInt32) &&& (2147483647 : Int32)))])) _
    refine XS.iconst X302.here hx rfl (hb hby at_31) ?_
    show Steps p.tables e below (T302.setTop (mkF m 32 #[.val (.int i0), .val (.int i1), .val (.int i2), .val (.int i3), .val (.int idx), .val (.ref (own_k idx k0 k1 k2 k3 k4 k5 k6)), .val (.int tl), .unset, .unset, .unset, .unset, .unset, .unset, .unset, .unset, .unset, .unset] [(.int (3 : Int32)), (.int (((i3.toUInt32 >>> ((8 : Int32) &&& 31).toUInt32).toInt32) &&& (2147483647 : Int32)))])) _
    refine iremM X302 hx rfl (hb hby at_32) rfl (by decide) ?_
    show Steps p.tables e below (T302.setTop (mkF m 33 #[.val (.int i0), .val (.int i1), .val (.int i2), .val (.int i3), .val (.int idx), .val (.ref (own_k idx k0 k1 k2 k3 k4 k5 k6)), .val (.int tl), .unset, .unset, .unset, .unset, .unset, .unset, .unset, .unset, .unset, .unset] [(.int ((((i3.toUInt32 >>> ((8 : Int32) &&& 31).toUInt32).toInt32) &&& (2147483647 : Int32)) % (3 : Int32)))])) _
    refine XS.istore X302.here hx rfl (hb hby at_33) rfl (l' := #[.val (.int i0), .val (.int i1), .val (.int i2), .val (.int i3), .val (.int idx), .val (.ref (own_k idx k0 k1 k2 k3 k4 k5 k6)), .val (.int tl), .val (.int ((((i3.toUInt32 >>> ((8 : Int32) &&& 31).toUInt32).toInt32) &&& (2147483647 : Int32)) % (3 : Int32))), .unset, .unset, .unset, .unset, .unset, .unset, .unset, .unset, .unset]) rfl ?_
    show Steps p.tables e below (T302.setTop (mkF m 35 #[.val (.int i0), .val (.int i1), .val (.int i2), .val (.int i3), .val (.int idx), .val (.ref (own_k idx k0 k1 k2 k3 k4 k5 k6)), .val (.int tl), .val (.int ((((i3.toUInt32 >>> ((8 : Int32) &&& 31).toUInt32).toInt32) &&& (2147483647 : Int32)) % (3 : Int32))), .unset, .unset, .unset, .unset, .unset, .unset, .unset, .unset, .unset] [])) _
    exact kk)
  obtain ⟨sl, h_sl⟩ : ∃ z, z = ((((i3.toUInt32 >>> ((8 : Int32) &&& 31).toUInt32).toInt32) &&& (2147483647 : Int32)) % (3 : Int32)) := ⟨_, rfl⟩
  rw [← h_sl] at pre304
  have hsl : sl = (0 : Int32) ∨ sl = (1 : Int32) ∨ sl = (2 : Int32) := by rw [h_sl]; exact own_m3 _
  have pre305 : ∀ t, Steps p.tables e below (T302.setTop (mkF m 43 #[.val (.int i0), .val (.int i1), .val (.int i2), .val (.int i3), .val (.int idx), .val (.ref (own_k idx k0 k1 k2 k3 k4 k5 k6)), .val (.int tl), .val (.int sl), .val (.int ((i1 &&& (255 : Int32)).toUInt32.toUInt16.toUInt32.toInt32)), .unset, .unset, .unset, .unset, .unset, .unset, .unset, .unset] [])) t → Steps p.tables e below (s₁.setTop (entryFrame m #[(.int i0), (.int i1), (.int i2), (.int i3)] maxLocals)) t := fun t kk => pre304 t (by
    refine XS.iloadN X302.here hx rfl (hb hby at_35) rfl ?_
    show Steps p.tables e below (T302.setTop (mkF m 36 #[.val (.int i0), .val (.int i1), .val (.int i2), .val (.int i3), .val (.int idx), .val (.ref (own_k idx k0 k1 k2 k3 k4 k5 k6)), .val (.int tl), .val (.int sl), .unset, .unset, .unset, .unset, .unset, .unset, .unset, .unset, .unset] [(.int i1)])) _
    refine XS.sipush X302.here hx rfl (hb hby at_36) ?_
    show Steps p.tables e below (T302.setTop (mkF m 39 #[.val (.int i0), .val (.int i1), .val (.int i2), .val (.int i3), .val (.int idx), .val (.ref (own_k idx k0 k1 k2 k3 k4 k5 k6)), .val (.int tl), .val (.int sl), .unset, .unset, .unset, .unset, .unset, .unset, .unset, .unset, .unset] [(.int (255 : Int32)), (.int i1)])) _
    refine XS.iand X302.here hx rfl (hb hby at_39) rfl ?_
    show Steps p.tables e below (T302.setTop (mkF m 40 #[.val (.int i0), .val (.int i1), .val (.int i2), .val (.int i3), .val (.int idx), .val (.ref (own_k idx k0 k1 k2 k3 k4 k5 k6)), .val (.int tl), .val (.int sl), .unset, .unset, .unset, .unset, .unset, .unset, .unset, .unset, .unset] [(.int (i1 &&& (255 : Int32)))])) _
    refine XS.i2c X302.here hx rfl (hb hby at_40) rfl ?_
    show Steps p.tables e below (T302.setTop (mkF m 41 #[.val (.int i0), .val (.int i1), .val (.int i2), .val (.int i3), .val (.int idx), .val (.ref (own_k idx k0 k1 k2 k3 k4 k5 k6)), .val (.int tl), .val (.int sl), .unset, .unset, .unset, .unset, .unset, .unset, .unset, .unset, .unset] [(.int ((i1 &&& (255 : Int32)).toUInt32.toUInt16.toUInt32.toInt32))])) _
    refine XS.istore X302.here hx rfl (hb hby at_41) rfl (l' := #[.val (.int i0), .val (.int i1), .val (.int i2), .val (.int i3), .val (.int idx), .val (.ref (own_k idx k0 k1 k2 k3 k4 k5 k6)), .val (.int tl), .val (.int sl), .val (.int ((i1 &&& (255 : Int32)).toUInt32.toUInt16.toUInt32.toInt32)), .unset, .unset, .unset, .unset, .unset, .unset, .unset, .unset]) rfl ?_
    show Steps p.tables e below (T302.setTop (mkF m 43 #[.val (.int i0), .val (.int i1), .val (.int i2), .val (.int i3), .val (.int idx), .val (.ref (own_k idx k0 k1 k2 k3 k4 k5 k6)), .val (.int tl), .val (.int sl), .val (.int ((i1 &&& (255 : Int32)).toUInt32.toUInt16.toUInt32.toInt32)), .unset, .unset, .unset, .unset, .unset, .unset, .unset, .unset] [])) _
    exact kk)
  obtain ⟨t0, h_t0⟩ : ∃ z, z = ((i1 &&& (255 : Int32)).toUInt32.toUInt16.toUInt32.toInt32) := ⟨_, rfl⟩
  rw [← h_t0] at pre305
  have ht0 : own_L t0 := by rw [h_t0]; exact own_lat8 _
  have pre306 : ∀ t, Steps p.tables e below (T302.setTop (mkF m 54 #[.val (.int i0), .val (.int i1), .val (.int i2), .val (.int i3), .val (.int idx), .val (.ref (own_k idx k0 k1 k2 k3 k4 k5 k6)), .val (.int tl), .val (.int sl), .val (.int t0), .val (.int ((((i1.toUInt32 >>> ((8 : Int32) &&& 31).toUInt32).toInt32) &&& (255 : Int32)).toUInt32.toUInt16.toUInt32.toInt32)), .unset, .unset, .unset, .unset, .unset, .unset, .unset] [])) t → Steps p.tables e below (s₁.setTop (entryFrame m #[(.int i0), (.int i1), (.int i2), (.int i3)] maxLocals)) t := fun t kk => pre305 t (by
    refine XS.iloadN X302.here hx rfl (hb hby at_43) rfl ?_
    show Steps p.tables e below (T302.setTop (mkF m 44 #[.val (.int i0), .val (.int i1), .val (.int i2), .val (.int i3), .val (.int idx), .val (.ref (own_k idx k0 k1 k2 k3 k4 k5 k6)), .val (.int tl), .val (.int sl), .val (.int t0), .unset, .unset, .unset, .unset, .unset, .unset, .unset, .unset] [(.int i1)])) _
    refine XS.bipush X302.here hx rfl (hb hby at_44) ?_
    show Steps p.tables e below (T302.setTop (mkF m 46 #[.val (.int i0), .val (.int i1), .val (.int i2), .val (.int i3), .val (.int idx), .val (.ref (own_k idx k0 k1 k2 k3 k4 k5 k6)), .val (.int tl), .val (.int sl), .val (.int t0), .unset, .unset, .unset, .unset, .unset, .unset, .unset, .unset] [(.int (8 : Int32)), (.int i1)])) _
    refine XS.iushr X302.here hx rfl (hb hby at_46) rfl ?_
    show Steps p.tables e below (T302.setTop (mkF m 47 #[.val (.int i0), .val (.int i1), .val (.int i2), .val (.int i3), .val (.int idx), .val (.ref (own_k idx k0 k1 k2 k3 k4 k5 k6)), .val (.int tl), .val (.int sl), .val (.int t0), .unset, .unset, .unset, .unset, .unset, .unset, .unset, .unset] [(.int ((i1.toUInt32 >>> ((8 : Int32) &&& 31).toUInt32).toInt32))])) _
    refine XS.sipush X302.here hx rfl (hb hby at_47) ?_
    show Steps p.tables e below (T302.setTop (mkF m 50 #[.val (.int i0), .val (.int i1), .val (.int i2), .val (.int i3), .val (.int idx), .val (.ref (own_k idx k0 k1 k2 k3 k4 k5 k6)), .val (.int tl), .val (.int sl), .val (.int t0), .unset, .unset, .unset, .unset, .unset, .unset, .unset, .unset] [(.int (255 : Int32)), (.int ((i1.toUInt32 >>> ((8 : Int32) &&& 31).toUInt32).toInt32))])) _
    refine XS.iand X302.here hx rfl (hb hby at_50) rfl ?_
    show Steps p.tables e below (T302.setTop (mkF m 51 #[.val (.int i0), .val (.int i1), .val (.int i2), .val (.int i3), .val (.int idx), .val (.ref (own_k idx k0 k1 k2 k3 k4 k5 k6)), .val (.int tl), .val (.int sl), .val (.int t0), .unset, .unset, .unset, .unset, .unset, .unset, .unset, .unset] [(.int (((i1.toUInt32 >>> ((8 : Int32) &&& 31).toUInt32).toInt32) &&& (255 : Int32)))])) _
    refine XS.i2c X302.here hx rfl (hb hby at_51) rfl ?_
    show Steps p.tables e below (T302.setTop (mkF m 52 #[.val (.int i0), .val (.int i1), .val (.int i2), .val (.int i3), .val (.int idx), .val (.ref (own_k idx k0 k1 k2 k3 k4 k5 k6)), .val (.int tl), .val (.int sl), .val (.int t0), .unset, .unset, .unset, .unset, .unset, .unset, .unset, .unset] [(.int ((((i1.toUInt32 >>> ((8 : Int32) &&& 31).toUInt32).toInt32) &&& (255 : Int32)).toUInt32.toUInt16.toUInt32.toInt32))])) _
    refine XS.istore X302.here hx rfl (hb hby at_52) rfl (l' := #[.val (.int i0), .val (.int i1), .val (.int i2), .val (.int i3), .val (.int idx), .val (.ref (own_k idx k0 k1 k2 k3 k4 k5 k6)), .val (.int tl), .val (.int sl), .val (.int t0), .val (.int ((((i1.toUInt32 >>> ((8 : Int32) &&& 31).toUInt32).toInt32) &&& (255 : Int32)).toUInt32.toUInt16.toUInt32.toInt32)), .unset, .unset, .unset, .unset, .unset, .unset, .unset]) rfl ?_
    show Steps p.tables e below (T302.setTop (mkF m 54 #[.val (.int i0), .val (.int i1), .val (.int i2), .val (.int i3), .val (.int idx), .val (.ref (own_k idx k0 k1 k2 k3 k4 k5 k6)), .val (.int tl), .val (.int sl), .val (.int t0), .val (.int ((((i1.toUInt32 >>> ((8 : Int32) &&& 31).toUInt32).toInt32) &&& (255 : Int32)).toUInt32.toUInt16.toUInt32.toInt32)), .unset, .unset, .unset, .unset, .unset, .unset, .unset] [])) _
    exact kk)
  obtain ⟨t1, h_t1⟩ : ∃ z, z = ((((i1.toUInt32 >>> ((8 : Int32) &&& 31).toUInt32).toInt32) &&& (255 : Int32)).toUInt32.toUInt16.toUInt32.toInt32) := ⟨_, rfl⟩
  rw [← h_t1] at pre306
  have ht1 : own_L t1 := by rw [h_t1]; exact own_lat8 _
  have pre307 : ∀ t, Steps p.tables e below (T302.setTop (mkF m 57 #[.val (.int i0), .val (.int i1), .val (.int i2), .val (.int i3), .val (.int idx), .val (.ref (own_k idx k0 k1 k2 k3 k4 k5 k6)), .val (.int tl), .val (.int sl), .val (.int t0), .val (.int t1), .unset, .unset, .unset, .unset, .unset, .unset, .unset] [(.int (i2 &&& (1 : Int32)))])) t → Steps p.tables e below (s₁.setTop (entryFrame m #[(.int i0), (.int i1), (.int i2), (.int i3)] maxLocals)) t := fun t kk => pre306 t (by
    refine XS.iloadN X302.here hx rfl (hb hby at_54) rfl ?_
    show Steps p.tables e below (T302.setTop (mkF m 55 #[.val (.int i0), .val (.int i1), .val (.int i2), .val (.int i3), .val (.int idx), .val (.ref (own_k idx k0 k1 k2 k3 k4 k5 k6)), .val (.int tl), .val (.int sl), .val (.int t0), .val (.int t1), .unset, .unset, .unset, .unset, .unset, .unset, .unset] [(.int i2)])) _
    refine XS.iconst X302.here hx rfl (hb hby at_55) ?_
    show Steps p.tables e below (T302.setTop (mkF m 56 #[.val (.int i0), .val (.int i1), .val (.int i2), .val (.int i3), .val (.int idx), .val (.ref (own_k idx k0 k1 k2 k3 k4 k5 k6)), .val (.int tl), .val (.int sl), .val (.int t0), .val (.int t1), .unset, .unset, .unset, .unset, .unset, .unset, .unset] [(.int (1 : Int32)), (.int i2)])) _
    refine XS.iand X302.here hx rfl (hb hby at_56) rfl ?_
    show Steps p.tables e below (T302.setTop (mkF m 57 #[.val (.int i0), .val (.int i1), .val (.int i2), .val (.int i3), .val (.int idx), .val (.ref (own_k idx k0 k1 k2 k3 k4 k5 k6)), .val (.int tl), .val (.int sl), .val (.int t0), .val (.int t1), .unset, .unset, .unset, .unset, .unset, .unset, .unset] [(.int (i2 &&& (1 : Int32)))])) _
    exact kk)
  obtain ⟨s0, s1, hs0, hs1, pre308⟩ : ∃ s0 : Int32, ∃ s1 : Int32, (own_L s0) ∧ (own_L s1) ∧ ∀ t, Steps p.tables e below (T302.setTop (mkF m 110 #[.val (.int i0), .val (.int i1), .val (.int i2), .val (.int i3), .val (.int idx), .val (.ref (own_k idx k0 k1 k2 k3 k4 k5 k6)), .val (.int tl), .val (.int sl), .val (.int t0), .val (.int t1), .val (.int s0), .val (.int s1), .unset, .unset, .unset, .unset, .unset] [])) t → Steps p.tables e below (s₁.setTop (entryFrame m #[(.int i0), (.int i1), (.int i2), (.int i3)] maxLocals)) t := by
    by_cases hb1 : (i2 &&& (1 : Int32)) = (0 : Int32)
    · have pre309 : ∀ t, Steps p.tables e below (T302.setTop (mkF m 110 #[.val (.int i0), .val (.int i1), .val (.int i2), .val (.int i3), .val (.int idx), .val (.ref (own_k idx k0 k1 k2 k3 k4 k5 k6)), .val (.int tl), .val (.int sl), .val (.int t0), .val (.int t1), .val (.int ((((i2.toUInt32 >>> ((8 : Int32) &&& 31).toUInt32).toInt32) &&& (255 : Int32)).toUInt32.toUInt16.toUInt32.toInt32)), .val (.int ((((i2.toUInt32 >>> ((16 : Int32) &&& 31).toUInt32).toInt32) &&& (255 : Int32)).toUInt32.toUInt16.toUInt32.toInt32)), .unset, .unset, .unset, .unset, .unset] [])) t → Steps p.tables e below (s₁.setTop (entryFrame m #[(.int i0), (.int i1), (.int i2), (.int i3)] maxLocals)) t := fun t kk => pre307 t (by
        refine XS.ifYes X302.here hx rfl (pc0 := 57) (pc' := 88) rfl (hb hby at_57) rfl ((if0 _ _).trans (teq (hb1 : (i2 &&& (1 : Int32)) = (0 : Int32))).1) (by decide) (by decide) ?_
        show Steps p.tables e below (T302.setTop (mkF m 88 #[.val (.int i0), .val (.int i1), .val (.int i2), .val (.int i3), .val (.int idx), .val (.ref (own_k idx k0 k1 k2 k3 k4 k5 k6)), .val (.int tl), .val (.int sl), .val (.int t0), .val (.int t1), .unset, .unset, .unset, .unset, .unset, .unset, .unset] [])) _
        refine XS.iloadN X302.here hx rfl (hb hby at_88) rfl ?_
        show Steps p.tables e below (T302.setTop (mkF m 89 #[.val (.int i0), .val (.int i1), .val (.int i2), .val (.int i3), .val (.int idx), .val (.ref (own_k idx k0 k1 k2 k3 k4 k5 k6)), .val (.int tl), .val (.int sl), .val (.int t0), .val (.int t1), .unset, .unset, .unset, .unset, .unset, .unset, .unset] [(.int i2)])) _
        refine XS.bipush X302.here hx rfl (hb hby at_89) ?_
        show Steps p.tables e below (T302.setTop (mkF m 91 #[.val (.int i0), .val (.int i1), .val (.int i2), .val (.int i3), .val (.int idx), .val (.ref (own_k idx k0 k1 k2 k3 k4 k5 k6)), .val (.int tl), .val (.int sl), .val (.int t0), .val (.int t1), .unset, .unset, .unset, .unset, .unset, .unset, .unset] [(.int (8 : Int32)), (.int i2)])) _
        refine XS.iushr X302.here hx rfl (hb hby at_91) rfl ?_
        show Steps p.tables e below (T302.setTop (mkF m 92 #[.val (.int i0), .val (.int i1), .val (.int i2), .val (.int i3), .val (.int idx), .val (.ref (own_k idx k0 k1 k2 k3 k4 k5 k6)), .val (.int tl), .val (.int sl), .val (.int t0), .val (.int t1), .unset, .unset, .unset, .unset, .unset, .unset, .unset] [(.int ((i2.toUInt32 >>> ((8 : Int32) &&& 31).toUInt32).toInt32))])) _
        refine XS.sipush X302.here hx rfl (hb hby at_92) ?_
        show Steps p.tables e below (T302.setTop (mkF m 95 #[.val (.int i0), .val (.int i1), .val (.int i2), .val (.int i3), .val (.int idx), .val (.ref (own_k idx k0 k1 k2 k3 k4 k5 k6)), .val (.int tl), .val (.int sl), .val (.int t0), .val (.int t1), .unset, .unset, .unset, .unset, .unset, .unset, .unset] [(.int (255 : Int32)), (.int ((i2.toUInt32 >>> ((8 : Int32) &&& 31).toUInt32).toInt32))])) _
        refine XS.iand X302.here hx rfl (hb hby at_95) rfl ?_
        show Steps p.tables e below (T302.setTop (mkF m 96 #[.val (.int i0), .val (.int i1), .val (.int i2), .val (.int i3), .val (.int idx), .val (.ref (own_k idx k0 k1 k2 k3 k4 k5 k6)), .val (.int tl), .val (.int sl), .val (.int t0), .val (.int t1), .unset, .unset, .unset, .unset, .unset, .unset, .unset] [(.int (((i2.toUInt32 >>> ((8 : Int32) &&& 31).toUInt32).toInt32) &&& (255 : Int32)))])) _
        refine XS.i2c X302.here hx rfl (hb hby at_96) rfl ?_
        show Steps p.tables e below (T302.setTop (mkF m 97 #[.val (.int i0), .val (.int i1), .val (.int i2), .val (.int i3), .val (.int idx), .val (.ref (own_k idx k0 k1 k2 k3 k4 k5 k6)), .val (.int tl), .val (.int sl), .val (.int t0), .val (.int t1), .unset, .unset, .unset, .unset, .unset, .unset, .unset] [(.int ((((i2.toUInt32 >>> ((8 : Int32) &&& 31).toUInt32).toInt32) &&& (255 : Int32)).toUInt32.toUInt16.toUInt32.toInt32))])) _
        refine XS.istore X302.here hx rfl (hb hby at_97) rfl (l' := #[.val (.int i0), .val (.int i1), .val (.int i2), .val (.int i3), .val (.int idx), .val (.ref (own_k idx k0 k1 k2 k3 k4 k5 k6)), .val (.int tl), .val (.int sl), .val (.int t0), .val (.int t1), .val (.int ((((i2.toUInt32 >>> ((8 : Int32) &&& 31).toUInt32).toInt32) &&& (255 : Int32)).toUInt32.toUInt16.toUInt32.toInt32)), .unset, .unset, .unset, .unset, .unset, .unset]) rfl ?_
        show Steps p.tables e below (T302.setTop (mkF m 99 #[.val (.int i0), .val (.int i1), .val (.int i2), .val (.int i3), .val (.int idx), .val (.ref (own_k idx k0 k1 k2 k3 k4 k5 k6)), .val (.int tl), .val (.int sl), .val (.int t0), .val (.int t1), .val (.int ((((i2.toUInt32 >>> ((8 : Int32) &&& 31).toUInt32).toInt32) &&& (255 : Int32)).toUInt32.toUInt16.toUInt32.toInt32)), .unset, .unset, .unset, .unset, .unset, .unset] [])) _
        refine XS.iloadN X302.here hx rfl (hb hby at_99) rfl ?_
        show Steps p.tables e below (T302.setTop (mkF m 100 #[.val (.int i0), .val (.int i1), .val (.int i2), .val (.int i3), .val (.int idx), .val (.ref (own_k idx k0 k1 k2 k3 k4 k5 k6)), .val (.int tl), .val (.int sl), .val (.int t0), .val (.int t1), .val (.int ((((i2.toUInt32 >>> ((8 : Int32) &&& 31).toUInt32).toInt32) &&& (255 : Int32)).toUInt32.toUInt16.toUInt32.toInt32)), .unset, .unset, .unset, .unset, .unset, .unset] [(.int i2)])) _
        refine XS.bipush X302.here hx rfl (hb hby at_100) ?_
        show Steps p.tables e below (T302.setTop (mkF m 102 #[.val (.int i0), .val (.int i1), .val (.int i2), .val (.int i3), .val (.int idx), .val (.ref (own_k idx k0 k1 k2 k3 k4 k5 k6)), .val (.int tl), .val (.int sl), .val (.int t0), .val (.int t1), .val (.int ((((i2.toUInt32 >>> ((8 : Int32) &&& 31).toUInt32).toInt32) &&& (255 : Int32)).toUInt32.toUInt16.toUInt32.toInt32)), .unset, .unset, .unset, .unset, .unset, .unset] [(.int (16 : Int32)), (.int i2)])) _
        refine XS.iushr X302.here hx rfl (hb hby at_102) rfl ?_
        show Steps p.tables e below (T302.setTop (mkF m 103 #[.val (.int i0), .val (.int i1), .val (.int i2), .val (.int i3), .val (.int idx), .val (.ref (own_k idx k0 k1 k2 k3 k4 k5 k6)), .val (.int tl), .val (.int sl), .val (.int t0), .val (.int t1), .val (.int ((((i2.toUInt32 >>> ((8 : Int32) &&& 31).toUInt32).toInt32) &&& (255 : Int32)).toUInt32.toUInt16.toUInt32.toInt32)), .unset, .unset, .unset, .unset, .unset, .unset] [(.int ((i2.toUInt32 >>> ((16 : Int32) &&& 31).toUInt32).toInt32))])) _
        refine XS.sipush X302.here hx rfl (hb hby at_103) ?_
        show Steps p.tables e below (T302.setTop (mkF m 106 #[.val (.int i0), .val (.int i1), .val (.int i2), .val (.int i3), .val (.int idx), .val (.ref (own_k idx k0 k1 k2 k3 k4 k5 k6)), .val (.int tl), .val (.int sl), .val (.int t0), .val (.int t1), .val (.int ((((i2.toUInt32 >>> ((8 : Int32) &&& 31).toUInt32).toInt32) &&& (255 : Int32)).toUInt32.toUInt16.toUInt32.toInt32)), .unset, .unset, .unset, .unset, .unset, .unset] [(.int (255 : Int32)), (.int ((i2.toUInt32 >>> ((16 : Int32) &&& 31).toUInt32).toInt32))])) _
        refine XS.iand X302.here hx rfl (hb hby at_106) rfl ?_
        show Steps p.tables e below (T302.setTop (mkF m 107 #[.val (.int i0), .val (.int i1), .val (.int i2), .val (.int i3), .val (.int idx), .val (.ref (own_k idx k0 k1 k2 k3 k4 k5 k6)), .val (.int tl), .val (.int sl), .val (.int t0), .val (.int t1), .val (.int ((((i2.toUInt32 >>> ((8 : Int32) &&& 31).toUInt32).toInt32) &&& (255 : Int32)).toUInt32.toUInt16.toUInt32.toInt32)), .unset, .unset, .unset, .unset, .unset, .unset] [(.int (((i2.toUInt32 >>> ((16 : Int32) &&& 31).toUInt32).toInt32) &&& (255 : Int32)))])) _
        refine XS.i2c X302.here hx rfl (hb hby at_107) rfl ?_
        show Steps p.tables e below (T302.setTop (mkF m 108 #[.val (.int i0), .val (.int i1), .val (.int i2), .val (.int i3), .val (.int idx), .val (.ref (own_k idx k0 k1 k2 k3 k4 k5 k6)), .val (.int tl), .val (.int sl), .val (.int t0), .val (.int t1), .val (.int ((((i2.toUInt32 >>> ((8 : Int32) &&& 31).toUInt32).toInt32) &&& (255 : Int32)).toUInt32.toUInt16.toUInt32.toInt32)), .unset, .unset, .unset, .unset, .unset, .unset] [(.int ((((i2.toUInt32 >>> ((16 : Int32) &&& 31).toUInt32).toInt32) &&& (255 : Int32)).toUInt32.toUInt16.toUInt32.toInt32))])) _
        refine XS.istore X302.here hx rfl (hb hby at_108) rfl (l' := #[.val (.int i0), .val (.int i1), .val (.int i2), .val (.int i3), .val (.int idx), .val (.ref (own_k idx k0 k1 k2 k3 k4 k5 k6)), .val (.int tl), .val (.int sl), .val (.int t0), .val (.int t1), .val (.int ((((i2.toUInt32 >>> ((8 : Int32) &&& 31).toUInt32).toInt32) &&& (255 : Int32)).toUInt32.toUInt16.toUInt32.toInt32)), .val (.int ((((i2.toUInt32 >>> ((16 : Int32) &&& 31).toUInt32).toInt32) &&& (255 : Int32)).toUInt32.toUInt16.toUInt32.toInt32)), .unset, .unset, .unset, .unset, .unset]) rfl ?_
        show Steps p.tables e below (T302.setTop (mkF m 110 #[.val (.int i0), .val (.int i1), .val (.int i2), .val (.int i3), .val (.int idx), .val (.ref (own_k idx k0 k1 k2 k3 k4 k5 k6)), .val (.int tl), .val (.int sl), .val (.int t0), .val (.int t1), .val (.int ((((i2.toUInt32 >>> ((8 : Int32) &&& 31).toUInt32).toInt32) &&& (255 : Int32)).toUInt32.toUInt16.toUInt32.toInt32)), .val (.int ((((i2.toUInt32 >>> ((16 : Int32) &&& 31).toUInt32).toInt32) &&& (255 : Int32)).toUInt32.toUInt16.toUInt32.toInt32)), .unset, .unset, .unset, .unset, .unset] [])) _
        exact kk)
      exact ⟨((((i2.toUInt32 >>> ((8 : Int32) &&& 31).toUInt32).toInt32) &&& (255 : Int32)).toUInt32.toUInt16.toUInt32.toInt32), ((((i2.toUInt32 >>> ((16 : Int32) &&& 31).toUInt32).toInt32) &&& (255 : Int32)).toUInt32.toUInt16.toUInt32.toInt32), own_lat8 _, own_lat8 _, pre309⟩
    · have pre310 : ∀ t, Steps p.tables e below (T302.setTop (mkF m 110 #[.val (.int i0), .val (.int i1), .val (.int i2), .val (.int i3), .val (.int idx), .val (.ref (own_k idx k0 k1 k2 k3 k4 k5 k6)), .val (.int tl), .val (.int sl), .val (.int t0), .val (.int t1), .val (.int ((t0 ^^^ (((i2.toUInt32 >>> ((1 : Int32) &&& 31).toUInt32).toInt32) &&& (33 : Int32))).toUInt32.toUInt16.toUInt32.toInt32)), .val (.int ((t1 ^^^ (((i2.toUInt32 >>> ((7 : Int32) &&& 31).toUInt32).toInt32) &&& (33 : Int32))).toUInt32.toUInt16.toUInt32.toInt32)), .unset, .unset, .unset, .unset, .unset] [])) t → Steps p.tables e below (s₁.setTop (entryFrame m #[(.int i0), (.int i1), (.int i2), (.int i3)] maxLocals)) t := fun t kk => pre307 t (by
        refine XS.ifNo X302.here hx rfl (hb hby at_57) rfl ((if0 _ _).trans (feq (hb1 : ¬ ((i2 &&& (1 : Int32)) = (0 : Int32)))).1) ?_
        show Steps p.tables e below (T302.setTop (mkF m 60 #[.val (.int i0), .val (.int i1), .val (.int i2), .val (.int i3), .val (.int idx), .val (.ref (own_k idx k0 k1 k2 k3 k4 k5 k6)), .val (.int tl), .val (.int sl), .val (.int t0), .val (.int t1), .unset, .unset, .unset, .unset, .unset, .unset, .unset] [])) _
        refine XS.iload X302.here hx rfl (hb hby at_60) rfl ?_
        show Steps p.tables e below (T302.setTop (mkF m 62 #[.val (.int i0), .val (.int i1), .val (.int i2), .val (.int i3), .val (.int idx), .val (.ref (own_k idx k0 k1 k2 k3 k4 k5 k6)), .val (.int tl), .val (.int sl), .val (.int t0), .val (.int t1), .unset, .unset, .unset, .unset, .unset, .unset, .unset] [(.int t0)])) _
        refine XS.iloadN X302.here hx rfl (hb hby at_62) rfl ?_
        show Steps p.tables e below (T302.setTop (mkF m 63 #[.val (.int i0), .val (.int i1), .val (.int i2), .val (.int i3), .val (.int idx), .val (.ref (own_k idx k0 k1 k2 k3 k4 k5 k6)), .val (.int tl), .val (.int sl), .val (.int t0), .val (.int t1), .unset, .unset, .unset, .unset, .unset, .unset, .unset] [(.int i2), (.int t0)])) _
        refine XS.iconst X302.here hx rfl (hb hby at_63) ?_
        show Steps p.tables e below (T302.setTop (mkF m 64 #[.val (.int i0), .val (.int i1), .val (.int i2), .val (.int i3), .val (.int idx), .val (.ref (own_k idx k0 k1 k2 k3 k4 k5 k6)), .val (.int tl), .val (.int sl), .val (.int t0), .val (.int t1), .unset, .unset, .unset, .unset, .unset, .unset, .unset] [(.int (1 : Int32)), (.int i2), (.int t0)])) _
        refine XS.iushr X302.here hx rfl (hb hby at_64) rfl ?_
        show Steps p.tables e below (T302.setTop (mkF m 65 #[.val (.int i0), .val (.int i1), .val (.int i2), .val (.int i3), .val (.int idx), .val (.ref (own_k idx k0 k1 k2 k3 k4 k5 k6)), .val (.int tl), .val (.int sl), .val (.int t0), .val (.int t1), .unset, .unset, .unset, .unset, .unset, .unset, .unset] [(.int ((i2.toUInt32 >>> ((1 : Int32) &&& 31).toUInt32).toInt32)), (.int t0)])) _
        refine XS.bipush X302.here hx rfl (hb hby at_65) ?_
        show Steps p.tables e below (T302.setTop (mkF m 67 #[.val (.int i0), .val (.int i1), .val (.int i2), .val (.int i3), .val (.int idx), .val (.ref (own_k idx k0 k1 k2 k3 k4 k5 k6)), .val (.int tl), .val (.int sl), .val (.int t0), .val (.int t1), .unset, .unset, .unset, .unset, .unset, .unset, .unset] [(.int (33 : Int32)), (.int ((i2.toUInt32 >>> ((1 : Int32) &&& 31).toUInt32).toInt32)), (.int t0)])) _
        refine XS.iand X302.here hx rfl (hb hby at_67) rfl ?_
        show Steps p.tables e below (T302.setTop (mkF m 68 #[.val (.int i0), .val (.int i1), .val (.int i2), .val (.int i3), .val (.int idx), .val (.ref (own_k idx k0 k1 k2 k3 k4 k5 k6)), .val (.int tl), .val (.int sl), .val (.int t0), .val (.int t1), .unset, .unset, .unset, .unset, .unset, .unset, .unset] [(.int (((i2.toUInt32 >>> ((1 : Int32) &&& 31).toUInt32).toInt32) &&& (33 : Int32))), (.int t0)])) _
        refine XS.ixor X302.here hx rfl (hb hby at_68) rfl ?_
        show Steps p.tables e below (T302.setTop (mkF m 69 #[.val (.int i0), .val (.int i1), .val (.int i2), .val (.int i3), .val (.int idx), .val (.ref (own_k idx k0 k1 k2 k3 k4 k5 k6)), .val (.int tl), .val (.int sl), .val (.int t0), .val (.int t1), .unset, .unset, .unset, .unset, .unset, .unset, .unset] [(.int (t0 ^^^ (((i2.toUInt32 >>> ((1 : Int32) &&& 31).toUInt32).toInt32) &&& (33 : Int32))))])) _
        refine XS.i2c X302.here hx rfl (hb hby at_69) rfl ?_
        show Steps p.tables e below (T302.setTop (mkF m 70 #[.val (.int i0), .val (.int i1), .val (.int i2), .val (.int i3), .val (.int idx), .val (.ref (own_k idx k0 k1 k2 k3 k4 k5 k6)), .val (.int tl), .val (.int sl), .val (.int t0), .val (.int t1), .unset, .unset, .unset, .unset, .unset, .unset, .unset] [(.int ((t0 ^^^ (((i2.toUInt32 >>> ((1 : Int32) &&& 31).toUInt32).toInt32) &&& (33 : Int32))).toUInt32.toUInt16.toUInt32.toInt32))])) _
        refine XS.istore X302.here hx rfl (hb hby at_70) rfl (l' := #[.val (.int i0), .val (.int i1), .val (.int i2), .val (.int i3), .val (.int idx), .val (.ref (own_k idx k0 k1 k2 k3 k4 k5 k6)), .val (.int tl), .val (.int sl), .val (.int t0), .val (.int t1), .val (.int ((t0 ^^^ (((i2.toUInt32 >>> ((1 : Int32) &&& 31).toUInt32).toInt32) &&& (33 : Int32))).toUInt32.toUInt16.toUInt32.toInt32)), .unset, .unset, .unset, .unset, .unset, .unset]) rfl ?_
        show Steps p.tables e below (T302.setTop (mkF m 72 #[.val (.int i0), .val (.int i1), .val (.int i2), .val (.int i3), .val (.int idx), .val (.ref (own_k idx k0 k1 k2 k3 k4 k5 k6)), .val (.int tl), .val (.int sl), .val (.int t0), .val (.int t1), .val (.int ((t0 ^^^ (((i2.toUInt32 >>> ((1 : Int32) &&& 31).toUInt32).toInt32) &&& (33 : Int32))).toUInt32.toUInt16.toUInt32.toInt32)), .unset, .unset, .unset, .unset, .unset, .unset] [])) _
        refine XS.iload X302.here hx rfl (hb hby at_72) rfl ?_
        show Steps p.tables e below (T302.setTop (mkF m 74 #[.val (.int i0), .val (.int i1), .val (.int i2), .val (.int i3), .val (.int idx), .val (.ref (own_k idx k0 k1 k2 k3 k4 k5 k6)), .val (.int tl), .val (.int sl), .val (.int t0), .val (.int t1), .val (.int ((t0 ^^^ (((i2.toUInt32 >>> ((1 : Int32) &&& 31).toUInt32).toInt32) &&& (33 : Int32))).toUInt32.toUInt16.toUInt32.toInt32)), .unset, .unset, .unset, .unset, .unset, .unset] [(.int t1)])) _
        refine XS.iloadN X302.here hx rfl (hb hby at_74) rfl ?_
        show Steps p.tables e below (T302.setTop (mkF m 75 #[.val (.int i0), .val (.int i1), .val (.int i2), .val (.int i3), .val (.int idx), .val (.ref (own_k idx k0 k1 k2 k3 k4 k5 k6)), .val (.int tl), .val (.int sl), .val (.int t0), .val (.int t1), .val (.int ((t0 ^^^ (((i2.toUInt32 >>> ((1 : Int32) &&& 31).toUInt32).toInt32) &&& (33 : Int32))).toUInt32.toUInt16.toUInt32.toInt32)), .unset, .unset, .unset, .unset, .unset, .unset] [(.int i2), (.int t1)])) _
        refine XS.bipush X302.here hx rfl (hb hby at_75) ?_
        show Steps p.tables e below (T302.setTop (mkF m 77 #[.val (.int i0), .val (.int i1), .val (.int i2), .val (.int i3), .val (.int idx), .val (.ref (own_k idx k0 k1 k2 k3 k4 k5 k6)), .val (.int tl), .val (.int sl), .val (.int t0), .val (.int t1), .val (.int ((t0 ^^^ (((i2.toUInt32 >>> ((1 : Int32) &&& 31).toUInt32).toInt32) &&& (33 : Int32))).toUInt32.toUInt16.toUInt32.toInt32)), .unset, .unset, .unset, .unset, .unset, .unset] [(.int (7 : Int32)), (.int i2), (.int t1)])) _
        refine XS.iushr X302.here hx rfl (hb hby at_77) rfl ?_
        show Steps p.tables e below (T302.setTop (mkF m 78 #[.val (.int i0), .val (.int i1), .val (.int i2), .val (.int i3), .val (.int idx), .val (.ref (own_k idx k0 k1 k2 k3 k4 k5 k6)), .val (.int tl), .val (.int sl), .val (.int t0), .val (.int t1), .val (.int ((t0 ^^^ (((i2.toUInt32 >>> ((1 : Int32) &&& 31).toUInt32).toInt32) &&& (33 : Int32))).toUInt32.toUInt16.toUInt32.toInt32)), .unset, .unset, .unset, .unset, .unset, .unset] [(.int ((i2.toUInt32 >>> ((7 : Int32) &&& 31).toUInt32).toInt32)), (.int t1)])) _
        refine XS.bipush X302.here hx rfl (hb hby at_78) ?_
        show Steps p.tables e below (T302.setTop (mkF m 80 #[.val (.int i0), .val (.int i1), .val (.int i2), .val (.int i3), .val (.int idx), .val (.ref (own_k idx k0 k1 k2 k3 k4 k5 k6)), .val (.int tl), .val (.int sl), .val (.int t0), .val (.int t1), .val (.int ((t0 ^^^ (((i2.toUInt32 >>> ((1 : Int32) &&& 31).toUInt32).toInt32) &&& (33 : Int32))).toUInt32.toUInt16.toUInt32.toInt32)), .unset, .unset, .unset, .unset, .unset, .unset] [(.int (33 : Int32)), (.int ((i2.toUInt32 >>> ((7 : Int32) &&& 31).toUInt32).toInt32)), (.int t1)])) _
        refine XS.iand X302.here hx rfl (hb hby at_80) rfl ?_
        show Steps p.tables e below (T302.setTop (mkF m 81 #[.val (.int i0), .val (.int i1), .val (.int i2), .val (.int i3), .val (.int idx), .val (.ref (own_k idx k0 k1 k2 k3 k4 k5 k6)), .val (.int tl), .val (.int sl), .val (.int t0), .val (.int t1), .val (.int ((t0 ^^^ (((i2.toUInt32 >>> ((1 : Int32) &&& 31).toUInt32).toInt32) &&& (33 : Int32))).toUInt32.toUInt16.toUInt32.toInt32)), .unset, .unset, .unset, .unset, .unset, .unset] [(.int (((i2.toUInt32 >>> ((7 : Int32) &&& 31).toUInt32).toInt32) &&& (33 : Int32))), (.int t1)])) _
        refine XS.ixor X302.here hx rfl (hb hby at_81) rfl ?_
        show Steps p.tables e below (T302.setTop (mkF m 82 #[.val (.int i0), .val (.int i1), .val (.int i2), .val (.int i3), .val (.int idx), .val (.ref (own_k idx k0 k1 k2 k3 k4 k5 k6)), .val (.int tl), .val (.int sl), .val (.int t0), .val (.int t1), .val (.int ((t0 ^^^ (((i2.toUInt32 >>> ((1 : Int32) &&& 31).toUInt32).toInt32) &&& (33 : Int32))).toUInt32.toUInt16.toUInt32.toInt32)), .unset, .unset, .unset, .unset, .unset, .unset] [(.int (t1 ^^^ (((i2.toUInt32 >>> ((7 : Int32) &&& 31).toUInt32).toInt32) &&& (33 : Int32))))])) _
        refine XS.i2c X302.here hx rfl (hb hby at_82) rfl ?_
        show Steps p.tables e below (T302.setTop (mkF m 83 #[.val (.int i0), .val (.int i1), .val (.int i2), .val (.int i3), .val (.int idx), .val (.ref (own_k idx k0 k1 k2 k3 k4 k5 k6)), .val (.int tl), .val (.int sl), .val (.int t0), .val (.int t1), .val (.int ((t0 ^^^ (((i2.toUInt32 >>> ((1 : Int32) &&& 31).toUInt32).toInt32) &&& (33 : Int32))).toUInt32.toUInt16.toUInt32.toInt32)), .unset, .unset, .unset, .unset, .unset, .unset] [(.int ((t1 ^^^ (((i2.toUInt32 >>> ((7 : Int32) &&& 31).toUInt32).toInt32) &&& (33 : Int32))).toUInt32.toUInt16.toUInt32.toInt32))])) _
        refine XS.istore X302.here hx rfl (hb hby at_83) rfl (l' := #[.val (.int i0), .val (.int i1), .val (.int i2), .val (.int i3), .val (.int idx), .val (.ref (own_k idx k0 k1 k2 k3 k4 k5 k6)), .val (.int tl), .val (.int sl), .val (.int t0), .val (.int t1), .val (.int ((t0 ^^^ (((i2.toUInt32 >>> ((1 : Int32) &&& 31).toUInt32).toInt32) &&& (33 : Int32))).toUInt32.toUInt16.toUInt32.toInt32)), .val (.int ((t1 ^^^ (((i2.toUInt32 >>> ((7 : Int32) &&& 31).toUInt32).toInt32) &&& (33 : Int32))).toUInt32.toUInt16.toUInt32.toInt32)), .unset, .unset, .unset, .unset, .unset]) rfl ?_
        show Steps p.tables e below (T302.setTop (mkF m 85 #[.val (.int i0), .val (.int i1), .val (.int i2), .val (.int i3), .val (.int idx), .val (.ref (own_k idx k0 k1 k2 k3 k4 k5 k6)), .val (.int tl), .val (.int sl), .val (.int t0), .val (.int t1), .val (.int ((t0 ^^^ (((i2.toUInt32 >>> ((1 : Int32) &&& 31).toUInt32).toInt32) &&& (33 : Int32))).toUInt32.toUInt16.toUInt32.toInt32)), .val (.int ((t1 ^^^ (((i2.toUInt32 >>> ((7 : Int32) &&& 31).toUInt32).toInt32) &&& (33 : Int32))).toUInt32.toUInt16.toUInt32.toInt32)), .unset, .unset, .unset, .unset, .unset] [])) _
        refine XS.goto X302.here hx rfl (pc0 := 85) (pc' := 110) rfl (hb hby at_85) (by decide) (by decide) ?_
        show Steps p.tables e below (T302.setTop (mkF m 110 #[.val (.int i0), .val (.int i1), .val (.int i2), .val (.int i3), .val (.int idx), .val (.ref (own_k idx k0 k1 k2 k3 k4 k5 k6)), .val (.int tl), .val (.int sl), .val (.int t0), .val (.int t1), .val (.int ((t0 ^^^ (((i2.toUInt32 >>> ((1 : Int32) &&& 31).toUInt32).toInt32) &&& (33 : Int32))).toUInt32.toUInt16.toUInt32.toInt32)), .val (.int ((t1 ^^^ (((i2.toUInt32 >>> ((7 : Int32) &&& 31).toUInt32).toInt32) &&& (33 : Int32))).toUInt32.toUInt16.toUInt32.toInt32)), .unset, .unset, .unset, .unset, .unset] [])) _
        exact kk)
      exact ⟨((t0 ^^^ (((i2.toUInt32 >>> ((1 : Int32) &&& 31).toUInt32).toInt32) &&& (33 : Int32))).toUInt32.toUInt16.toUInt32.toInt32), ((t1 ^^^ (((i2.toUInt32 >>> ((7 : Int32) &&& 31).toUInt32).toInt32) &&& (33 : Int32))).toUInt32.toUInt16.toUInt32.toInt32), own_latx _ _ ht0, own_latx _ _ ht1, pre310⟩
  obtain ⟨_, _, ⟨T311, L311, k311, n311⟩, -, X311', hS311', hz311', ⟨Lc311, hQ311, l311, y311, z311, ch311⟩, st311⟩ := callSS X302 hx (y := (⟨"com/example/holdfast/holdfast/jpql/TokenIsSymbolPinLaw", "make", "(ICC)Ljava/lang/String;"⟩ : MethodName)) hown0 (mvT hZ0 (hw _ (List.mem_of_getElem? (i := 8) rfl))) (mvT hZ0 (hw _ (List.mem_of_getElem? (i := 9) rfl))) (mvT hZ0 (hw _ (List.mem_of_getElem? (i := 3) rfl))) (mvT hZ0 (hw _ (List.mem_of_getElem? (i := 10) rfl))) (by decide) (backOfSH (W := 0) (rm_make l Z a0 hw [] tl t0 t1 G h0 n0 Z0 q0 hCS q2 (htl) (ht0.1) (ht1.1) (ht0.2) (ht1.2)) hZ0 (hw _ (List.mem_of_getElem? (i := 10) rfl)) (hw _ (List.mem_of_getElem? (i := 3) rfl)) (by decide) (by decide) (own_EW hw) CR0.1) (g := (mkF m 116 #[.val (.int i0), .val (.int i1), .val (.int i2), .val (.int i3), .val (.int idx), .val (.ref (own_k idx k0 k1 k2 k3 k4 k5 k6)), .val (.int tl), .val (.int sl), .val (.int t0), .val (.int t1), .val (.int s0), .val (.int s1), .unset, .unset, .unset, .unset, .unset] [(.int t1), (.int t0), (.int tl)])) rfl (by rw [hml]; rfl) (argsL := [(.int tl), (.int t0), (.int t1)]) (rest := []) (lenOf pd_4 rfl) rfl (by show 2 * 0 + _ ≤ _; exact Nat.le_of_eq rfl) (hb hby at_116) (fun _ _ => ⟨rfl, e302, (by decide : 0 + 6 ≤ _), (by decide : 0 + 12 ≤ _)⟩)
  dsimp only [Pt.U, Pt.locs, Pt.cells, Pt.slots] at X311' l311 y311 z311 st311 hQ311 hS311' hz311' ch311
  subst l311 y311 z311
  obtain ⟨xr_311, tt_311, kt_311, nn_311, vs_311, rfl, Nq311, K311, f311_0, f311_1, f311_2, f311_3, f311_4, f311_5⟩ := hQ311
  have N311 := Fr.app N302 Nq311
  obtain ⟨X311, hS311, hZ311, hown311⟩ := rebS hS0 (by rw [e302]; exact hk0) X311' hS311' hz311' hZ0 hown0
  have CR312 : CHr Z [("java/lang/String", 7)] s.vm h0 T311.vm T311.heap := CR0.trans ch311
  have c313 : Old Z n0 T311.heap := (q2.keep K311 all0)
  obtain ⟨_, _, ⟨T314, L314, k314, n314⟩, -, X314', hS314', hz314', ⟨Lc314, hQ314, l314, y314, z314, ch314⟩, st314⟩ := callSS X311 hx (y := (⟨"com/example/holdfast/holdfast/jpql/TokenIsSymbolPinLaw", "make", "(ICC)Ljava/lang/String;"⟩ : MethodName)) hown311 (mvT hZ311 (hw _ (List.mem_of_getElem? (i := 8) rfl))) (mvT hZ311 (hw _ (List.mem_of_getElem? (i := 9) rfl))) (mvT hZ311 (hw _ (List.mem_of_getElem? (i := 3) rfl))) (mvT hZ311 (hw _ (List.mem_of_getElem? (i := 10) rfl))) (by decide) (backOfSH (W := 0) (rm_make l Z a0 hw [] sl s0 s1 G T311.heap n0 (Nat.le_trans Z0 K311.1) q0 hCS c313 (hsl) (hs0.1) (hs1.1) (hs0.2) (hs1.2)) hZ311 (hw _ (List.mem_of_getElem? (i := 10) rfl)) (hw _ (List.mem_of_getElem? (i := 3) rfl)) (by decide) (by decide) (own_EW hw) CR312.1) (g := (mkF m 127 #[.val (.int i0), .val (.int i1), .val (.int i2), .val (.int i3), .val (.int idx), .val (.ref (own_k idx k0 k1 k2 k3 k4 k5 k6)), .val (.int tl), .val (.int sl), .val (.int t0), .val (.int t1), .val (.int s0), .val (.int s1), .val (.ref xr_311), .unset, .unset, .unset, .unset] [(.int s1), (.int s0), (.int sl)])) rfl (by rw [hml]; rfl) (argsL := [(.int sl), (.int s0), (.int s1)]) (rest := []) (lenOf pd_4 rfl) rfl (by show 2 * 0 + _ ≤ _; exact Nat.le_of_eq rfl) (hb hby at_127) (fun _ _ => ⟨rfl, rfl, (by decide : 6 + 6 ≤ _), (by decide : 12 + 12 ≤ _)⟩)
  dsimp only [Pt.U, Pt.locs, Pt.cells, Pt.slots] at X314' l314 y314 z314 st314 hQ314 hS314' hz314' ch314
  subst l314 y314 z314
  obtain ⟨xr_314, tt_314, kt_314, nn_314, vs_314, rfl, Nq314, K314, f314_0, f314_1, f314_2, f314_3, f314_4, f314_5⟩ := hQ314
  have N314 := Fr.app N311 Nq314
  obtain ⟨X314, hS314, hZ314, hown314⟩ := rebS hS311 (Nat.le_refl _) X314' hS314' hz314' hZ311 hown311
  have CR315 : CHr Z [("java/lang/String", 7)] s.vm h0 T314.vm T314.heap := CR312.trans ch314
  obtain ⟨T316, h316, X316, e316, E316, A316, D316, -, st316⟩ := newO X314 hx hZ314 hown314 (hw _ (List.mem_of_getElem? (i := 44) rfl)) (hw _ (List.mem_of_getElem? (i := 45) rfl)) (hw _ (List.mem_of_getElem? (i := 46) rfl)) rfl (g := (mkF m 132 #[.val (.int i0), .val (.int i1), .val (.int i2), .val (.int i3), .val (.int idx), .val (.ref (own_k idx k0 k1 k2 k3 k4 k5 k6)), .val (.int tl), .val (.int sl), .val (.int t0), .val (.int t1), .val (.int s0), .val (.int s1), .val (.ref xr_311), .val (.ref xr_314), .unset, .unset, .unset] [])) rfl (hb hby at_132) (by decide) (by decide)
  obtain ⟨b316, g316⟩ : ∃ z, z = T314.heap.size := ⟨_, rfl⟩
  rw [← g316] at A316 D316 st316
  have D316_kind : Fld Z h316 b316 "com/example/holdfast/holdfast/jpql/Scanner$Token" "kind" "Lcom/example/holdfast/holdfast/jpql/Scanner$Kind;" .null := D316 (Or.inr (hw _ (List.mem_of_getElem? (i := 52) rfl))) (ty := (.object "com/example/holdfast/holdfast/jpql/Scanner$Kind")) (by decide)
  have D316_text : Fld Z h316 b316 "com/example/holdfast/holdfast/jpql/Scanner$Token" "text" "Ljava/lang/String;" .null := D316 (Or.inr (hw _ (List.mem_of_getElem? (i := 54) rfl))) (ty := (.object "java/lang/String")) (by decide)
  have D316_position : Fld Z h316 b316 "com/example/holdfast/holdfast/jpql/Scanner$Token" "position" "I" (.int (0 : Int32)) := D316 (Or.inr (hw _ (List.mem_of_getElem? (i := 56) rfl))) (ty := .int) (by decide)
  have D316_end : Fld Z h316 b316 "com/example/holdfast/holdfast/jpql/Scanner$Token" "end" "I" (.int (0 : Int32)) := D316 (Or.inr (hw _ (List.mem_of_getElem? (i := 58) rfl))) (ty := .int) (by decide)
  have ge317 : n0 ≤ b316 := Nat.le_trans Z0 (Nat.le_trans (Nat.le_trans K311.1 K314.1) (Nat.le_of_eq g316.symm))
  obtain ⟨_, _, ⟨T318, L318, k318, n318⟩, -, X318, ⟨Lc318, hQ318, l318, y318, z318⟩, st318⟩ := X316.specialBack hx (y := (⟨"com/example/holdfast/holdfast/jpql/Scanner$Token", "<init>", "(Lcom/example/holdfast/holdfast/jpql/Scanner$Kind;Ljava/lang/String;II)V"⟩ : MethodName)) rfl hown314 (mvT hZ314 (hw _ (List.mem_of_getElem? (i := 47) rfl))) (mvT hZ314 (hw _ (List.mem_of_getElem? (i := 48) rfl))) (mvT hZ314 (hw _ (List.mem_of_getElem? (i := 49) rfl))) (by decide) (backOf (W := 1) (rm_tokI l Z a0 hw [] b316 (own_k idx k0 k1 k2 k3 k4 k5 k6) xr_311 i1 i2 h316 n0 (Nat.le_trans Z0 (Nat.le_trans (Nat.le_trans K311.1 K314.1) E316.1)) A316 D316_kind D316_text D316_position D316_end ge317) hZ314 (hw _ (List.mem_of_getElem? (i := 49) rfl)) (hw _ (List.mem_of_getElem? (i := 46) rfl)) (by decide) (by decide)) (g := (mkF m 142 #[.val (.int i0), .val (.int i1), .val (.int i2), .val (.int i3), .val (.int idx), .val (.ref (own_k idx k0 k1 k2 k3 k4 k5 k6)), .val (.int tl), .val (.int sl), .val (.int t0), .val (.int t1), .val (.int s0), .val (.int s1), .val (.ref xr_311), .val (.ref xr_314), .unset, .unset, .unset] [(.int i2), (.int i1), (.ref xr_311), (.ref (own_k idx k0 k1 k2 k3 k4 k5 k6)), (.ref b316), (.ref b316)])) rfl (by rw [hml]; rfl) (Steps.refl _) (a := b316) (argsL := [(.ref (own_k idx k0 k1 k2 k3 k4 k5 k6)), (.ref xr_311), (.int i1), (.int i2)]) (rest := [(.ref b316)]) (lenOf pd_5 rfl) rfl (by show 2 * 0 + _ ≤ _; exact Nat.le_of_eq rfl) (hb hby at_142) (fun _ _ => ⟨rfl, e316, (by decide : 13 + 0 ≤ _), (by decide : 28 + 0 ≤ _)⟩)
  dsimp only [Pt.U, Pt.locs, Pt.cells, Pt.slots] at X318 l318 y318 z318 st318 hQ318
  subst l318 y318 z318
  obtain ⟨rfl, Nq318, K318, f318_0, f318_1⟩ := hQ318
  have N318 := Fr.app N314 Nq318
  have c319 : Exa Z T318.heap b316 "com/example/holdfast/holdfast/jpql/Scanner$Token" := (A316.keep K318)
  have c320 : Old Z n0 T318.heap := (((c313.keep K314 all0).ext E316).keep K318 (allS ge317 all0))
  have c321 : Exa Z T318.heap xr_311 "java/lang/String" := (((f311_1.keep K314).ext E316).keep K318)
  have ne322 : xr_311 ≠ b316 := Nat.ne_of_lt (Nat.lt_of_lt_of_le (Nat.lt_of_lt_of_le f311_2.lt K314.1) (Nat.le_of_eq g316.symm))
  have c323 : Fld Z T318.heap xr_311 "java/lang/String" "value" "[B" (.ref tt_311) := (((f311_2.keep K314 nin0).ext E316).keep K318 (ninS ne322 nin0))
  have c324 : Fld Z T318.heap xr_311 "java/lang/String" "coder" "B" (.int (0 : Int32)) := (((f311_3.keep K314 nin0).ext E316).keep K318 (ninS ne322 nin0))
  have ne325 : tt_311 ≠ b316 := Nat.ne_of_lt (Nat.lt_of_lt_of_le (Nat.lt_of_lt_of_le f311_4.lt K314.1) (Nat.le_of_eq g316.symm))
  have c326 : Arv Z T318.heap tt_311 kt_311 .byte nn_311 vs_311 (.int 0) := (((f311_4.keep K314 nin0).ext E316).keep K318 (ninS ne325 nin0))
  have c327 : Exa Z T318.heap xr_314 "java/lang/String" := ((f314_1.ext E316).keep K318)
  have ne328 : xr_314 ≠ b316 := Nat.ne_of_lt (Nat.lt_of_lt_of_le f314_2.lt (Nat.le_of_eq g316.symm))
  have c329 : Fld Z T318.heap xr_314 "java/lang/String" "value" "[B" (.ref tt_314) := ((f314_2.ext E316).keep K318 (ninS ne328 nin0))
  have c330 : Fld Z T318.heap xr_314 "java/lang/String" "coder" "B" (.int (0 : Int32)) := ((f314_3.ext E316).keep K318 (ninS ne328 nin0))
  have ne331 : tt_314 ≠ b316 := Nat.ne_of_lt (Nat.lt_of_lt_of_le f314_4.lt (Nat.le_of_eq g316.symm))
  have c332 : Arv Z T318.heap tt_314 kt_314 .byte nn_314 vs_314 (.int 0) := ((f314_4.ext E316).keep K318 (ninS ne331 nin0))
  obtain ⟨cq333, kq333, q333a, q333b, q333c⟩ := isOf hZ314 rfl c319
  obtain ⟨_, _, ⟨T333, L333, k333, n333⟩, -, X333, ⟨Lc333, hQ333, l333, y333, z333⟩, st333⟩ := X318.virtualBack hx (y := (⟨"com/example/holdfast/holdfast/jpql/Scanner$Token", "isSymbol", "(Ljava/lang/String;)Z"⟩ : MethodName)) (z := (⟨"com/example/holdfast/holdfast/jpql/Scanner$Token", "isSymbol", "(Ljava/lang/String;)Z"⟩ : MethodName)) hown314 (mvT hZ314 (hw _ (List.mem_of_getElem? (i := 59) rfl))) (mvT hZ314 (hw _ (List.mem_of_getElem? (i := 60) rfl))) (notFace_of_selects (args := #[]) (mvT hZ314 (hw _ (List.mem_of_getElem? (i := 62) rfl)))) (mvT hZ314 (hw _ (List.mem_of_getElem? (i := 62) rfl))) (mvT hZ314 (hw _ (List.mem_of_getElem? (i := 61) rfl))) (by decide) (backOf (W := 0) (rm_isSym l Z a0 hw [] b316 xr_314 (own_k idx k0 k1 k2 k3 k4 k5 k6) k5 xr_311 G tt_311 kt_311 nn_311 vs_311 (own_cs tl t0 t1) tt_314 kt_314 nn_314 vs_314 (own_cs sl s0 s1) T318.heap n0 (Nat.le_trans Z0 (Nat.le_trans (Nat.le_trans (Nat.le_trans K311.1 K314.1) E316.1) K318.1)) q0 hCS c320 q8 f318_0 f318_1 c321 c323 c324 c326 (f311_5) (own_csb _ _ _ ht0 ht1) (own_csl _ _ _) c327 c329 c330 c332 (f314_5) (own_csb _ _ _ hs0 hs1) (own_csl _ _ _)) hZ314 (hw _ (List.mem_of_getElem? (i := 63) rfl)) (hw _ (List.mem_of_getElem? (i := 46) rfl)) (by decide) (by decide)) q333a q333c (g := (mkF m 151 #[.val (.int i0), .val (.int i1), .val (.int i2), .val (.int i3), .val (.int idx), .val (.ref (own_k idx k0 k1 k2 k3 k4 k5 k6)), .val (.int tl), .val (.int sl), .val (.int t0), .val (.int t1), .val (.int s0), .val (.int s1), .val (.ref xr_311), .val (.ref xr_314), .val (.ref b316), .unset, .unset] [(.ref xr_314), (.ref b316)])) rfl (by rw [hml]; rfl) (Steps.refl _) (argsL := [(.ref xr_314)]) (rest := []) (lenOf pd_6 rfl) rfl (by show 2 * 0 + _ ≤ _; exact Nat.le_of_eq rfl) (hb hby at_151) (fun _ _ => ⟨rfl, rfl, (by decide : 13 + 0 ≤ _), (by decide : 28 + 0 ≤ _)⟩)
  dsimp only [Pt.U, Pt.locs, Pt.cells, Pt.slots] at X333 l333 y333 z333 st333 hQ333
  subst l333 y333 z333
  obtain ⟨rv_333, rfl, Nq333, e333, f333_0⟩ := hQ333
  have N333 := Fr.app N318 Nq333
  have hx5 := own_exp idx tl sl t0 t1 s0 s1 rv_333 _ _ (own_k5 idx k0 k1 k2 k3 k4 k5 k6 hid hdist) htl hsl f333_0
  have pre334 : ∀ t, Steps p.tables e below (T333.setTop (mkF m 159 #[.val (.int i0), .val (.int i1), .val (.int i2), .val (.int i3), .val (.int idx), .val (.ref (own_k idx k0 k1 k2 k3 k4 k5 k6)), .val (.int tl), .val (.int sl), .val (.int t0), .val (.int t1), .val (.int s0), .val (.int s1), .val (.ref xr_311), .val (.ref xr_314), .val (.ref b316), .val (.int rv_333), .unset] [(.int (5 : Int32)), (.int idx)])) t → Steps p.tables e below (s₁.setTop (entryFrame m #[(.int i0), (.int i1), (.int i2), (.int i3)] maxLocals)) t := fun t kk => pre308 t (by
    refine XS.iload X302.here hx rfl (hb hby at_110) rfl ?_
    show Steps p.tables e below (T302.setTop (mkF m 112 #[.val (.int i0), .val (.int i1), .val (.int i2), .val (.int i3), .val (.int idx), .val (.ref (own_k idx k0 k1 k2 k3 k4 k5 k6)), .val (.int tl), .val (.int sl), .val (.int t0), .val (.int t1), .val (.int s0), .val (.int s1), .unset, .unset, .unset, .unset, .unset] [(.int tl)])) _
    refine XS.iload X302.here hx rfl (hb hby at_112) rfl ?_
    show Steps p.tables e below (T302.setTop (mkF m 114 #[.val (.int i0), .val (.int i1), .val (.int i2), .val (.int i3), .val (.int idx), .val (.ref (own_k idx k0 k1 k2 k3 k4 k5 k6)), .val (.int tl), .val (.int sl), .val (.int t0), .val (.int t1), .val (.int s0), .val (.int s1), .unset, .unset, .unset, .unset, .unset] [(.int t0), (.int tl)])) _
    refine XS.iload X302.here hx rfl (hb hby at_114) rfl ?_
    show Steps p.tables e below (T302.setTop (mkF m 116 #[.val (.int i0), .val (.int i1), .val (.int i2), .val (.int i3), .val (.int idx), .val (.ref (own_k idx k0 k1 k2 k3 k4 k5 k6)), .val (.int tl), .val (.int sl), .val (.int t0), .val (.int t1), .val (.int s0), .val (.int s1), .unset, .unset, .unset, .unset, .unset] [(.int t1), (.int t0), (.int tl)])) _
    refine st311.trans ?_
    show Steps p.tables e below (T311.setTop (mkF m 119 #[.val (.int i0), .val (.int i1), .val (.int i2), .val (.int i3), .val (.int idx), .val (.ref (own_k idx k0 k1 k2 k3 k4 k5 k6)), .val (.int tl), .val (.int sl), .val (.int t0), .val (.int t1), .val (.int s0), .val (.int s1), .unset, .unset, .unset, .unset, .unset] [(.ref xr_311)])) _
    refine XS.astore X311.here hx rfl (hb hby at_119) rfl rfl (l' := #[.val (.int i0), .val (.int i1), .val (.int i2), .val (.int i3), .val (.int idx), .val (.ref (own_k idx k0 k1 k2 k3 k4 k5 k6)), .val (.int tl), .val (.int sl), .val (.int t0), .val (.int t1), .val (.int s0), .val (.int s1), .val (.ref xr_311), .unset, .unset, .unset, .unset]) rfl ?_
    show Steps p.tables e below (T311.setTop (mkF m 121 #[.val (.int i0), .val (.int i1), .val (.int i2), .val (.int i3), .val (.int idx), .val (.ref (own_k idx k0 k1 k2 k3 k4 k5 k6)), .val (.int tl), .val (.int sl), .val (.int t0), .val (.int t1), .val (.int s0), .val (.int s1), .val (.ref xr_311), .unset, .unset, .unset, .unset] [])) _
    refine XS.iload X311.here hx rfl (hb hby at_121) rfl ?_
    show Steps p.tables e below (T311.setTop (mkF m 123 #[.val (.int i0), .val (.int i1), .val (.int i2), .val (.int i3), .val (.int idx), .val (.ref (own_k idx k0 k1 k2 k3 k4 k5 k6)), .val (.int tl), .val (.int sl), .val (.int t0), .val (.int t1), .val (.int s0), .val (.int s1), .val (.ref xr_311), .unset, .unset, .unset, .unset] [(.int sl)])) _
    refine XS.iload X311.here hx rfl (hb hby at_123) rfl ?_
    show Steps p.tables e below (T311.setTop (mkF m 125 #[.val (.int i0), .val (.int i1), .val (.int i2), .val (.int i3), .val (.int idx), .val (.ref (own_k idx k0 k1 k2 k3 k4 k5 k6)), .val (.int tl), .val (.int sl), .val (.int t0), .val (.int t1), .val (.int s0), .val (.int s1), .val (.ref xr_311), .unset, .unset, .unset, .unset] [(.int s0), (.int sl)])) _
    refine XS.iload X311.here hx rfl (hb hby at_125) rfl ?_
    show Steps p.tables e below (T311.setTop (mkF m 127 #[.val (.int i0), .val (.int i1), .val (.int i2), .val (.int i3), .val (.int idx), .val (.ref (own_k idx k0 k1 k2 k3 k4 k5 k6)), .val (.int tl), .val (.int sl), .val (.int t0), .val (.int t1), .val (.int s0), .val (.int s1), .val (.ref xr_311), .unset, .unset, .unset, .unset] [(.int s1), (.int s0), (.int sl)])) _
    refine st314.trans ?_
    show Steps p.tables e below (T314.setTop (mkF m 130 #[.val (.int i0), .val (.int i1), .val (.int i2), .val (.int i3), .val (.int idx), .val (.ref (own_k idx k0 k1 k2 k3 k4 k5 k6)), .val (.int tl), .val (.int sl), .val (.int t0), .val (.int t1), .val (.int s0), .val (.int s1), .val (.ref xr_311), .unset, .unset, .unset, .unset] [(.ref xr_314)])) _
    refine XS.astore X314.here hx rfl (hb hby at_130) rfl rfl (l' := #[.val (.int i0), .val (.int i1), .val (.int i2), .val (.int i3), .val (.int idx), .val (.ref (own_k idx k0 k1 k2 k3 k4 k5 k6)), .val (.int tl), .val (.int sl), .val (.int t0), .val (.int t1), .val (.int s0), .val (.int s1), .val (.ref xr_311), .val (.ref xr_314), .unset, .unset, .unset]) rfl ?_
    show Steps p.tables e below (T314.setTop (mkF m 132 #[.val (.int i0), .val (.int i1), .val (.int i2), .val (.int i3), .val (.int idx), .val (.ref (own_k idx k0 k1 k2 k3 k4 k5 k6)), .val (.int tl), .val (.int sl), .val (.int t0), .val (.int t1), .val (.int s0), .val (.int s1), .val (.ref xr_311), .val (.ref xr_314), .unset, .unset, .unset] [])) _
    refine st316 _ ?_
    show Steps p.tables e below (T316.setTop (mkF m 135 #[.val (.int i0), .val (.int i1), .val (.int i2), .val (.int i3), .val (.int idx), .val (.ref (own_k idx k0 k1 k2 k3 k4 k5 k6)), .val (.int tl), .val (.int sl), .val (.int t0), .val (.int t1), .val (.int s0), .val (.int s1), .val (.ref xr_311), .val (.ref xr_314), .unset, .unset, .unset] [(.ref b316)])) _
    refine XS.dup X316.here hx rfl (hb hby at_135) rfl rfl ?_
    show Steps p.tables e below (T316.setTop (mkF m 136 #[.val (.int i0), .val (.int i1), .val (.int i2), .val (.int i3), .val (.int idx), .val (.ref (own_k idx k0 k1 k2 k3 k4 k5 k6)), .val (.int tl), .val (.int sl), .val (.int t0), .val (.int t1), .val (.int s0), .val (.int s1), .val (.ref xr_311), .val (.ref xr_314), .unset, .unset, .unset] [(.ref b316), (.ref b316)])) _
    refine XS.aload X316.here hx rfl (hb hby at_136) rfl rfl ?_
    show Steps p.tables e below (T316.setTop (mkF m 138 #[.val (.int i0), .val (.int i1), .val (.int i2), .val (.int i3), .val (.int idx), .val (.ref (own_k idx k0 k1 k2 k3 k4 k5 k6)), .val (.int tl), .val (.int sl), .val (.int t0), .val (.int t1), .val (.int s0), .val (.int s1), .val (.ref xr_311), .val (.ref xr_314), .unset, .unset, .unset] [(.ref (own_k idx k0 k1 k2 k3 k4 k5 k6)), (.ref b316), (.ref b316)])) _
    refine XS.aload X316.here hx rfl (hb hby at_138) rfl rfl ?_
    show Steps p.tables e below (T316.setTop (mkF m 140 #[.val (.int i0), .val (.int i1), .val (.int i2), .val (.int i3), .val (.int idx), .val (.ref (own_k idx k0 k1 k2 k3 k4 k5 k6)), .val (.int tl), .val (.int sl), .val (.int t0), .val (.int t1), .val (.int s0), .val (.int s1), .val (.ref xr_311), .val (.ref xr_314), .unset, .unset, .unset] [(.ref xr_311), (.ref (own_k idx k0 k1 k2 k3 k4 k5 k6)), (.ref b316), (.ref b316)])) _
    refine XS.iloadN X316.here hx rfl (hb hby at_140) rfl ?_
    show Steps p.tables e below (T316.setTop (mkF m 141 #[.val (.int i0), .val (.int i1), .val (.int i2), .val (.int i3), .val (.int idx), .val (.ref (own_k idx k0 k1 k2 k3 k4 k5 k6)), .val (.int tl), .val (.int sl), .val (.int t0), .val (.int t1), .val (.int s0), .val (.int s1), .val (.ref xr_311), .val (.ref xr_314), .unset, .unset, .unset] [(.int i1), (.ref xr_311), (.ref (own_k idx k0 k1 k2 k3 k4 k5 k6)), (.ref b316), (.ref b316)])) _
    refine XS.iloadN X316.here hx rfl (hb hby at_141) rfl ?_
    show Steps p.tables e below (T316.setTop (mkF m 142 #[.val (.int i0), .val (.int i1), .val (.int i2), .val (.int i3), .val (.int idx), .val (.ref (own_k idx k0 k1 k2 k3 k4 k5 k6)), .val (.int tl), .val (.int sl), .val (.int t0), .val (.int t1), .val (.int s0), .val (.int s1), .val (.ref xr_311), .val (.ref xr_314), .unset, .unset, .unset] [(.int i2), (.int i1), (.ref xr_311), (.ref (own_k idx k0 k1 k2 k3 k4 k5 k6)), (.ref b316), (.ref b316)])) _
    refine st318.trans ?_
    show Steps p.tables e below (T318.setTop (mkF m 145 #[.val (.int i0), .val (.int i1), .val (.int i2), .val (.int i3), .val (.int idx), .val (.ref (own_k idx k0 k1 k2 k3 k4 k5 k6)), .val (.int tl), .val (.int sl), .val (.int t0), .val (.int t1), .val (.int s0), .val (.int s1), .val (.ref xr_311), .val (.ref xr_314), .unset, .unset, .unset] [(.ref b316)])) _
    refine XS.astore X318.here hx rfl (hb hby at_145) rfl rfl (l' := #[.val (.int i0), .val (.int i1), .val (.int i2), .val (.int i3), .val (.int idx), .val (.ref (own_k idx k0 k1 k2 k3 k4 k5 k6)), .val (.int tl), .val (.int sl), .val (.int t0), .val (.int t1), .val (.int s0), .val (.int s1), .val (.ref xr_311), .val (.ref xr_314), .val (.ref b316), .unset, .unset]) rfl ?_
    show Steps p.tables e below (T318.setTop (mkF m 147 #[.val (.int i0), .val (.int i1), .val (.int i2), .val (.int i3), .val (.int idx), .val (.ref (own_k idx k0 k1 k2 k3 k4 k5 k6)), .val (.int tl), .val (.int sl), .val (.int t0), .val (.int t1), .val (.int s0), .val (.int s1), .val (.ref xr_311), .val (.ref xr_314), .val (.ref b316), .unset, .unset] [])) _
    refine XS.aload X318.here hx rfl (hb hby at_147) rfl rfl ?_
    show Steps p.tables e below (T318.setTop (mkF m 149 #[.val (.int i0), .val (.int i1), .val (.int i2), .val (.int i3), .val (.int idx), .val (.ref (own_k idx k0 k1 k2 k3 k4 k5 k6)), .val (.int tl), .val (.int sl), .val (.int t0), .val (.int t1), .val (.int s0), .val (.int s1), .val (.ref xr_311), .val (.ref xr_314), .val (.ref b316), .unset, .unset] [(.ref b316)])) _
    refine XS.aload X318.here hx rfl (hb hby at_149) rfl rfl ?_
    show Steps p.tables e below (T318.setTop (mkF m 151 #[.val (.int i0), .val (.int i1), .val (.int i2), .val (.int i3), .val (.int idx), .val (.ref (own_k idx k0 k1 k2 k3 k4 k5 k6)), .val (.int tl), .val (.int sl), .val (.int t0), .val (.int t1), .val (.int s0), .val (.int s1), .val (.ref xr_311), .val (.ref xr_314), .val (.ref b316), .unset, .unset] [(.ref xr_314), (.ref b316)])) _
    refine st333.trans ?_
    show Steps p.tables e below (T333.setTop (mkF m 154 #[.val (.int i0), .val (.int i1), .val (.int i2), .val (.int i3), .val (.int idx), .val (.ref (own_k idx k0 k1 k2 k3 k4 k5 k6)), .val (.int tl), .val (.int sl), .val (.int t0), .val (.int t1), .val (.int s0), .val (.int s1), .val (.ref xr_311), .val (.ref xr_314), .val (.ref b316), .unset, .unset] [(.int rv_333)])) _
    refine XS.istore X333.here hx rfl (hb hby at_154) rfl (l' := #[.val (.int i0), .val (.int i1), .val (.int i2), .val (.int i3), .val (.int idx), .val (.ref (own_k idx k0 k1 k2 k3 k4 k5 k6)), .val (.int tl), .val (.int sl), .val (.int t0), .val (.int t1), .val (.int s0), .val (.int s1), .val (.ref xr_311), .val (.ref xr_314), .val (.ref b316), .val (.int rv_333), .unset]) rfl ?_
    show Steps p.tables e below (T333.setTop (mkF m 156 #[.val (.int i0), .val (.int i1), .val (.int i2), .val (.int i3), .val (.int idx), .val (.ref (own_k idx k0 k1 k2 k3 k4 k5 k6)), .val (.int tl), .val (.int sl), .val (.int t0), .val (.int t1), .val (.int s0), .val (.int s1), .val (.ref xr_311), .val (.ref xr_314), .val (.ref b316), .val (.int rv_333), .unset] [])) _
    refine XS.iload X333.here hx rfl (hb hby at_156) rfl ?_
    show Steps p.tables e below (T333.setTop (mkF m 158 #[.val (.int i0), .val (.int i1), .val (.int i2), .val (.int i3), .val (.int idx), .val (.ref (own_k idx k0 k1 k2 k3 k4 k5 k6)), .val (.int tl), .val (.int sl), .val (.int t0), .val (.int t1), .val (.int s0), .val (.int s1), .val (.ref xr_311), .val (.ref xr_314), .val (.ref b316), .val (.int rv_333), .unset] [(.int idx)])) _
    refine XS.iconst X333.here hx rfl (hb hby at_158) ?_
    show Steps p.tables e below (T333.setTop (mkF m 159 #[.val (.int i0), .val (.int i1), .val (.int i2), .val (.int i3), .val (.int idx), .val (.ref (own_k idx k0 k1 k2 k3 k4 k5 k6)), .val (.int tl), .val (.int sl), .val (.int t0), .val (.int t1), .val (.int s0), .val (.int s1), .val (.ref xr_311), .val (.ref xr_314), .val (.ref b316), .val (.int rv_333), .unset] [(.int (5 : Int32)), (.int idx)])) _
    exact kk)
  by_cases g1 : idx = (5 : Int32)
  · have pre336 : ∀ t, Steps p.tables e below (T333.setTop (mkF m 166 #[.val (.int i0), .val (.int i1), .val (.int i2), .val (.int i3), .val (.int idx), .val (.ref (own_k idx k0 k1 k2 k3 k4 k5 k6)), .val (.int tl), .val (.int sl), .val (.int t0), .val (.int t1), .val (.int s0), .val (.int s1), .val (.ref xr_311), .val (.ref xr_314), .val (.ref b316), .val (.int rv_333), .unset] [(.int sl), (.int tl)])) t → Steps p.tables e below (s₁.setTop (entryFrame m #[(.int i0), (.int i1), (.int i2), (.int i3)] maxLocals)) t := fun t kk => pre334 t (by
      refine XS.icmpNo X333.here hx rfl (hb hby at_159) rfl (teq (g1 : idx = (5 : Int32))).2 ?_
      show Steps p.tables e below (T333.setTop (mkF m 162 #[.val (.int i0), .val (.int i1), .val (.int i2), .val (.int i3), .val (.int idx), .val (.ref (own_k idx k0 k1 k2 k3 k4 k5 k6)), .val (.int tl), .val (.int sl), .val (.int t0), .val (.int t1), .val (.int s0), .val (.int s1), .val (.ref xr_311), .val (.ref xr_314), .val (.ref b316), .val (.int rv_333), .unset] [])) _
      refine XS.iload X333.here hx rfl (hb hby at_162) rfl ?_
      show Steps p.tables e below (T333.setTop (mkF m 164 #[.val (.int i0), .val (.int i1), .val (.int i2), .val (.int i3), .val (.int idx), .val (.ref (own_k idx k0 k1 k2 k3 k4 k5 k6)), .val (.int tl), .val (.int sl), .val (.int t0), .val (.int t1), .val (.int s0), .val (.int s1), .val (.ref xr_311), .val (.ref xr_314), .val (.ref b316), .val (.int rv_333), .unset] [(.int tl)])) _
      refine XS.iload X333.here hx rfl (hb hby at_164) rfl ?_
      show Steps p.tables e below (T333.setTop (mkF m 166 #[.val (.int i0), .val (.int i1), .val (.int i2), .val (.int i3), .val (.int idx), .val (.ref (own_k idx k0 k1 k2 k3 k4 k5 k6)), .val (.int tl), .val (.int sl), .val (.int t0), .val (.int t1), .val (.int s0), .val (.int s1), .val (.ref xr_311), .val (.ref xr_314), .val (.ref b316), .val (.int rv_333), .unset] [(.int sl), (.int tl)])) _
      exact kk)
    by_cases g2 : tl = sl
    · have pre338 : ∀ t, Steps p.tables e below (T333.setTop (mkF m 172 #[.val (.int i0), .val (.int i1), .val (.int i2), .val (.int i3), .val (.int idx), .val (.ref (own_k idx k0 k1 k2 k3 k4 k5 k6)), .val (.int tl), .val (.int sl), .val (.int t0), .val (.int t1), .val (.int s0), .val (.int s1), .val (.ref xr_311), .val (.ref xr_314), .val (.ref b316), .val (.int rv_333), .unset] [(.int (1 : Int32)), (.int tl)])) t → Steps p.tables e below (s₁.setTop (entryFrame m #[(.int i0), (.int i1), (.int i2), (.int i3)] maxLocals)) t := fun t kk => pre336 t (by
        refine XS.icmpNo X333.here hx rfl (hb hby at_166) rfl (teq (g2 : tl = sl)).2 ?_
        show Steps p.tables e below (T333.setTop (mkF m 169 #[.val (.int i0), .val (.int i1), .val (.int i2), .val (.int i3), .val (.int idx), .val (.ref (own_k idx k0 k1 k2 k3 k4 k5 k6)), .val (.int tl), .val (.int sl), .val (.int t0), .val (.int t1), .val (.int s0), .val (.int s1), .val (.ref xr_311), .val (.ref xr_314), .val (.ref b316), .val (.int rv_333), .unset] [])) _
        refine XS.iload X333.here hx rfl (hb hby at_169) rfl ?_
        show Steps p.tables e below (T333.setTop (mkF m 171 #[.val (.int i0), .val (.int i1), .val (.int i2), .val (.int i3), .val (.int idx), .val (.ref (own_k idx k0 k1 k2 k3 k4 k5 k6)), .val (.int tl), .val (.int sl), .val (.int t0), .val (.int t1), .val (.int s0), .val (.int s1), .val (.ref xr_311), .val (.ref xr_314), .val (.ref b316), .val (.int rv_333), .unset] [(.int tl)])) _
        refine XS.iconst X333.here hx rfl (hb hby at_171) ?_
        show Steps p.tables e below (T333.setTop (mkF m 172 #[.val (.int i0), .val (.int i1), .val (.int i2), .val (.int i3), .val (.int idx), .val (.ref (own_k idx k0 k1 k2 k3 k4 k5 k6)), .val (.int tl), .val (.int sl), .val (.int t0), .val (.int t1), .val (.int s0), .val (.int s1), .val (.ref xr_311), .val (.ref xr_314), .val (.ref b316), .val (.int rv_333), .unset] [(.int (1 : Int32)), (.int tl)])) _
        exact kk)
      by_cases g3 : tl < (1 : Int32)
      · have hfin : rv_333 = (1 : Int32) := by rw [hx5]; exact if_pos ⟨g1, g2, Or.inl g3, Or.inl (own_lt12 g3)⟩
        have pre339 : ∀ t, Steps p.tables e below (T333.setTop (mkF m 202 #[.val (.int i0), .val (.int i1), .val (.int i2), .val (.int i3), .val (.int idx), .val (.ref (own_k idx k0 k1 k2 k3 k4 k5 k6)), .val (.int tl), .val (.int sl), .val (.int t0), .val (.int t1), .val (.int s0), .val (.int s1), .val (.ref xr_311), .val (.ref xr_314), .val (.ref b316), .val (.int rv_333), .val (.int (1 : Int32))] [])) t → Steps p.tables e below (s₁.setTop (entryFrame m #[(.int i0), (.int i1), (.int i2), (.int i3)] maxLocals)) t := fun t kk => pre338 t (by
          refine XS.icmpYes X333.here hx rfl (pc0 := 172) (pc' := 182) rfl (hb hby at_172) rfl (tlt (g3 : tl < (1 : Int32))).1 (by decide) (by decide) ?_
          show Steps p.tables e below (T333.setTop (mkF m 182 #[.val (.int i0), .val (.int i1), .val (.int i2), .val (.int i3), .val (.int idx), .val (.ref (own_k idx k0 k1 k2 k3 k4 k5 k6)), .val (.int tl), .val (.int sl), .val (.int t0), .val (.int t1), .val (.int s0), .val (.int s1), .val (.ref xr_311), .val (.ref xr_314), .val (.ref b316), .val (.int rv_333), .unset] [])) _
          refine XS.iload X333.here hx rfl (hb hby at_182) rfl ?_
          show Steps p.tables e below (T333.setTop (mkF m 184 #[.val (.int i0), .val (.int i1), .val (.int i2), .val (.int i3), .val (.int idx), .val (.ref (own_k idx k0 k1 k2 k3 k4 k5 k6)), .val (.int tl), .val (.int sl), .val (.int t0), .val (.int t1), .val (.int s0), .val (.int s1), .val (.ref xr_311), .val (.ref xr_314), .val (.ref b316), .val (.int rv_333), .unset] [(.int tl)])) _
          refine XS.iconst X333.here hx rfl (hb hby at_184) ?_
          show Steps p.tables e below (T333.setTop (mkF m 185 #[.val (.int i0), .val (.int i1), .val (.int i2), .val (.int i3), .val (.int idx), .val (.ref (own_k idx k0 k1 k2 k3 k4 k5 k6)), .val (.int tl), .val (.int sl), .val (.int t0), .val (.int t1), .val (.int s0), .val (.int s1), .val (.ref xr_311), .val (.ref xr_314), .val (.ref b316), .val (.int rv_333), .unset] [(.int (2 : Int32)), (.int tl)])) _
          refine XS.icmpYes X333.here hx rfl (pc0 := 185) (pc' := 195) rfl (hb hby at_185) rfl (tlt (own_lt12 g3 : tl < (2 : Int32))).1 (by decide) (by decide) ?_
          show Steps p.tables e below (T333.setTop (mkF m 195 #[.val (.int i0), .val (.int i1), .val (.int i2), .val (.int i3), .val (.int idx), .val (.ref (own_k idx k0 k1 k2 k3 k4 k5 k6)), .val (.int tl), .val (.int sl), .val (.int t0), .val (.int t1), .val (.int s0), .val (.int s1), .val (.ref xr_311), .val (.ref xr_314), .val (.ref b316), .val (.int rv_333), .unset] [])) _
          refine XS.iconst X333.here hx rfl (hb hby at_195) ?_
          show Steps p.tables e below (T333.setTop (mkF m 196 #[.val (.int i0), .val (.int i1), .val (.int i2), .val (.int i3), .val (.int idx), .val (.ref (own_k idx k0 k1 k2 k3 k4 k5 k6)), .val (.int tl), .val (.int sl), .val (.int t0), .val (.int t1), .val (.int s0), .val (.int s1), .val (.ref xr_311), .val (.ref xr_314), .val (.ref b316), .val (.int rv_333), .unset] [(.int (1 : Int32))])) _
          refine XS.goto X333.here hx rfl (pc0 := 196) (pc' := 200) rfl (hb hby at_196) (by decide) (by decide) ?_
          show Steps p.tables e below (T333.setTop (mkF m 200 #[.val (.int i0), .val (.int i1), .val (.int i2), .val (.int i3), .val (.int idx), .val (.ref (own_k idx k0 k1 k2 k3 k4 k5 k6)), .val (.int tl), .val (.int sl), .val (.int t0), .val (.int t1), .val (.int s0), .val (.int s1), .val (.ref xr_311), .val (.ref xr_314), .val (.ref b316), .val (.int rv_333), .unset] [(.int (1 : Int32))])) _
          refine XS.istore X333.here hx rfl (hb hby at_200) rfl (l' := #[.val (.int i0), .val (.int i1), .val (.int i2), .val (.int i3), .val (.int idx), .val (.ref (own_k idx k0 k1 k2 k3 k4 k5 k6)), .val (.int tl), .val (.int sl), .val (.int t0), .val (.int t1), .val (.int s0), .val (.int s1), .val (.ref xr_311), .val (.ref xr_314), .val (.ref b316), .val (.int rv_333), .val (.int (1 : Int32))]) rfl ?_
          show Steps p.tables e below (T333.setTop (mkF m 202 #[.val (.int i0), .val (.int i1), .val (.int i2), .val (.int i3), .val (.int idx), .val (.ref (own_k idx k0 k1 k2 k3 k4 k5 k6)), .val (.int tl), .val (.int sl), .val (.int t0), .val (.int t1), .val (.int s0), .val (.int s1), .val (.ref xr_311), .val (.ref xr_314), .val (.ref b316), .val (.int rv_333), .val (.int (1 : Int32))] [])) _
          exact kk)
        subst hfin
        obtain ⟨fs, hr, hrun, hended, hEnd⟩ := X333.leaveW hS314 (by rw [e333]; exact (Nat.le_trans (Nat.le_refl _) (Nat.le_trans E316.1 K318.1))) (v := some (.int (1 : Int32))) (fun h => by rw [Bd.returns] at h; cases h)
        refine ⟨_, _, pre339 _ ?_, hrun, hended, _, _, rfl, ?_, hEnd.1, hEnd.2.1, hEnd.2.2.1, hEnd.2.2.2.mono (by decide) (by decide)⟩
        · refine XS.iload X333.here hx rfl (hb hby at_202) rfl ?_
          show Steps p.tables e below (T333.setTop (mkF m 204 #[.val (.int i0), .val (.int i1), .val (.int i2), .val (.int i3), .val (.int idx), .val (.ref (own_k idx k0 k1 k2 k3 k4 k5 k6)), .val (.int tl), .val (.int sl), .val (.int t0), .val (.int t1), .val (.int s0), .val (.int s1), .val (.ref xr_311), .val (.ref xr_314), .val (.ref b316), .val (.int (1 : Int32)), .val (.int (1 : Int32))] [(.int (1 : Int32))])) _
          refine XS.iload X333.here hx rfl (hb hby at_204) rfl ?_
          show Steps p.tables e below (T333.setTop (mkF m 206 #[.val (.int i0), .val (.int i1), .val (.int i2), .val (.int i3), .val (.int idx), .val (.ref (own_k idx k0 k1 k2 k3 k4 k5 k6)), .val (.int tl), .val (.int sl), .val (.int t0), .val (.int t1), .val (.int s0), .val (.int s1), .val (.ref xr_311), .val (.ref xr_314), .val (.ref b316), .val (.int (1 : Int32)), .val (.int (1 : Int32))] [(.int (1 : Int32)), (.int (1 : Int32))])) _
          refine XS.icmpNo X333.here hx rfl (hb hby at_206) rfl (teq ((by decide) : (1 : Int32) = (1 : Int32))).2 ?_
          show Steps p.tables e below (T333.setTop (mkF m 209 #[.val (.int i0), .val (.int i1), .val (.int i2), .val (.int i3), .val (.int idx), .val (.ref (own_k idx k0 k1 k2 k3 k4 k5 k6)), .val (.int tl), .val (.int sl), .val (.int t0), .val (.int t1), .val (.int s0), .val (.int s1), .val (.ref xr_311), .val (.ref xr_314), .val (.ref b316), .val (.int (1 : Int32)), .val (.int (1 : Int32))] [])) _
          refine XS.iconst X333.here hx rfl (hb hby at_209) ?_
          show Steps p.tables e below (T333.setTop (mkF m 210 #[.val (.int i0), .val (.int i1), .val (.int i2), .val (.int i3), .val (.int idx), .val (.ref (own_k idx k0 k1 k2 k3 k4 k5 k6)), .val (.int tl), .val (.int sl), .val (.int t0), .val (.int t1), .val (.int s0), .val (.int s1), .val (.ref xr_311), .val (.ref xr_314), .val (.ref b316), .val (.int (1 : Int32)), .val (.int (1 : Int32))] [(.int (1 : Int32))])) _
          refine XS.goto X333.here hx rfl (pc0 := 210) (pc' := 214) rfl (hb hby at_210) (by decide) (by decide) ?_
          show Steps p.tables e below (T333.setTop (mkF m 214 #[.val (.int i0), .val (.int i1), .val (.int i2), .val (.int i3), .val (.int idx), .val (.ref (own_k idx k0 k1 k2 k3 k4 k5 k6)), .val (.int tl), .val (.int sl), .val (.int t0), .val (.int t1), .val (.int s0), .val (.int s1), .val (.ref xr_311), .val (.ref xr_314), .val (.ref b316), .val (.int (1 : Int32)), .val (.int (1 : Int32))] [(.int (1 : Int32))])) _
          exact retN X333 hx (t := .boolean) Bd.returns (by simp) (hb hby at_214) hr
        · show Q_law Z i0 i1 i2 i3 G k0 k1 k2 k3 k4 k5 k6 h0 n0 _ T333.heap _
          rw [e333]
          exact ⟨rfl, N333⟩
      · have pre340 : ∀ t, Steps p.tables e below (T333.setTop (mkF m 179 #[.val (.int i0), .val (.int i1), .val (.int i2), .val (.int i3), .val (.int idx), .val (.ref (own_k idx k0 k1 k2 k3 k4 k5 k6)), .val (.int tl), .val (.int sl), .val (.int t0), .val (.int t1), .val (.int s0), .val (.int s1), .val (.ref xr_311), .val (.ref xr_314), .val (.ref b316), .val (.int rv_333), .unset] [(.int s0), (.int t0)])) t → Steps p.tables e below (s₁.setTop (entryFrame m #[(.int i0), (.int i1), (.int i2), (.int i3)] maxLocals)) t := fun t kk => pre338 t (by
          refine XS.icmpNo X333.here hx rfl (hb hby at_172) rfl (flt (g3 : ¬ (tl < (1 : Int32)))).1 ?_
          show Steps p.tables e below (T333.setTop (mkF m 175 #[.val (.int i0), .val (.int i1), .val (.int i2), .val (.int i3), .val (.int idx), .val (.ref (own_k idx k0 k1 k2 k3 k4 k5 k6)), .val (.int tl), .val (.int sl), .val (.int t0), .val (.int t1), .val (.int s0), .val (.int s1), .val (.ref xr_311), .val (.ref xr_314), .val (.ref b316), .val (.int rv_333), .unset] [])) _
          refine XS.iload X333.here hx rfl (hb hby at_175) rfl ?_
          show Steps p.tables e below (T333.setTop (mkF m 177 #[.val (.int i0), .val (.int i1), .val (.int i2), .val (.int i3), .val (.int idx), .val (.ref (own_k idx k0 k1 k2 k3 k4 k5 k6)), .val (.int tl), .val (.int sl), .val (.int t0), .val (.int t1), .val (.int s0), .val (.int s1), .val (.ref xr_311), .val (.ref xr_314), .val (.ref b316), .val (.int rv_333), .unset] [(.int t0)])) _
          refine XS.iload X333.here hx rfl (hb hby at_177) rfl ?_
          show Steps p.tables e below (T333.setTop (mkF m 179 #[.val (.int i0), .val (.int i1), .val (.int i2), .val (.int i3), .val (.int idx), .val (.ref (own_k idx k0 k1 k2 k3 k4 k5 k6)), .val (.int tl), .val (.int sl), .val (.int t0), .val (.int t1), .val (.int s0), .val (.int s1), .val (.ref xr_311), .val (.ref xr_314), .val (.ref b316), .val (.int rv_333), .unset] [(.int s0), (.int t0)])) _
          exact kk)
        by_cases g4 : t0 = s0
        · have pre342 : ∀ t, Steps p.tables e below (T333.setTop (mkF m 185 #[.val (.int i0), .val (.int i1), .val (.int i2), .val (.int i3), .val (.int idx), .val (.ref (own_k idx k0 k1 k2 k3 k4 k5 k6)), .val (.int tl), .val (.int sl), .val (.int t0), .val (.int t1), .val (.int s0), .val (.int s1), .val (.ref xr_311), .val (.ref xr_314), .val (.ref b316), .val (.int rv_333), .unset] [(.int (2 : Int32)), (.int tl)])) t → Steps p.tables e below (s₁.setTop (entryFrame m #[(.int i0), (.int i1), (.int i2), (.int i3)] maxLocals)) t := fun t kk => pre340 t (by
            refine XS.icmpNo X333.here hx rfl (hb hby at_179) rfl (teq (g4 : t0 = s0)).2 ?_
            show Steps p.tables e below (T333.setTop (mkF m 182 #[.val (.int i0), .val (.int i1), .val (.int i2), .val (.int i3), .val (.int idx), .val (.ref (own_k idx k0 k1 k2 k3 k4 k5 k6)), .val (.int tl), .val (.int sl), .val (.int t0), .val (.int t1), .val (.int s0), .val (.int s1), .val (.ref xr_311), .val (.ref xr_314), .val (.ref b316), .val (.int rv_333), .unset] [])) _
            refine XS.iload X333.here hx rfl (hb hby at_182) rfl ?_
            show Steps p.tables e below (T333.setTop (mkF m 184 #[.val (.int i0), .val (.int i1), .val (.int i2), .val (.int i3), .val (.int idx), .val (.ref (own_k idx k0 k1 k2 k3 k4 k5 k6)), .val (.int tl), .val (.int sl), .val (.int t0), .val (.int t1), .val (.int s0), .val (.int s1), .val (.ref xr_311), .val (.ref xr_314), .val (.ref b316), .val (.int rv_333), .unset] [(.int tl)])) _
            refine XS.iconst X333.here hx rfl (hb hby at_184) ?_
            show Steps p.tables e below (T333.setTop (mkF m 185 #[.val (.int i0), .val (.int i1), .val (.int i2), .val (.int i3), .val (.int idx), .val (.ref (own_k idx k0 k1 k2 k3 k4 k5 k6)), .val (.int tl), .val (.int sl), .val (.int t0), .val (.int t1), .val (.int s0), .val (.int s1), .val (.ref xr_311), .val (.ref xr_314), .val (.ref b316), .val (.int rv_333), .unset] [(.int (2 : Int32)), (.int tl)])) _
            exact kk)
          by_cases g5 : tl < (2 : Int32)
          · have hfin : rv_333 = (1 : Int32) := by rw [hx5]; exact if_pos ⟨g1, g2, Or.inr g4, Or.inl g5⟩
            have pre343 : ∀ t, Steps p.tables e below (T333.setTop (mkF m 202 #[.val (.int i0), .val (.int i1), .val (.int i2), .val (.int i3), .val (.int idx), .val (.ref (own_k idx k0 k1 k2 k3 k4 k5 k6)), .val (.int tl), .val (.int sl), .val (.int t0), .val (.int t1), .val (.int s0), .val (.int s1), .val (.ref xr_311), .val (.ref xr_314), .val (.ref b316), .val (.int rv_333), .val (.int (1 : Int32))] [])) t → Steps p.tables e below (s₁.setTop (entryFrame m #[(.int i0), (.int i1), (.int i2), (.int i3)] maxLocals)) t := fun t kk => pre342 t (by
              refine XS.icmpYes X333.here hx rfl (pc0 := 185) (pc' := 195) rfl (hb hby at_185) rfl (tlt (g5 : tl < (2 : Int32))).1 (by decide) (by decide) ?_
              show Steps p.tables e below (T333.setTop (mkF m 195 #[.val (.int i0), .val (.int i1), .val (.int i2), .val (.int i3), .val (.int idx), .val (.ref (own_k idx k0 k1 k2 k3 k4 k5 k6)), .val (.int tl), .val (.int sl), .val (.int t0), .val (.int t1), .val (.int s0), .val (.int s1), .val (.ref xr_311), .val (.ref xr_314), .val (.ref b316), .val (.int rv_333), .unset] [])) _
              refine XS.iconst X333.here hx rfl (hb hby at_195) ?_
              show Steps p.tables e below (T333.setTop (mkF m 196 #[.val (.int i0), .val (.int i1), .val (.int i2), .val (.int i3), .val (.int idx), .val (.ref (own_k idx k0 k1 k2 k3 k4 k5 k6)), .val (.int tl), .val (.int sl), .val (.int t0), .val (.int t1), .val (.int s0), .val (.int s1), .val (.ref xr_311), .val (.ref xr_314), .val (.ref b316), .val (.int rv_333), .unset] [(.int (1 : Int32))])) _
              refine XS.goto X333.here hx rfl (pc0 := 196) (pc' := 200) rfl (hb hby at_196) (by decide) (by decide) ?_
              show Steps p.tables e below (T333.setTop (mkF m 200 #[.val (.int i0), .val (.int i1), .val (.int i2), .val (.int i3), .val (.int idx), .val (.ref (own_k idx k0 k1 k2 k3 k4 k5 k6)), .val (.int tl), .val (.int sl), .val (.int t0), .val (.int t1), .val (.int s0), .val (.int s1), .val (.ref xr_311), .val (.ref xr_314), .val (.ref b316), .val (.int rv_333), .unset] [(.int (1 : Int32))])) _
              refine XS.istore X333.here hx rfl (hb hby at_200) rfl (l' := #[.val (.int i0), .val (.int i1), .val (.int i2), .val (.int i3), .val (.int idx), .val (.ref (own_k idx k0 k1 k2 k3 k4 k5 k6)), .val (.int tl), .val (.int sl), .val (.int t0), .val (.int t1), .val (.int s0), .val (.int s1), .val (.ref xr_311), .val (.ref xr_314), .val (.ref b316), .val (.int rv_333), .val (.int (1 : Int32))]) rfl ?_
              show Steps p.tables e below (T333.setTop (mkF m 202 #[.val (.int i0), .val (.int i1), .val (.int i2), .val (.int i3), .val (.int idx), .val (.ref (own_k idx k0 k1 k2 k3 k4 k5 k6)), .val (.int tl), .val (.int sl), .val (.int t0), .val (.int t1), .val (.int s0), .val (.int s1), .val (.ref xr_311), .val (.ref xr_314), .val (.ref b316), .val (.int rv_333), .val (.int (1 : Int32))] [])) _
              exact kk)
            subst hfin
            obtain ⟨fs, hr, hrun, hended, hEnd⟩ := X333.leaveW hS314 (by rw [e333]; exact (Nat.le_trans (Nat.le_refl _) (Nat.le_trans E316.1 K318.1))) (v := some (.int (1 : Int32))) (fun h => by rw [Bd.returns] at h; cases h)
            refine ⟨_, _, pre343 _ ?_, hrun, hended, _, _, rfl, ?_, hEnd.1, hEnd.2.1, hEnd.2.2.1, hEnd.2.2.2.mono (by decide) (by decide)⟩
            · refine XS.iload X333.here hx rfl (hb hby at_202) rfl ?_
              show Steps p.tables e below (T333.setTop (mkF m 204 #[.val (.int i0), .val (.int i1), .val (.int i2), .val (.int i3), .val (.int idx), .val (.ref (own_k idx k0 k1 k2 k3 k4 k5 k6)), .val (.int tl), .val (.int sl), .val (.int t0), .val (.int t1), .val (.int s0), .val (.int s1), .val (.ref xr_311), .val (.ref xr_314), .val (.ref b316), .val (.int (1 : Int32)), .val (.int (1 : Int32))] [(.int (1 : Int32))])) _
              refine XS.iload X333.here hx rfl (hb hby at_204) rfl ?_
              show Steps p.tables e below (T333.setTop (mkF m 206 #[.val (.int i0), .val (.int i1), .val (.int i2), .val (.int i3), .val (.int idx), .val (.ref (own_k idx k0 k1 k2 k3 k4 k5 k6)), .val (.int tl), .val (.int sl), .val (.int t0), .val (.int t1), .val (.int s0), .val (.int s1), .val (.ref xr_311), .val (.ref xr_314), .val (.ref b316), .val (.int (1 : Int32)), .val (.int (1 : Int32))] [(.int (1 : Int32)), (.int (1 : Int32))])) _
              refine XS.icmpNo X333.here hx rfl (hb hby at_206) rfl (teq ((by decide) : (1 : Int32) = (1 : Int32))).2 ?_
              show Steps p.tables e below (T333.setTop (mkF m 209 #[.val (.int i0), .val (.int i1), .val (.int i2), .val (.int i3), .val (.int idx), .val (.ref (own_k idx k0 k1 k2 k3 k4 k5 k6)), .val (.int tl), .val (.int sl), .val (.int t0), .val (.int t1), .val (.int s0), .val (.int s1), .val (.ref xr_311), .val (.ref xr_314), .val (.ref b316), .val (.int (1 : Int32)), .val (.int (1 : Int32))] [])) _
              refine XS.iconst X333.here hx rfl (hb hby at_209) ?_
              show Steps p.tables e below (T333.setTop (mkF m 210 #[.val (.int i0), .val (.int i1), .val (.int i2), .val (.int i3), .val (.int idx), .val (.ref (own_k idx k0 k1 k2 k3 k4 k5 k6)), .val (.int tl), .val (.int sl), .val (.int t0), .val (.int t1), .val (.int s0), .val (.int s1), .val (.ref xr_311), .val (.ref xr_314), .val (.ref b316), .val (.int (1 : Int32)), .val (.int (1 : Int32))] [(.int (1 : Int32))])) _
              refine XS.goto X333.here hx rfl (pc0 := 210) (pc' := 214) rfl (hb hby at_210) (by decide) (by decide) ?_
              show Steps p.tables e below (T333.setTop (mkF m 214 #[.val (.int i0), .val (.int i1), .val (.int i2), .val (.int i3), .val (.int idx), .val (.ref (own_k idx k0 k1 k2 k3 k4 k5 k6)), .val (.int tl), .val (.int sl), .val (.int t0), .val (.int t1), .val (.int s0), .val (.int s1), .val (.ref xr_311), .val (.ref xr_314), .val (.ref b316), .val (.int (1 : Int32)), .val (.int (1 : Int32))] [(.int (1 : Int32))])) _
              exact retN X333 hx (t := .boolean) Bd.returns (by simp) (hb hby at_214) hr
            · show Q_law Z i0 i1 i2 i3 G k0 k1 k2 k3 k4 k5 k6 h0 n0 _ T333.heap _
              rw [e333]
              exact ⟨rfl, N333⟩
          · have pre344 : ∀ t, Steps p.tables e below (T333.setTop (mkF m 192 #[.val (.int i0), .val (.int i1), .val (.int i2), .val (.int i3), .val (.int idx), .val (.ref (own_k idx k0 k1 k2 k3 k4 k5 k6)), .val (.int tl), .val (.int sl), .val (.int t0), .val (.int t1), .val (.int s0), .val (.int s1), .val (.ref xr_311), .val (.ref xr_314), .val (.ref b316), .val (.int rv_333), .unset] [(.int s1), (.int t1)])) t → Steps p.tables e below (s₁.setTop (entryFrame m #[(.int i0), (.int i1), (.int i2), (.int i3)] maxLocals)) t := fun t kk => pre342 t (by
              refine XS.icmpNo X333.here hx rfl (hb hby at_185) rfl (flt (g5 : ¬ (tl < (2 : Int32)))).1 ?_
              show Steps p.tables e below (T333.setTop (mkF m 188 #[.val (.int i0), .val (.int i1), .val (.int i2), .val (.int i3), .val (.int idx), .val (.ref (own_k idx k0 k1 k2 k3 k4 k5 k6)), .val (.int tl), .val (.int sl), .val (.int t0), .val (.int t1), .val (.int s0), .val (.int s1), .val (.ref xr_311), .val (.ref xr_314), .val (.ref b316), .val (.int rv_333), .unset] [])) _
              refine XS.iload X333.here hx rfl (hb hby at_188) rfl ?_
              show Steps p.tables e below (T333.setTop (mkF m 190 #[.val (.int i0), .val (.int i1), .val (.int i2), .val (.int i3), .val (.int idx), .val (.ref (own_k idx k0 k1 k2 k3 k4 k5 k6)), .val (.int tl), .val (.int sl), .val (.int t0), .val (.int t1), .val (.int s0), .val (.int s1), .val (.ref xr_311), .val (.ref xr_314), .val (.ref b316), .val (.int rv_333), .unset] [(.int t1)])) _
              refine XS.iload X333.here hx rfl (hb hby at_190) rfl ?_
              show Steps p.tables e below (T333.setTop (mkF m 192 #[.val (.int i0), .val (.int i1), .val (.int i2), .val (.int i3), .val (.int idx), .val (.ref (own_k idx k0 k1 k2 k3 k4 k5 k6)), .val (.int tl), .val (.int sl), .val (.int t0), .val (.int t1), .val (.int s0), .val (.int s1), .val (.ref xr_311), .val (.ref xr_314), .val (.ref b316), .val (.int rv_333), .unset] [(.int s1), (.int t1)])) _
              exact kk)
            by_cases g6 : t1 = s1
            · have hfin : rv_333 = (1 : Int32) := by rw [hx5]; exact if_pos ⟨g1, g2, Or.inr g4, Or.inr g6⟩
              have pre346 : ∀ t, Steps p.tables e below (T333.setTop (mkF m 202 #[.val (.int i0), .val (.int i1), .val (.int i2), .val (.int i3), .val (.int idx), .val (.ref (own_k idx k0 k1 k2 k3 k4 k5 k6)), .val (.int tl), .val (.int sl), .val (.int t0), .val (.int t1), .val (.int s0), .val (.int s1), .val (.ref xr_311), .val (.ref xr_314), .val (.ref b316), .val (.int rv_333), .val (.int (1 : Int32))] [])) t → Steps p.tables e below (s₁.setTop (entryFrame m #[(.int i0), (.int i1), (.int i2), (.int i3)] maxLocals)) t := fun t kk => pre344 t (by
                refine XS.icmpNo X333.here hx rfl (hb hby at_192) rfl (teq (g6 : t1 = s1)).2 ?_
                show Steps p.tables e below (T333.setTop (mkF m 195 #[.val (.int i0), .val (.int i1), .val (.int i2), .val (.int i3), .val (.int idx), .val (.ref (own_k idx k0 k1 k2 k3 k4 k5 k6)), .val (.int tl), .val (.int sl), .val (.int t0), .val (.int t1), .val (.int s0), .val (.int s1), .val (.ref xr_311), .val (.ref xr_314), .val (.ref b316), .val (.int rv_333), .unset] [])) _
                refine XS.iconst X333.here hx rfl (hb hby at_195) ?_
                show Steps p.tables e below (T333.setTop (mkF m 196 #[.val (.int i0), .val (.int i1), .val (.int i2), .val (.int i3), .val (.int idx), .val (.ref (own_k idx k0 k1 k2 k3 k4 k5 k6)), .val (.int tl), .val (.int sl), .val (.int t0), .val (.int t1), .val (.int s0), .val (.int s1), .val (.ref xr_311), .val (.ref xr_314), .val (.ref b316), .val (.int rv_333), .unset] [(.int (1 : Int32))])) _
                refine XS.goto X333.here hx rfl (pc0 := 196) (pc' := 200) rfl (hb hby at_196) (by decide) (by decide) ?_
                show Steps p.tables e below (T333.setTop (mkF m 200 #[.val (.int i0), .val (.int i1), .val (.int i2), .val (.int i3), .val (.int idx), .val (.ref (own_k idx k0 k1 k2 k3 k4 k5 k6)), .val (.int tl), .val (.int sl), .val (.int t0), .val (.int t1), .val (.int s0), .val (.int s1), .val (.ref xr_311), .val (.ref xr_314), .val (.ref b316), .val (.int rv_333), .unset] [(.int (1 : Int32))])) _
                refine XS.istore X333.here hx rfl (hb hby at_200) rfl (l' := #[.val (.int i0), .val (.int i1), .val (.int i2), .val (.int i3), .val (.int idx), .val (.ref (own_k idx k0 k1 k2 k3 k4 k5 k6)), .val (.int tl), .val (.int sl), .val (.int t0), .val (.int t1), .val (.int s0), .val (.int s1), .val (.ref xr_311), .val (.ref xr_314), .val (.ref b316), .val (.int rv_333), .val (.int (1 : Int32))]) rfl ?_
                show Steps p.tables e below (T333.setTop (mkF m 202 #[.val (.int i0), .val (.int i1), .val (.int i2), .val (.int i3), .val (.int idx), .val (.ref (own_k idx k0 k1 k2 k3 k4 k5 k6)), .val (.int tl), .val (.int sl), .val (.int t0), .val (.int t1), .val (.int s0), .val (.int s1), .val (.ref xr_311), .val (.ref xr_314), .val (.ref b316), .val (.int rv_333), .val (.int (1 : Int32))] [])) _
                exact kk)
              subst hfin
              obtain ⟨fs, hr, hrun, hended, hEnd⟩ := X333.leaveW hS314 (by rw [e333]; exact (Nat.le_trans (Nat.le_refl _) (Nat.le_trans E316.1 K318.1))) (v := some (.int (1 : Int32))) (fun h => by rw [Bd.returns] at h; cases h)
              refine ⟨_, _, pre346 _ ?_, hrun, hended, _, _, rfl, ?_, hEnd.1, hEnd.2.1, hEnd.2.2.1, hEnd.2.2.2.mono (by decide) (by decide)⟩
              · refine XS.iload X333.here hx rfl (hb hby at_202) rfl ?_
                show Steps p.tables e below (T333.setTop (mkF m 204 #[.val (.int i0), .val (.int i1), .val (.int i2), .val (.int i3), .val (.int idx), .val (.ref (own_k idx k0 k1 k2 k3 k4 k5 k6)), .val (.int tl), .val (.int sl), .val (.int t0), .val (.int t1), .val (.int s0), .val (.int s1), .val (.ref xr_311), .val (.ref xr_314), .val (.ref b316), .val (.int (1 : Int32)), .val (.int (1 : Int32))] [(.int (1 : Int32))])) _
                refine XS.iload X333.here hx rfl (hb hby at_204) rfl ?_
                show Steps p.tables e below (T333.setTop (mkF m 206 #[.val (.int i0), .val (.int i1), .val (.int i2), .val (.int i3), .val (.int idx), .val (.ref (own_k idx k0 k1 k2 k3 k4 k5 k6)), .val (.int tl), .val (.int sl), .val (.int t0), .val (.int t1), .val (.int s0), .val (.int s1), .val (.ref xr_311), .val (.ref xr_314), .val (.ref b316), .val (.int (1 : Int32)), .val (.int (1 : Int32))] [(.int (1 : Int32)), (.int (1 : Int32))])) _
                refine XS.icmpNo X333.here hx rfl (hb hby at_206) rfl (teq ((by decide) : (1 : Int32) = (1 : Int32))).2 ?_
                show Steps p.tables e below (T333.setTop (mkF m 209 #[.val (.int i0), .val (.int i1), .val (.int i2), .val (.int i3), .val (.int idx), .val (.ref (own_k idx k0 k1 k2 k3 k4 k5 k6)), .val (.int tl), .val (.int sl), .val (.int t0), .val (.int t1), .val (.int s0), .val (.int s1), .val (.ref xr_311), .val (.ref xr_314), .val (.ref b316), .val (.int (1 : Int32)), .val (.int (1 : Int32))] [])) _
                refine XS.iconst X333.here hx rfl (hb hby at_209) ?_
                show Steps p.tables e below (T333.setTop (mkF m 210 #[.val (.int i0), .val (.int i1), .val (.int i2), .val (.int i3), .val (.int idx), .val (.ref (own_k idx k0 k1 k2 k3 k4 k5 k6)), .val (.int tl), .val (.int sl), .val (.int t0), .val (.int t1), .val (.int s0), .val (.int s1), .val (.ref xr_311), .val (.ref xr_314), .val (.ref b316), .val (.int (1 : Int32)), .val (.int (1 : Int32))] [(.int (1 : Int32))])) _
                refine XS.goto X333.here hx rfl (pc0 := 210) (pc' := 214) rfl (hb hby at_210) (by decide) (by decide) ?_
                show Steps p.tables e below (T333.setTop (mkF m 214 #[.val (.int i0), .val (.int i1), .val (.int i2), .val (.int i3), .val (.int idx), .val (.ref (own_k idx k0 k1 k2 k3 k4 k5 k6)), .val (.int tl), .val (.int sl), .val (.int t0), .val (.int t1), .val (.int s0), .val (.int s1), .val (.ref xr_311), .val (.ref xr_314), .val (.ref b316), .val (.int (1 : Int32)), .val (.int (1 : Int32))] [(.int (1 : Int32))])) _
                exact retN X333 hx (t := .boolean) Bd.returns (by simp) (hb hby at_214) hr
              · show Q_law Z i0 i1 i2 i3 G k0 k1 k2 k3 k4 k5 k6 h0 n0 _ T333.heap _
                rw [e333]
                exact ⟨rfl, N333⟩
            · have hfin : rv_333 = (0 : Int32) := by rw [hx5]; exact if_neg (fun q => q.2.2.2.elim g5 g6)
              have pre345 : ∀ t, Steps p.tables e below (T333.setTop (mkF m 202 #[.val (.int i0), .val (.int i1), .val (.int i2), .val (.int i3), .val (.int idx), .val (.ref (own_k idx k0 k1 k2 k3 k4 k5 k6)), .val (.int tl), .val (.int sl), .val (.int t0), .val (.int t1), .val (.int s0), .val (.int s1), .val (.ref xr_311), .val (.ref xr_314), .val (.ref b316), .val (.int rv_333), .val (.int (0 : Int32))] [])) t → Steps p.tables e below (s₁.setTop (entryFrame m #[(.int i0), (.int i1), (.int i2), (.int i3)] maxLocals)) t := fun t kk => pre344 t (by
                refine XS.icmpYes X333.here hx rfl (pc0 := 192) (pc' := 199) rfl (hb hby at_192) rfl (feq (g6 : ¬ (t1 = s1))).2 (by decide) (by decide) ?_
                show Steps p.tables e below (T333.setTop (mkF m 199 #[.val (.int i0), .val (.int i1), .val (.int i2), .val (.int i3), .val (.int idx), .val (.ref (own_k idx k0 k1 k2 k3 k4 k5 k6)), .val (.int tl), .val (.int sl), .val (.int t0), .val (.int t1), .val (.int s0), .val (.int s1), .val (.ref xr_311), .val (.ref xr_314), .val (.ref b316), .val (.int rv_333), .unset] [])) _
                refine XS.iconst X333.here hx rfl (hb hby at_199) ?_
                show Steps p.tables e below (T333.setTop (mkF m 200 #[.val (.int i0), .val (.int i1), .val (.int i2), .val (.int i3), .val (.int idx), .val (.ref (own_k idx k0 k1 k2 k3 k4 k5 k6)), .val (.int tl), .val (.int sl), .val (.int t0), .val (.int t1), .val (.int s0), .val (.int s1), .val (.ref xr_311), .val (.ref xr_314), .val (.ref b316), .val (.int rv_333), .unset] [(.int (0 : Int32))])) _
                refine XS.istore X333.here hx rfl (hb hby at_200) rfl (l' := #[.val (.int i0), .val (.int i1), .val (.int i2), .val (.int i3), .val (.int idx), .val (.ref (own_k idx k0 k1 k2 k3 k4 k5 k6)), .val (.int tl), .val (.int sl), .val (.int t0), .val (.int t1), .val (.int s0), .val (.int s1), .val (.ref xr_311), .val (.ref xr_314), .val (.ref b316), .val (.int rv_333), .val (.int (0 : Int32))]) rfl ?_
                show Steps p.tables e below (T333.setTop (mkF m 202 #[.val (.int i0), .val (.int i1), .val (.int i2), .val (.int i3), .val (.int idx), .val (.ref (own_k idx k0 k1 k2 k3 k4 k5 k6)), .val (.int tl), .val (.int sl), .val (.int t0), .val (.int t1), .val (.int s0), .val (.int s1), .val (.ref xr_311), .val (.ref xr_314), .val (.ref b316), .val (.int rv_333), .val (.int (0 : Int32))] [])) _
                exact kk)
              subst hfin
              obtain ⟨fs, hr, hrun, hended, hEnd⟩ := X333.leaveW hS314 (by rw [e333]; exact (Nat.le_trans (Nat.le_refl _) (Nat.le_trans E316.1 K318.1))) (v := some (.int (1 : Int32))) (fun h => by rw [Bd.returns] at h; cases h)
              refine ⟨_, _, pre345 _ ?_, hrun, hended, _, _, rfl, ?_, hEnd.1, hEnd.2.1, hEnd.2.2.1, hEnd.2.2.2.mono (by decide) (by decide)⟩
              · refine XS.iload X333.here hx rfl (hb hby at_202) rfl ?_
                show Steps p.tables e below (T333.setTop (mkF m 204 #[.val (.int i0), .val (.int i1), .val (.int i2), .val (.int i3), .val (.int idx), .val (.ref (own_k idx k0 k1 k2 k3 k4 k5 k6)), .val (.int tl), .val (.int sl), .val (.int t0), .val (.int t1), .val (.int s0), .val (.int s1), .val (.ref xr_311), .val (.ref xr_314), .val (.ref b316), .val (.int (0 : Int32)), .val (.int (0 : Int32))] [(.int (0 : Int32))])) _
                refine XS.iload X333.here hx rfl (hb hby at_204) rfl ?_
                show Steps p.tables e below (T333.setTop (mkF m 206 #[.val (.int i0), .val (.int i1), .val (.int i2), .val (.int i3), .val (.int idx), .val (.ref (own_k idx k0 k1 k2 k3 k4 k5 k6)), .val (.int tl), .val (.int sl), .val (.int t0), .val (.int t1), .val (.int s0), .val (.int s1), .val (.ref xr_311), .val (.ref xr_314), .val (.ref b316), .val (.int (0 : Int32)), .val (.int (0 : Int32))] [(.int (0 : Int32)), (.int (0 : Int32))])) _
                refine XS.icmpNo X333.here hx rfl (hb hby at_206) rfl (teq ((by decide) : (0 : Int32) = (0 : Int32))).2 ?_
                show Steps p.tables e below (T333.setTop (mkF m 209 #[.val (.int i0), .val (.int i1), .val (.int i2), .val (.int i3), .val (.int idx), .val (.ref (own_k idx k0 k1 k2 k3 k4 k5 k6)), .val (.int tl), .val (.int sl), .val (.int t0), .val (.int t1), .val (.int s0), .val (.int s1), .val (.ref xr_311), .val (.ref xr_314), .val (.ref b316), .val (.int (0 : Int32)), .val (.int (0 : Int32))] [])) _
                refine XS.iconst X333.here hx rfl (hb hby at_209) ?_
                show Steps p.tables e below (T333.setTop (mkF m 210 #[.val (.int i0), .val (.int i1), .val (.int i2), .val (.int i3), .val (.int idx), .val (.ref (own_k idx k0 k1 k2 k3 k4 k5 k6)), .val (.int tl), .val (.int sl), .val (.int t0), .val (.int t1), .val (.int s0), .val (.int s1), .val (.ref xr_311), .val (.ref xr_314), .val (.ref b316), .val (.int (0 : Int32)), .val (.int (0 : Int32))] [(.int (1 : Int32))])) _
                refine XS.goto X333.here hx rfl (pc0 := 210) (pc' := 214) rfl (hb hby at_210) (by decide) (by decide) ?_
                show Steps p.tables e below (T333.setTop (mkF m 214 #[.val (.int i0), .val (.int i1), .val (.int i2), .val (.int i3), .val (.int idx), .val (.ref (own_k idx k0 k1 k2 k3 k4 k5 k6)), .val (.int tl), .val (.int sl), .val (.int t0), .val (.int t1), .val (.int s0), .val (.int s1), .val (.ref xr_311), .val (.ref xr_314), .val (.ref b316), .val (.int (0 : Int32)), .val (.int (0 : Int32))] [(.int (1 : Int32))])) _
                exact retN X333 hx (t := .boolean) Bd.returns (by simp) (hb hby at_214) hr
              · show Q_law Z i0 i1 i2 i3 G k0 k1 k2 k3 k4 k5 k6 h0 n0 _ T333.heap _
                rw [e333]
                exact ⟨rfl, N333⟩
        · have hfin : rv_333 = (0 : Int32) := by rw [hx5]; exact if_neg (fun q => q.2.2.1.elim g3 g4)
          have pre341 : ∀ t, Steps p.tables e below (T333.setTop (mkF m 202 #[.val (.int i0), .val (.int i1), .val (.int i2), .val (.int i3), .val (.int idx), .val (.ref (own_k idx k0 k1 k2 k3 k4 k5 k6)), .val (.int tl), .val (.int sl), .val (.int t0), .val (.int t1), .val (.int s0), .val (.int s1), .val (.ref xr_311), .val (.ref xr_314), .val (.ref b316), .val (.int rv_333), .val (.int (0 : Int32))] [])) t → Steps p.tables e below (s₁.setTop (entryFrame m #[(.int i0), (.int i1), (.int i2), (.int i3)] maxLocals)) t := fun t kk => pre340 t (by
            refine XS.icmpYes X333.here hx rfl (pc0 := 179) (pc' := 199) rfl (hb hby at_179) rfl (feq (g4 : ¬ (t0 = s0))).2 (by decide) (by decide) ?_
            show Steps p.tables e below (T333.setTop (mkF m 199 #[.val (.int i0), .val (.int i1), .val (.int i2), .val (.int i3), .val (.int idx), .val (.ref (own_k idx k0 k1 k2 k3 k4 k5 k6)), .val (.int tl), .val (.int sl), .val (.int t0), .val (.int t1), .val (.int s0), .val (.int s1), .val (.ref xr_311), .val (.ref xr_314), .val (.ref b316), .val (.int rv_333), .unset] [])) _
            refine XS.iconst X333.here hx rfl (hb hby at_199) ?_
            show Steps p.tables e below (T333.setTop (mkF m 200 #[.val (.int i0), .val (.int i1), .val (.int i2), .val (.int i3), .val (.int idx), .val (.ref (own_k idx k0 k1 k2 k3 k4 k5 k6)), .val (.int tl), .val (.int sl), .val (.int t0), .val (.int t1), .val (.int s0), .val (.int s1), .val (.ref xr_311), .val (.ref xr_314), .val (.ref b316), .val (.int rv_333), .unset] [(.int (0 : Int32))])) _
            refine XS.istore X333.here hx rfl (hb hby at_200) rfl (l' := #[.val (.int i0), .val (.int i1), .val (.int i2), .val (.int i3), .val (.int idx), .val (.ref (own_k idx k0 k1 k2 k3 k4 k5 k6)), .val (.int tl), .val (.int sl), .val (.int t0), .val (.int t1), .val (.int s0), .val (.int s1), .val (.ref xr_311), .val (.ref xr_314), .val (.ref b316), .val (.int rv_333), .val (.int (0 : Int32))]) rfl ?_
            show Steps p.tables e below (T333.setTop (mkF m 202 #[.val (.int i0), .val (.int i1), .val (.int i2), .val (.int i3), .val (.int idx), .val (.ref (own_k idx k0 k1 k2 k3 k4 k5 k6)), .val (.int tl), .val (.int sl), .val (.int t0), .val (.int t1), .val (.int s0), .val (.int s1), .val (.ref xr_311), .val (.ref xr_314), .val (.ref b316), .val (.int rv_333), .val (.int (0 : Int32))] [])) _
            exact kk)
          subst hfin
          obtain ⟨fs, hr, hrun, hended, hEnd⟩ := X333.leaveW hS314 (by rw [e333]; exact (Nat.le_trans (Nat.le_refl _) (Nat.le_trans E316.1 K318.1))) (v := some (.int (1 : Int32))) (fun h => by rw [Bd.returns] at h; cases h)
          refine ⟨_, _, pre341 _ ?_, hrun, hended, _, _, rfl, ?_, hEnd.1, hEnd.2.1, hEnd.2.2.1, hEnd.2.2.2.mono (by decide) (by decide)⟩
          · refine XS.iload X333.here hx rfl (hb hby at_202) rfl ?_
            show Steps p.tables e below (T333.setTop (mkF m 204 #[.val (.int i0), .val (.int i1), .val (.int i2), .val (.int i3), .val (.int idx), .val (.ref (own_k idx k0 k1 k2 k3 k4 k5 k6)), .val (.int tl), .val (.int sl), .val (.int t0), .val (.int t1), .val (.int s0), .val (.int s1), .val (.ref xr_311), .val (.ref xr_314), .val (.ref b316), .val (.int (0 : Int32)), .val (.int (0 : Int32))] [(.int (0 : Int32))])) _
            refine XS.iload X333.here hx rfl (hb hby at_204) rfl ?_
            show Steps p.tables e below (T333.setTop (mkF m 206 #[.val (.int i0), .val (.int i1), .val (.int i2), .val (.int i3), .val (.int idx), .val (.ref (own_k idx k0 k1 k2 k3 k4 k5 k6)), .val (.int tl), .val (.int sl), .val (.int t0), .val (.int t1), .val (.int s0), .val (.int s1), .val (.ref xr_311), .val (.ref xr_314), .val (.ref b316), .val (.int (0 : Int32)), .val (.int (0 : Int32))] [(.int (0 : Int32)), (.int (0 : Int32))])) _
            refine XS.icmpNo X333.here hx rfl (hb hby at_206) rfl (teq ((by decide) : (0 : Int32) = (0 : Int32))).2 ?_
            show Steps p.tables e below (T333.setTop (mkF m 209 #[.val (.int i0), .val (.int i1), .val (.int i2), .val (.int i3), .val (.int idx), .val (.ref (own_k idx k0 k1 k2 k3 k4 k5 k6)), .val (.int tl), .val (.int sl), .val (.int t0), .val (.int t1), .val (.int s0), .val (.int s1), .val (.ref xr_311), .val (.ref xr_314), .val (.ref b316), .val (.int (0 : Int32)), .val (.int (0 : Int32))] [])) _
            refine XS.iconst X333.here hx rfl (hb hby at_209) ?_
            show Steps p.tables e below (T333.setTop (mkF m 210 #[.val (.int i0), .val (.int i1), .val (.int i2), .val (.int i3), .val (.int idx), .val (.ref (own_k idx k0 k1 k2 k3 k4 k5 k6)), .val (.int tl), .val (.int sl), .val (.int t0), .val (.int t1), .val (.int s0), .val (.int s1), .val (.ref xr_311), .val (.ref xr_314), .val (.ref b316), .val (.int (0 : Int32)), .val (.int (0 : Int32))] [(.int (1 : Int32))])) _
            refine XS.goto X333.here hx rfl (pc0 := 210) (pc' := 214) rfl (hb hby at_210) (by decide) (by decide) ?_
            show Steps p.tables e below (T333.setTop (mkF m 214 #[.val (.int i0), .val (.int i1), .val (.int i2), .val (.int i3), .val (.int idx), .val (.ref (own_k idx k0 k1 k2 k3 k4 k5 k6)), .val (.int tl), .val (.int sl), .val (.int t0), .val (.int t1), .val (.int s0), .val (.int s1), .val (.ref xr_311), .val (.ref xr_314), .val (.ref b316), .val (.int (0 : Int32)), .val (.int (0 : Int32))] [(.int (1 : Int32))])) _
            exact retN X333 hx (t := .boolean) Bd.returns (by simp) (hb hby at_214) hr
          · show Q_law Z i0 i1 i2 i3 G k0 k1 k2 k3 k4 k5 k6 h0 n0 _ T333.heap _
            rw [e333]
            exact ⟨rfl, N333⟩
    · have hfin : rv_333 = (0 : Int32) := by rw [hx5]; exact if_neg (fun q => g2 q.2.1)
      have pre337 : ∀ t, Steps p.tables e below (T333.setTop (mkF m 202 #[.val (.int i0), .val (.int i1), .val (.int i2), .val (.int i3), .val (.int idx), .val (.ref (own_k idx k0 k1 k2 k3 k4 k5 k6)), .val (.int tl), .val (.int sl), .val (.int t0), .val (.int t1), .val (.int s0), .val (.int s1), .val (.ref xr_311), .val (.ref xr_314), .val (.ref b316), .val (.int rv_333), .val (.int (0 : Int32))] [])) t → Steps p.tables e below (s₁.setTop (entryFrame m #[(.int i0), (.int i1), (.int i2), (.int i3)] maxLocals)) t := fun t kk => pre336 t (by
        refine XS.icmpYes X333.here hx rfl (pc0 := 166) (pc' := 199) rfl (hb hby at_166) rfl (feq (g2 : ¬ (tl = sl))).2 (by decide) (by decide) ?_
        show Steps p.tables e below (T333.setTop (mkF m 199 #[.val (.int i0), .val (.int i1), .val (.int i2), .val (.int i3), .val (.int idx), .val (.ref (own_k idx k0 k1 k2 k3 k4 k5 k6)), .val (.int tl), .val (.int sl), .val (.int t0), .val (.int t1), .val (.int s0), .val (.int s1), .val (.ref xr_311), .val (.ref xr_314), .val (.ref b316), .val (.int rv_333), .unset] [])) _
        refine XS.iconst X333.here hx rfl (hb hby at_199) ?_
        show Steps p.tables e below (T333.setTop (mkF m 200 #[.val (.int i0), .val (.int i1), .val (.int i2), .val (.int i3), .val (.int idx), .val (.ref (own_k idx k0 k1 k2 k3 k4 k5 k6)), .val (.int tl), .val (.int sl), .val (.int t0), .val (.int t1), .val (.int s0), .val (.int s1), .val (.ref xr_311), .val (.ref xr_314), .val (.ref b316), .val (.int rv_333), .unset] [(.int (0 : Int32))])) _
        refine XS.istore X333.here hx rfl (hb hby at_200) rfl (l' := #[.val (.int i0), .val (.int i1), .val (.int i2), .val (.int i3), .val (.int idx), .val (.ref (own_k idx k0 k1 k2 k3 k4 k5 k6)), .val (.int tl), .val (.int sl), .val (.int t0), .val (.int t1), .val (.int s0), .val (.int s1), .val (.ref xr_311), .val (.ref xr_314), .val (.ref b316), .val (.int rv_333), .val (.int (0 : Int32))]) rfl ?_
        show Steps p.tables e below (T333.setTop (mkF m 202 #[.val (.int i0), .val (.int i1), .val (.int i2), .val (.int i3), .val (.int idx), .val (.ref (own_k idx k0 k1 k2 k3 k4 k5 k6)), .val (.int tl), .val (.int sl), .val (.int t0), .val (.int t1), .val (.int s0), .val (.int s1), .val (.ref xr_311), .val (.ref xr_314), .val (.ref b316), .val (.int rv_333), .val (.int (0 : Int32))] [])) _
        exact kk)
      subst hfin
      obtain ⟨fs, hr, hrun, hended, hEnd⟩ := X333.leaveW hS314 (by rw [e333]; exact (Nat.le_trans (Nat.le_refl _) (Nat.le_trans E316.1 K318.1))) (v := some (.int (1 : Int32))) (fun h => by rw [Bd.returns] at h; cases h)
      refine ⟨_, _, pre337 _ ?_, hrun, hended, _, _, rfl, ?_, hEnd.1, hEnd.2.1, hEnd.2.2.1, hEnd.2.2.2.mono (by decide) (by decide)⟩
      · refine XS.iload X333.here hx rfl (hb hby at_202) rfl ?_
        show Steps p.tables e below (T333.setTop (mkF m 204 #[.val (.int i0), .val (.int i1), .val (.int i2), .val (.int i3), .val (.int idx), .val (.ref (own_k idx k0 k1 k2 k3 k4 k5 k6)), .val (.int tl), .val (.int sl), .val (.int t0), .val (.int t1), .val (.int s0), .val (.int s1), .val (.ref xr_311), .val (.ref xr_314), .val (.ref b316), .val (.int (0 : Int32)), .val (.int (0 : Int32))] [(.int (0 : Int32))])) _
        refine XS.iload X333.here hx rfl (hb hby at_204) rfl ?_
        show Steps p.tables e below (T333.setTop (mkF m 206 #[.val (.int i0), .val (.int i1), .val (.int i2), .val (.int i3), .val (.int idx), .val (.ref (own_k idx k0 k1 k2 k3 k4 k5 k6)), .val (.int tl), .val (.int sl), .val (.int t0), .val (.int t1), .val (.int s0), .val (.int s1), .val (.ref xr_311), .val (.ref xr_314), .val (.ref b316), .val (.int (0 : Int32)), .val (.int (0 : Int32))] [(.int (0 : Int32)), (.int (0 : Int32))])) _
        refine XS.icmpNo X333.here hx rfl (hb hby at_206) rfl (teq ((by decide) : (0 : Int32) = (0 : Int32))).2 ?_
        show Steps p.tables e below (T333.setTop (mkF m 209 #[.val (.int i0), .val (.int i1), .val (.int i2), .val (.int i3), .val (.int idx), .val (.ref (own_k idx k0 k1 k2 k3 k4 k5 k6)), .val (.int tl), .val (.int sl), .val (.int t0), .val (.int t1), .val (.int s0), .val (.int s1), .val (.ref xr_311), .val (.ref xr_314), .val (.ref b316), .val (.int (0 : Int32)), .val (.int (0 : Int32))] [])) _
        refine XS.iconst X333.here hx rfl (hb hby at_209) ?_
        show Steps p.tables e below (T333.setTop (mkF m 210 #[.val (.int i0), .val (.int i1), .val (.int i2), .val (.int i3), .val (.int idx), .val (.ref (own_k idx k0 k1 k2 k3 k4 k5 k6)), .val (.int tl), .val (.int sl), .val (.int t0), .val (.int t1), .val (.int s0), .val (.int s1), .val (.ref xr_311), .val (.ref xr_314), .val (.ref b316), .val (.int (0 : Int32)), .val (.int (0 : Int32))] [(.int (1 : Int32))])) _
        refine XS.goto X333.here hx rfl (pc0 := 210) (pc' := 214) rfl (hb hby at_210) (by decide) (by decide) ?_
        show Steps p.tables e below (T333.setTop (mkF m 214 #[.val (.int i0), .val (.int i1), .val (.int i2), .val (.int i3), .val (.int idx), .val (.ref (own_k idx k0 k1 k2 k3 k4 k5 k6)), .val (.int tl), .val (.int sl), .val (.int t0), .val (.int t1), .val (.int s0), .val (.int s1), .val (.ref xr_311), .val (.ref xr_314), .val (.ref b316), .val (.int (0 : Int32)), .val (.int (0 : Int32))] [(.int (1 : Int32))])) _
        exact retN X333 hx (t := .boolean) Bd.returns (by simp) (hb hby at_214) hr
      · show Q_law Z i0 i1 i2 i3 G k0 k1 k2 k3 k4 k5 k6 h0 n0 _ T333.heap _
        rw [e333]
        exact ⟨rfl, N333⟩
  · have hfin : rv_333 = (0 : Int32) := by rw [hx5]; exact if_neg (fun q => g1 q.1)
    have pre335 : ∀ t, Steps p.tables e below (T333.setTop (mkF m 202 #[.val (.int i0), .val (.int i1), .val (.int i2), .val (.int i3), .val (.int idx), .val (.ref (own_k idx k0 k1 k2 k3 k4 k5 k6)), .val (.int tl), .val (.int sl), .val (.int t0), .val (.int t1), .val (.int s0), .val (.int s1), .val (.ref xr_311), .val (.ref xr_314), .val (.ref b316), .val (.int rv_333), .val (.int (0 : Int32))] [])) t → Steps p.tables e below (s₁.setTop (entryFrame m #[(.int i0), (.int i1), (.int i2), (.int i3)] maxLocals)) t := fun t kk => pre334 t (by
      refine XS.icmpYes X333.here hx rfl (pc0 := 159) (pc' := 199) rfl (hb hby at_159) rfl (feq (g1 : ¬ (idx = (5 : Int32)))).2 (by decide) (by decide) ?_
      show Steps p.tables e below (T333.setTop (mkF m 199 #[.val (.int i0), .val (.int i1), .val (.int i2), .val (.int i3), .val (.int idx), .val (.ref (own_k idx k0 k1 k2 k3 k4 k5 k6)), .val (.int tl), .val (.int sl), .val (.int t0), .val (.int t1), .val (.int s0), .val (.int s1), .val (.ref xr_311), .val (.ref xr_314), .val (.ref b316), .val (.int rv_333), .unset] [])) _
      refine XS.iconst X333.here hx rfl (hb hby at_199) ?_
      show Steps p.tables e below (T333.setTop (mkF m 200 #[.val (.int i0), .val (.int i1), .val (.int i2), .val (.int i3), .val (.int idx), .val (.ref (own_k idx k0 k1 k2 k3 k4 k5 k6)), .val (.int tl), .val (.int sl), .val (.int t0), .val (.int t1), .val (.int s0), .val (.int s1), .val (.ref xr_311), .val (.ref xr_314), .val (.ref b316), .val (.int rv_333), .unset] [(.int (0 : Int32))])) _
      refine XS.istore X333.here hx rfl (hb hby at_200) rfl (l' := #[.val (.int i0), .val (.int i1), .val (.int i2), .val (.int i3), .val (.int idx), .val (.ref (own_k idx k0 k1 k2 k3 k4 k5 k6)), .val (.int tl), .val (.int sl), .val (.int t0), .val (.int t1), .val (.int s0), .val (.int s1), .val (.ref xr_311), .val (.ref xr_314), .val (.ref b316), .val (.int rv_333), .val (.int (0 : Int32))]) rfl ?_
      show Steps p.tables e below (T333.setTop (mkF m 202 #[.val (.int i0), .val (.int i1), .val (.int i2), .val (.int i3), .val (.int idx), .val (.ref (own_k idx k0 k1 k2 k3 k4 k5 k6)), .val (.int tl), .val (.int sl), .val (.int t0), .val (.int t1), .val (.int s0), .val (.int s1), .val (.ref xr_311), .val (.ref xr_314), .val (.ref b316), .val (.int rv_333), .val (.int (0 : Int32))] [])) _
      exact kk)
    subst hfin
    obtain ⟨fs, hr, hrun, hended, hEnd⟩ := X333.leaveW hS314 (by rw [e333]; exact (Nat.le_trans (Nat.le_refl _) (Nat.le_trans E316.1 K318.1))) (v := some (.int (1 : Int32))) (fun h => by rw [Bd.returns] at h; cases h)
    refine ⟨_, _, pre335 _ ?_, hrun, hended, _, _, rfl, ?_, hEnd.1, hEnd.2.1, hEnd.2.2.1, hEnd.2.2.2.mono (by decide) (by decide)⟩
    · refine XS.iload X333.here hx rfl (hb hby at_202) rfl ?_
      show Steps p.tables e below (T333.setTop (mkF m 204 #[.val (.int i0), .val (.int i1), .val (.int i2), .val (.int i3), .val (.int idx), .val (.ref (own_k idx k0 k1 k2 k3 k4 k5 k6)), .val (.int tl), .val (.int sl), .val (.int t0), .val (.int t1), .val (.int s0), .val (.int s1), .val (.ref xr_311), .val (.ref xr_314), .val (.ref b316), .val (.int (0 : Int32)), .val (.int (0 : Int32))] [(.int (0 : Int32))])) _
      refine XS.iload X333.here hx rfl (hb hby at_204) rfl ?_
      show Steps p.tables e below (T333.setTop (mkF m 206 #[.val (.int i0), .val (.int i1), .val (.int i2), .val (.int i3), .val (.int idx), .val (.ref (own_k idx k0 k1 k2 k3 k4 k5 k6)), .val (.int tl), .val (.int sl), .val (.int t0), .val (.int t1), .val (.int s0), .val (.int s1), .val (.ref xr_311), .val (.ref xr_314), .val (.ref b316), .val (.int (0 : Int32)), .val (.int (0 : Int32))] [(.int (0 : Int32)), (.int (0 : Int32))])) _
      refine XS.icmpNo X333.here hx rfl (hb hby at_206) rfl (teq ((by decide) : (0 : Int32) = (0 : Int32))).2 ?_
      show Steps p.tables e below (T333.setTop (mkF m 209 #[.val (.int i0), .val (.int i1), .val (.int i2), .val (.int i3), .val (.int idx), .val (.ref (own_k idx k0 k1 k2 k3 k4 k5 k6)), .val (.int tl), .val (.int sl), .val (.int t0), .val (.int t1), .val (.int s0), .val (.int s1), .val (.ref xr_311), .val (.ref xr_314), .val (.ref b316), .val (.int (0 : Int32)), .val (.int (0 : Int32))] [])) _
      refine XS.iconst X333.here hx rfl (hb hby at_209) ?_
      show Steps p.tables e below (T333.setTop (mkF m 210 #[.val (.int i0), .val (.int i1), .val (.int i2), .val (.int i3), .val (.int idx), .val (.ref (own_k idx k0 k1 k2 k3 k4 k5 k6)), .val (.int tl), .val (.int sl), .val (.int t0), .val (.int t1), .val (.int s0), .val (.int s1), .val (.ref xr_311), .val (.ref xr_314), .val (.ref b316), .val (.int (0 : Int32)), .val (.int (0 : Int32))] [(.int (1 : Int32))])) _
      refine XS.goto X333.here hx rfl (pc0 := 210) (pc' := 214) rfl (hb hby at_210) (by decide) (by decide) ?_
      show Steps p.tables e below (T333.setTop (mkF m 214 #[.val (.int i0), .val (.int i1), .val (.int i2), .val (.int i3), .val (.int idx), .val (.ref (own_k idx k0 k1 k2 k3 k4 k5 k6)), .val (.int tl), .val (.int sl), .val (.int t0), .val (.int t1), .val (.int s0), .val (.int s1), .val (.ref xr_311), .val (.ref xr_314), .val (.ref b316), .val (.int (0 : Int32)), .val (.int (0 : Int32))] [(.int (1 : Int32))])) _
      exact retN X333 hx (t := .boolean) Bd.returns (by simp) (hb hby at_214) hr
    · show Q_law Z i0 i1 i2 i3 G k0 k1 k2 k3 k4 k5 k6 h0 n0 _ T333.heap _
      rw [e333]
      exact ⟨rfl, N333⟩
set_option maxRecDepth 65536 in
set_option maxHeartbeats 40000000 in
theorem comes_1 {Post : Tables → Env → Array Value → State → Outcome → State → Prop} (hpost : ∀ tb e args s v u, (limb_1_1.after args s (.returned v) u = true ∧ limb_1_2.after args s (.returned v) u = true ∧ True) → ReturnedEndW s (.returned v) u (Jvm.fieldLocs frame_1_writes args s ++ Jvm.arrayLocs frame_1_arrays args s ++ Jvm.staticLocs frame_1_statics s) 24 1152 → Post tb e args s (.returned v) u) :
    ArmFor flags0 classFile x code maxLocals ret World_1 tables_1 room_1 Calls_1 rest_1 Pre_1 Post := by
  intro l hfl _ _ p e ha hc hk s m args below hf hA hF happ hP
  obtain ⟨hcalls, hrest, hpre⟩ := hP
  obtain ⟨-, -, -, hnamed, -, -, -, hat⟩ := (Spec.applies_iff hf).mp happ
  obtain ⟨hg, hn⟩ := and_e (Cond.before_iff.mp (show (Jvm.Cond.and given_1 narrow_1).before args s = true from hpre))
  obtain ⟨hcount, hg0⟩ := and_e hg
  obtain ⟨ha0, hg1⟩ := and_e hg0
  obtain ⟨ha1, hg2⟩ := and_e hg1
  obtain ⟨ha2, hg3⟩ := and_e hg2
  obtain ⟨w0, w1, w2, w3, rfl⟩ : ∃ w0 w1 w2 w3 : Value, args = #[w0, w1, w2, w3] := by
    have hs : args.size = 4 := by simpa [Cond.value, given_1] using hcount
    obtain ⟨L⟩ := args
    match L, hs with
    | [w0, w1, w2, w3], _ => exact ⟨w0, w1, w2, w3, rfl⟩
  have hw := fun d (hd : d ∈ tables_1) => atoms_spec (ws := Jvm.Cond.code x code maxLocals ret :: tables_1) hat d (List.mem_cons_of_mem _ hd)
  obtain ⟨hsets, hown0⟩ := atoms_of _ (rest_1_c_eq ▸ (show rest_1_c.before _ s = true from hrest))
  have hfit : Fit s := fun {y c} hc i hi => by
    obtain ⟨ha, rfl⟩ := Array.getElem?_eq_some_iff.mp hc
    have q := List.all_eq_true.mp ((Array.all_eq_true_iff_forall_mem.mp hF) _ (Array.getElem_mem ha)) i (List.mem_range.mpr hi)
    simpa [Array.getElem?_eq_getElem hi] using q
  obtain ⟨i0, ei0⟩ := is_v ha0
  obtain rfl : w0 = (.int i0) := Option.some.inj ei0
  obtain ⟨i1, ei1⟩ := is_v ha1
  obtain rfl : w1 = (.int i1) := Option.some.inj ei1
  obtain ⟨i2, ei2⟩ := is_v ha2
  obtain rfl : w2 = (.int i2) := Option.some.inj ei2
  obtain ⟨i3, ei3⟩ := is_v hg3
  obtain rfl : w3 = (.int i3) := Option.some.inj ei3
  have nz0 := not_v (Cond.before_iff.mp (hsets _ (List.mem_of_getElem? (i := 2) rfl)))
  obtain ⟨G, eG⟩ := is_v (Cond.before_iff.mp (hsets _ (List.mem_of_getElem? (i := 1) rfl)))
  have SG : Sta s s.heap "java/lang/String" "COMPACT_STRINGS" "Z" (.int G) := Sta.start eG (Or.inl (hsets _ (List.mem_of_getElem? (i := 0) rfl)))
  have nz : ¬ (G = (0 : Int32)) := gotF (Cond.eq_ints eG (Term.int_eval (0))) nz0
  obtain ⟨hn0, hnr0⟩ := and_e hn
  obtain ⟨hn1, hnr1⟩ := and_e hnr0
  obtain ⟨hn2, hnr2⟩ := and_e hnr1
  obtain ⟨hn3, hnr3⟩ := and_e hnr2
  obtain ⟨hn4, hnr4⟩ := and_e hnr3
  obtain ⟨hn5, hnr5⟩ := and_e hnr4
  obtain ⟨hn6, hnr6⟩ := and_e hnr5
  obtain ⟨hn7, hnr7⟩ := and_e hnr6
  obtain ⟨hn8, hnr8⟩ := and_e hnr7
  obtain ⟨hn9, hnr9⟩ := and_e hnr8
  obtain ⟨hn10, hnr10⟩ := and_e hnr9
  obtain ⟨hn11, hnr11⟩ := and_e hnr10
  obtain ⟨hn12, hnr12⟩ := and_e hnr11
  have hn13 := hnr12
  obtain ⟨k0, ek0⟩ := exa_v hn0
  have SK0 : Sta s s.heap "com/example/holdfast/holdfast/jpql/Scanner$Kind" "IDENTIFIER" "Lcom/example/holdfast/holdfast/jpql/Scanner$Kind;" (.ref k0) := Sta.start ek0 (Or.inr ⟨hw _ (List.mem_of_getElem? (i := 6) rfl), hw _ (List.mem_of_getElem? (i := 7) rfl)⟩)
  obtain ⟨k5, ek5⟩ := exa_v hn1
  have SK5 : Sta s s.heap "com/example/holdfast/holdfast/jpql/Scanner$Kind" "SYMBOL" "Lcom/example/holdfast/holdfast/jpql/Scanner$Kind;" (.ref k5) := Sta.start ek5 (Or.inr ⟨hw _ (List.mem_of_getElem? (i := 6) rfl), hw _ (List.mem_of_getElem? (i := 65) rfl)⟩)
  obtain ⟨k2, ek2⟩ := exa_v hn4
  have SK2 : Sta s s.heap "com/example/holdfast/holdfast/jpql/Scanner$Kind" "NUMBER" "Lcom/example/holdfast/holdfast/jpql/Scanner$Kind;" (.ref k2) := Sta.start ek2 (Or.inr ⟨hw _ (List.mem_of_getElem? (i := 6) rfl), hw _ (List.mem_of_getElem? (i := 78) rfl)⟩)
  obtain ⟨k1, ek1⟩ := exa_v hn6
  have SK1 : Sta s s.heap "com/example/holdfast/holdfast/jpql/Scanner$Kind" "STRING" "Lcom/example/holdfast/holdfast/jpql/Scanner$Kind;" (.ref k1) := Sta.start ek1 (Or.inr ⟨hw _ (List.mem_of_getElem? (i := 6) rfl), hw _ (List.mem_of_getElem? (i := 80) rfl)⟩)
  obtain ⟨k3, ek3⟩ := exa_v hn8
  have SK3 : Sta s s.heap "com/example/holdfast/holdfast/jpql/Scanner$Kind" "NAMED_PARAMETER" "Lcom/example/holdfast/holdfast/jpql/Scanner$Kind;" (.ref k3) := Sta.start ek3 (Or.inr ⟨hw _ (List.mem_of_getElem? (i := 6) rfl), hw _ (List.mem_of_getElem? (i := 82) rfl)⟩)
  obtain ⟨k4, ek4⟩ := exa_v hn10
  have SK4 : Sta s s.heap "com/example/holdfast/holdfast/jpql/Scanner$Kind" "POSITIONAL_PARAMETER" "Lcom/example/holdfast/holdfast/jpql/Scanner$Kind;" (.ref k4) := Sta.start ek4 (Or.inr ⟨hw _ (List.mem_of_getElem? (i := 6) rfl), hw _ (List.mem_of_getElem? (i := 84) rfl)⟩)
  obtain ⟨k6, ek6⟩ := exa_v hn12
  have SK6 : Sta s s.heap "com/example/holdfast/holdfast/jpql/Scanner$Kind" "END" "Lcom/example/holdfast/holdfast/jpql/Scanner$Kind;" (.ref k6) := Sta.start ek6 (Or.inr ⟨hw _ (List.mem_of_getElem? (i := 6) rfl), hw _ (List.mem_of_getElem? (i := 86) rfl)⟩)
  have FO0 : Fld s s.heap k0 "java/lang/Enum" "ordinal" "I" (.int (0 : Int32)) := Fld.start ((fld_at ek0).symm.trans (eqv_i (Term.int_eval (0)) hn2))
  have FO5 : Fld s s.heap k5 "java/lang/Enum" "ordinal" "I" (.int (5 : Int32)) := Fld.start ((fld_at ek5).symm.trans (eqv_i (Term.int_eval (5)) hn3))
  have FO2 : Fld s s.heap k2 "java/lang/Enum" "ordinal" "I" (.int (2 : Int32)) := Fld.start ((fld_at ek2).symm.trans (eqv_i (Term.int_eval (2)) hn5))
  have FO1 : Fld s s.heap k1 "java/lang/Enum" "ordinal" "I" (.int (1 : Int32)) := Fld.start ((fld_at ek1).symm.trans (eqv_i (Term.int_eval (1)) hn7))
  have FO3 : Fld s s.heap k3 "java/lang/Enum" "ordinal" "I" (.int (3 : Int32)) := Fld.start ((fld_at ek3).symm.trans (eqv_i (Term.int_eval (3)) hn9))
  have FO4 : Fld s s.heap k4 "java/lang/Enum" "ordinal" "I" (.int (4 : Int32)) := Fld.start ((fld_at ek4).symm.trans (eqv_i (Term.int_eval (4)) hn11))
  have FO6 : Fld s s.heap k6 "java/lang/Enum" "ordinal" "I" (.int (6 : Int32)) := Fld.start ((fld_at ek6).symm.trans (eqv_i (Term.int_eval (6)) hn13))
  have hdist : k0 ≠ k5 ∧ k1 ≠ k5 ∧ k2 ≠ k5 ∧ k3 ≠ k5 ∧ k4 ≠ k5 ∧ k6 ≠ k5 := ⟨FO0.ne FO5 (by decide), FO1.ne FO5 (by decide), FO2.ne FO5 (by decide), FO3.ne FO5 (by decide), FO4.ne FO5 (by decide), FO6.ne FO5 (by decide)⟩
  have CHs : CHv s [("java/lang/String", 7)] s.vm s.heap := CHv.start (own_EW hw) (fun p hp => by simp only [List.mem_cons, List.not_mem_nil, or_false] at hp; subst hp; exact hcalls.1 _ (List.mem_of_getElem? (i := 0) rfl)) (hsets _ (List.mem_of_getElem? (i := 2) rfl)) (hw _ (List.mem_of_getElem? (i := 30) rfl)) (hw _ (List.mem_of_getElem? (i := 12) rfl))
  obtain ⟨n, o, h1, h2, h3, _, L, rfl, ⟨rfl, N⟩, hq⟩ := rm_law l s _ hw tables_1 i0 i1 i2 i3 G k0 k1 k2 k3 k4 k5 k6 s.heap s.heap.size (Nat.le_refl _) SG nz (Old.start s) SK0 SK1 SK2 SK3 SK4 SK5 SK6 hdist p e ha hc hk s m _ below hf ((Spec.applies_iff_loose hf).mp happ).1 ⟨rfl, State.Warmed39.refl s, rfl, CHs⟩ trivial
  refine ⟨n, _, h1, h2, h3, hpost _ _ _ _ _ _ ⟨Cond.after_iff.mpr rfl, Cond.after_iff.mpr (eq_i res_at (Term.int_eval (1)) rfl), trivial⟩ ⟨hq.1, hq.2.1, hq.2.2.1, (hq.2.2.2.sift fun y hy => Or.inr (N y hy)).mono (by decide) (by decide)⟩⟩
theorem main_1_1 : Claimed_1_1 := comes_1 fun _ _ _ _ _ _ h hF => ⟨h.1, hF⟩
theorem main_1_2 : Claimed_1_2 := comes_1 fun _ _ _ _ _ _ h hF => ⟨h.2.1, hF⟩
end Jvm.Pilot.@@N@@
namespace Jvm.Pilot.@@N@@
open Jvm Jvm.ClassFile Sem Op Lib Jvm.Free Jvm.Stand Jvm.Pilot.@@N@@.Jvm.D
/-! MADE BY PROGRAM (witnessworld.py) out of the Statement's table words and the real class files: 22 classes; the members and pool entries that the words name. The judged class is class 1, her method 1. -/
namespace start1
open Jvm.ClassFile
def u (s : String) : CpInfo := .utf8 (stringToUtf16 s)
/-- a pool by its gaps: so many unusable entries, then the entry; so many at the end -/
def gap : Nat → List CpInfo → List CpInfo
  | 0, r => r
  | n + 1, r => .unusable :: gap n r
def poolList (es : List (Nat × CpInfo)) (last : Nat) : List CpInfo := es.foldr (fun e r => gap e.1 (e.2 :: r)) (gap last [])
def pool (es : List (Nat × CpInfo)) (last : Nat) : Array CpInfo := ⟨poolList es last⟩
def fileOf (pool : Array CpInfo) (this : Nat) (attrs : Array Attribute := #[]) (ms : Array MethodInfo := #[]) (fl : Nat := 33) (sup : Nat := 0) (ifs : Array Nat := #[]) (fds : Array FieldInfo := #[]) : ClassFile where
  minorVersion := 0
  majorVersion := 65
  constantPool := pool
  accessFlags := fl
  thisClass := this
  superClass := sup
  interfaces := ifs
  fields := fds
  methods := ms
  attributes := attrs
def plain (name : String) (sup : Option ClassId) : Class where
  name := name
  kind := .ordinary
  loader := none
  accessFlags := 33
  super := sup
  interfaces := #[]
  cf := none
  fields := #[]
  methods := #[]
  instanceTypes := #[]
  staticTypes := #[]
  resolved := #[]
  callSites := []
  init := .initialized
  statics := none
  mirror := none

def pool0 : Array CpInfo := pool [(5, u "<init>"), (0, u "()V"), (1, .class_ 10), (1, u "java/lang/Object")] 113

def k0c0 : Code := { maxStack := 0, maxLocals := 1, code := object_method_1_code, exceptionTable := #[], attributes := #[] }
def k0m0 : Method := { name := "<init>", desc := "()V", sig := { parameters := [], returnType := none }, accessFlags := 1, code := some k0c0 }
/-- java/lang/Object -/
def k0 : Class := { plain "java/lang/Object" none with
  accessFlags := 33
  interfaces := #[]
  cf := some (fileOf pool0 8 #[] #[{ accessFlags := 1, nameIndex := 5, descriptorIndex := 6, attributes := #[] }] 33 0 #[] #[])
  fields := #[]
  methods := #[k0m0]
  instanceTypes := #[]
  staticTypes := #[]
  resolved := Array.replicate 124 none
  statics := none }

def pool1 : Array CpInfo := pool [(2, .class_ 4), (1, u "java/lang/Object"), (0, u "<init>"), (0, u "()V"), (0, .integer 2147483647), (0, .methodref 9 10), (0, .class_ 11), (0, .nameAndType 12 13), (0, u "com/example/holdfast/holdfast/jpql/TokenIsSymbolPinLaw"), (0, u "kindOf"), (0, u "(I)Lcom/example/holdfast/holdfast/jpql/Scanner$Kind;"), (0, .methodref 9 15), (0, .nameAndType 16 17), (0, u "make"), (0, u "(ICC)Ljava/lang/String;"), (0, .class_ 19), (0, u "com/example/holdfast/holdfast/jpql/Scanner$Token"), (0, .methodref 18 21), (0, .nameAndType 5 22), (0, u "(Lcom/example/holdfast/holdfast/jpql/Scanner$Kind;Ljava/lang/String;II)V"), (0, .methodref 18 24), (0, .nameAndType 25 26), (0, u "isSymbol"), (0, u "(Ljava/lang/String;)Z"), (0, .class_ 28), (0, u "java/lang/String"), (0, .methodref 27 30), (0, .nameAndType 5 31), (0, u "([C)V"), (0, .fieldref 33 34), (0, .class_ 35), (0, .nameAndType 36 37), (0, u "com/example/holdfast/holdfast/jpql/Scanner$Kind"), (0, u "IDENTIFIER"), (0, u "Lcom/example/holdfast/holdfast/jpql/Scanner$Kind;"), (0, .fieldref 33 39), (0, .nameAndType 40 37), (0, u "STRING"), (0, .fieldref 33 42), (0, .nameAndType 43 37), (0, u "NUMBER"), (0, .fieldref 33 45), (0, .nameAndType 46 37), (0, u "NAMED_PARAMETER"), (0, .fieldref 33 48), (0, .nameAndType 49 37), (0, u "POSITIONAL_PARAMETER"), (0, .fieldref 33 51), (0, .nameAndType 52 37), (0, u "SYMBOL"), (0, .fieldref 33 54), (0, .nameAndType 55 37), (0, u "END"), (2, u "law"), (0, u "(IIII)Z")] 8

def k1m0 : Method := { name := "<init>", desc := "()V", sig := { parameters := [], returnType := none }, accessFlags := 1, code := none }
def k1c1 : Code := { maxStack := 6, maxLocals := 17, code := code, exceptionTable := #[], attributes := #[] }
def k1m1 : Method := { name := "law", desc := "(IIII)Z", sig := { parameters := [.int, .int, .int, .int], returnType := some .boolean }, accessFlags := 9, code := some k1c1 }
def k1c2 : Code := { maxStack := 6, maxLocals := 3, code := method_3_code, exceptionTable := #[], attributes := #[] }
def k1m2 : Method := { name := "make", desc := "(ICC)Ljava/lang/String;", sig := { parameters := [.int, .char, .char], returnType := some (.object "java/lang/String") }, accessFlags := 10, code := some k1c2 }
def k1c3 : Code := { maxStack := 2, maxLocals := 1, code := method_4_code, exceptionTable := #[], attributes := #[] }
def k1m3 : Method := { name := "kindOf", desc := "(I)Lcom/example/holdfast/holdfast/jpql/Scanner$Kind;", sig := { parameters := [.int], returnType := some (.object "com/example/holdfast/holdfast/jpql/Scanner$Kind") }, accessFlags := 10, code := some k1c3 }
/-- com/example/holdfast/holdfast/jpql/TokenIsSymbolPinLaw -/
def k1 : Class := { plain "com/example/holdfast/holdfast/jpql/TokenIsSymbolPinLaw" (some 0) with
  accessFlags := 49
  interfaces := #[]
  cf := some (fileOf pool1 9 #[] #[{ accessFlags := 1, nameIndex := 5, descriptorIndex := 6, attributes := #[] }, { accessFlags := 9, nameIndex := 58, descriptorIndex := 59, attributes := #[] }, { accessFlags := 10, nameIndex := 16, descriptorIndex := 17, attributes := #[] }, { accessFlags := 10, nameIndex := 12, descriptorIndex := 13, attributes := #[] }] 49 2 #[] #[])
  fields := #[]
  methods := #[k1m0, k1m1, k1m2, k1m3]
  instanceTypes := #[]
  staticTypes := #[]
  resolved := Array.replicate 68 none
  statics := none }

def pool2 : Array CpInfo := pool [(1, .class_ 2), (0, u "java/lang/constant/Constable"), (0, .class_ 4), (0, u "java/lang/Object")] 6

/-- java/lang/constant/Constable -/
def k2 : Class := { plain "java/lang/constant/Constable" (some 0) with
  accessFlags := 1537
  interfaces := #[]
  cf := some (fileOf pool2 1 #[] #[] 1537 3 #[] #[])
  fields := #[]
  methods := #[]
  instanceTypes := #[]
  staticTypes := #[]
  resolved := Array.replicate 11 none
  statics := none }

def pool3 : Array CpInfo := pool [(1, .class_ 2), (0, u "java/lang/Comparable"), (0, .class_ 4), (0, u "java/lang/Object")] 7

/-- java/lang/Comparable -/
def k3 : Class := { plain "java/lang/Comparable" (some 0) with
  accessFlags := 1537
  interfaces := #[]
  cf := some (fileOf pool3 1 #[] #[] 1537 3 #[] #[])
  fields := #[]
  methods := #[]
  instanceTypes := #[]
  staticTypes := #[]
  resolved := Array.replicate 12 none
  statics := none }

def pool4 : Array CpInfo := pool [(1, .class_ 2), (0, u "java/io/Serializable"), (0, .class_ 4), (0, u "java/lang/Object")] 2

/-- java/io/Serializable -/
def k4 : Class := { plain "java/io/Serializable" (some 0) with
  accessFlags := 1537
  interfaces := #[]
  cf := some (fileOf pool4 1 #[] #[] 1537 3 #[] #[])
  fields := #[]
  methods := #[]
  instanceTypes := #[]
  staticTypes := #[]
  resolved := Array.replicate 7 none
  statics := none }

def pool5 : Array CpInfo := pool [(2, .class_ 4), (1, u "java/lang/Enum"), (0, u "name"), (0, u "Ljava/lang/String;"), (2, u "ordinal"), (0, u "I"), (1, .class_ 14), (1, u "java/lang/Object"), (4, u "hash"), (86, .class_ 108), (1, u "java/lang/Enum$EnumDesc"), (2, .class_ 112), (0, u "java/lang/constant/Constable"), (0, .class_ 114), (0, u "java/lang/Comparable"), (0, .class_ 116), (0, u "java/io/Serializable")] 87

/-- java/lang/Enum -/
def k5 : Class := { plain "java/lang/Enum" (some 0) with
  accessFlags := 1057
  interfaces := #[2, 3, 4]
  cf := some (fileOf pool5 2 #[.nestMembers #[106]] #[] 1057 12 #[111, 113, 115] #[{ accessFlags := 18, nameIndex := 5, descriptorIndex := 6, attributes := #[] }, { accessFlags := 18, nameIndex := 9, descriptorIndex := 10, attributes := #[] }, { accessFlags := 2, nameIndex := 19, descriptorIndex := 10, attributes := #[] }])
  fields := #[{ name := "name", type := (.object "java/lang/String"), accessFlags := 18, slot := 0, constantValue := 0 }, { name := "ordinal", type := .int, accessFlags := 18, slot := 1, constantValue := 0 }, { name := "hash", type := .int, accessFlags := 2, slot := 2, constantValue := 0 }]
  methods := #[]
  instanceTypes := #[(.object "java/lang/String"), .int, .int]
  staticTypes := #[]
  resolved := Array.replicate 204 none
  statics := none }

def pool6 : Array CpInfo := pool [(1, .class_ 2), (0, u "com/example/holdfast/holdfast/jpql/Scanner$Kind"), (2, u "IDENTIFIER"), (0, u "Lcom/example/holdfast/holdfast/jpql/Scanner$Kind;"), (2, u "STRING"), (2, u "NUMBER"), (2, u "NAMED_PARAMETER"), (2, u "POSITIONAL_PARAMETER"), (2, u "SYMBOL"), (2, u "END"), (2, u "$VALUES"), (0, u "[Lcom/example/holdfast/holdfast/jpql/Scanner$Kind;"), (6, .class_ 37), (1, u "java/lang/Enum"), (30, .class_ 69), (0, u "com/example/holdfast/holdfast/jpql/Scanner")] 2

/-- com/example/holdfast/holdfast/jpql/Scanner$Kind -/
def k6 : Class := { plain "com/example/holdfast/holdfast/jpql/Scanner$Kind" (some 5) with
  accessFlags := 16432
  interfaces := #[]
  cf := some (fileOf pool6 1 #[.nestHost 68] #[] 16432 35 #[] #[{ accessFlags := 16409, nameIndex := 5, descriptorIndex := 6, attributes := #[] }, { accessFlags := 16409, nameIndex := 9, descriptorIndex := 6, attributes := #[] }, { accessFlags := 16409, nameIndex := 12, descriptorIndex := 6, attributes := #[] }, { accessFlags := 16409, nameIndex := 15, descriptorIndex := 6, attributes := #[] }, { accessFlags := 16409, nameIndex := 18, descriptorIndex := 6, attributes := #[] }, { accessFlags := 16409, nameIndex := 21, descriptorIndex := 6, attributes := #[] }, { accessFlags := 16409, nameIndex := 24, descriptorIndex := 6, attributes := #[] }, { accessFlags := 4122, nameIndex := 27, descriptorIndex := 28, attributes := #[] }])
  fields := #[{ name := "IDENTIFIER", type := (.object "com/example/holdfast/holdfast/jpql/Scanner$Kind"), accessFlags := 16409, slot := 0, constantValue := 0 }, { name := "STRING", type := (.object "com/example/holdfast/holdfast/jpql/Scanner$Kind"), accessFlags := 16409, slot := 1, constantValue := 0 }, { name := "NUMBER", type := (.object "com/example/holdfast/holdfast/jpql/Scanner$Kind"), accessFlags := 16409, slot := 2, constantValue := 0 }, { name := "NAMED_PARAMETER", type := (.object "com/example/holdfast/holdfast/jpql/Scanner$Kind"), accessFlags := 16409, slot := 3, constantValue := 0 }, { name := "POSITIONAL_PARAMETER", type := (.object "com/example/holdfast/holdfast/jpql/Scanner$Kind"), accessFlags := 16409, slot := 4, constantValue := 0 }, { name := "SYMBOL", type := (.object "com/example/holdfast/holdfast/jpql/Scanner$Kind"), accessFlags := 16409, slot := 5, constantValue := 0 }, { name := "END", type := (.object "com/example/holdfast/holdfast/jpql/Scanner$Kind"), accessFlags := 16409, slot := 6, constantValue := 0 }, { name := "$VALUES", type := (.array (.object "com/example/holdfast/holdfast/jpql/Scanner$Kind")), accessFlags := 4122, slot := 7, constantValue := 0 }]
  methods := #[]
  instanceTypes := #[(.object "java/lang/String"), .int, .int]
  staticTypes := #[(.object "com/example/holdfast/holdfast/jpql/Scanner$Kind"), (.object "com/example/holdfast/holdfast/jpql/Scanner$Kind"), (.object "com/example/holdfast/holdfast/jpql/Scanner$Kind"), (.object "com/example/holdfast/holdfast/jpql/Scanner$Kind"), (.object "com/example/holdfast/holdfast/jpql/Scanner$Kind"), (.object "com/example/holdfast/holdfast/jpql/Scanner$Kind"), (.object "com/example/holdfast/holdfast/jpql/Scanner$Kind"), (.array (.object "com/example/holdfast/holdfast/jpql/Scanner$Kind"))]
  resolved := Array.replicate 72 none
  statics := some 0 }

def pool7 : Array CpInfo := pool [(2, .class_ 4), (1, u "java/lang/CharSequence"), (42, .class_ 48), (0, u "java/lang/CharSequence$1CodePointIterator"), (10, .class_ 60), (0, u "java/lang/CharSequence$1CharIterator"), (5, .class_ 67), (0, u "java/lang/Object")] 63

/-- java/lang/CharSequence -/
def k7 : Class := { plain "java/lang/CharSequence" (some 0) with
  accessFlags := 1537
  interfaces := #[]
  cf := some (fileOf pool7 2 #[.nestMembers #[47, 59]] #[] 1537 66 #[] #[])
  fields := #[]
  methods := #[]
  instanceTypes := #[]
  staticTypes := #[]
  resolved := Array.replicate 131 none
  statics := none }

def pool8 : Array CpInfo := pool [(1, .class_ 2), (0, u "java/lang/constant/ConstantDesc"), (0, .class_ 4), (0, u "java/lang/Object")] 32

/-- java/lang/constant/ConstantDesc -/
def k8 : Class := { plain "java/lang/constant/ConstantDesc" (some 0) with
  accessFlags := 1537
  interfaces := #[]
  cf := some (fileOf pool8 1 #[] #[] 1537 3 #[] #[])
  fields := #[]
  methods := #[]
  instanceTypes := #[]
  staticTypes := #[]
  resolved := Array.replicate 37 none
  statics := none }

def pool9 : Array CpInfo := pool [(1, .methodref 2 3), (0, .class_ 4), (0, .nameAndType 5 6), (0, u "java/lang/Object"), (0, u "<init>"), (0, u "()V"), (0, .string 8), (0, u ""), (0, .fieldref 10 11), (0, .class_ 12), (0, .nameAndType 13 14), (0, u "java/lang/String"), (0, u "value"), (0, u "[B"), (0, .fieldref 10 16), (0, .nameAndType 17 18), (0, u "coder"), (0, u "B"), (2, u "hash"), (0, u "I"), (2, u "hashIsZero"), (0, u "Z"), (0, .methodref 10 28), (0, .nameAndType 5 29), (0, u "([CIILjava/lang/Void;)V"), (8, .fieldref 10 39), (0, .nameAndType 40 26), (0, u "COMPACT_STRINGS"), (1, .class_ 44), (1, u "java/lang/StringUTF16"), (0, u "compress"), (1, .methodref 42 48), (0, .nameAndType 49 50), (0, u "coderFromArrayLen"), (0, u "([BI)B"), (56, .class_ 109), (1, u "java/lang/StringLatin1"), (67, .methodref 42 178), (0, .nameAndType 45 179), (0, u "([CII)[B"), (361, .methodref 107 542), (0, .nameAndType 543 544), (0, u "equals"), (0, u "([B[B)Z"), (28, u "(Ljava/lang/Object;)Z"), (1, .class_ 576), (0, u "java/lang/CharSequence"), (22, u "CASE_INSENSITIVE_ORDER"), (0, u "Ljava/util/Comparator;"), (409, u "([C)V"), (90, u "serialPersistentFields"), (0, u "[Ljava/io/ObjectStreamField;"), (0, .class_ 1104), (0, u "java/lang/String$CaseInsensitiveComparator"), (1, .class_ 1107), (0, u "java/io/Serializable"), (0, .class_ 1109), (0, u "java/lang/Comparable"), (0, .class_ 1111), (0, u "java/lang/constant/Constable"), (0, .class_ 1113), (0, u "java/lang/constant/ConstantDesc"), (2, u "serialVersionUID"), (0, u "J"), (3, u "REPL"), (0, u "C"), (2, u "LATIN1"), (1, u "UTF16")] 323

def k9m0 : Method := { name := "<init>", desc := "()V", sig := { parameters := [], returnType := none }, accessFlags := 1, code := none }
def k9c1 : Code := { maxStack := 5, maxLocals := 2, code := jdk_42_method_3_code, exceptionTable := #[], attributes := #[] }
def k9m1 : Method := { name := "<init>", desc := "([C)V", sig := { parameters := [(.array .char)], returnType := none }, accessFlags := 1, code := some k9c1 }
def k9c2 : Code := { maxStack := 2, maxLocals := 3, code := jdk_42_method_66_code, exceptionTable := #[], attributes := #[] }
def k9m2 : Method := { name := "equals", desc := "(Ljava/lang/Object;)Z", sig := { parameters := [(.object "java/lang/Object")], returnType := some .boolean }, accessFlags := 1, code := some k9c2 }
def k9c3 : Code := { maxStack := 4, maxLocals := 6, code := jdk_42_method_149_code, exceptionTable := #[], attributes := #[] }
def k9m3 : Method := { name := "<init>", desc := "([CIILjava/lang/Void;)V", sig := { parameters := [(.array .char), .int, .int, (.object "java/lang/Void")], returnType := none }, accessFlags := 2, code := some k9c3 }
/-- java/lang/String -/
def k9 : Class := { plain "java/lang/String" (some 0) with
  accessFlags := 49
  interfaces := #[4, 3, 7, 2, 8]
  cf := some (fileOf pool9 10 #[.nestMembers #[1103]] #[{ accessFlags := 1, nameIndex := 5, descriptorIndex := 6, attributes := #[] }, { accessFlags := 1, nameIndex := 5, descriptorIndex := 1010, attributes := #[] }, { accessFlags := 1, nameIndex := 543, descriptorIndex := 573, attributes := #[] }, { accessFlags := 2, nameIndex := 5, descriptorIndex := 29, attributes := #[] }] 49 2 #[1106, 1108, 575, 1110, 1112] #[{ accessFlags := 18, nameIndex := 13, descriptorIndex := 14, attributes := #[] }, { accessFlags := 18, nameIndex := 17, descriptorIndex := 18, attributes := #[] }, { accessFlags := 2, nameIndex := 21, descriptorIndex := 22, attributes := #[] }, { accessFlags := 2, nameIndex := 25, descriptorIndex := 26, attributes := #[] }, { accessFlags := 26, nameIndex := 1116, descriptorIndex := 1117, attributes := #[] }, { accessFlags := 24, nameIndex := 40, descriptorIndex := 26, attributes := #[] }, { accessFlags := 26, nameIndex := 1101, descriptorIndex := 1102, attributes := #[] }, { accessFlags := 26, nameIndex := 1121, descriptorIndex := 1122, attributes := #[] }, { accessFlags := 25, nameIndex := 599, descriptorIndex := 600, attributes := #[] }, { accessFlags := 24, nameIndex := 1125, descriptorIndex := 18, attributes := #[] }, { accessFlags := 24, nameIndex := 1127, descriptorIndex := 18, attributes := #[] }])
  fields := #[{ name := "value", type := (.array .byte), accessFlags := 18, slot := 0, constantValue := 0 }, { name := "coder", type := .byte, accessFlags := 18, slot := 1, constantValue := 0 }, { name := "hash", type := .int, accessFlags := 2, slot := 2, constantValue := 0 }, { name := "hashIsZero", type := .boolean, accessFlags := 2, slot := 3, constantValue := 0 }, { name := "serialVersionUID", type := .long, accessFlags := 26, slot := 0, constantValue := 0 }, { name := "COMPACT_STRINGS", type := .boolean, accessFlags := 24, slot := 1, constantValue := 0 }, { name := "serialPersistentFields", type := (.array (.object "java/io/ObjectStreamField")), accessFlags := 26, slot := 2, constantValue := 0 }, { name := "REPL", type := .char, accessFlags := 26, slot := 3, constantValue := 0 }, { name := "CASE_INSENSITIVE_ORDER", type := (.object "java/util/Comparator"), accessFlags := 25, slot := 4, constantValue := 0 }, { name := "LATIN1", type := .byte, accessFlags := 24, slot := 5, constantValue := 0 }, { name := "UTF16", type := .byte, accessFlags := 24, slot := 6, constantValue := 0 }]
  methods := #[k9m0, k9m1, k9m2, k9m3]
  instanceTypes := #[(.array .byte), .byte, .int, .boolean]
  staticTypes := #[.long, .boolean, (.array (.object "java/io/ObjectStreamField")), .char, (.object "java/util/Comparator"), .byte, .byte]
  resolved := Array.replicate 1451 none
  statics := some 1 }

def pool10 : Array CpInfo := pool [(6, .class_ 8), (1, u "java/lang/Object"), (0, u "<init>"), (0, u "()V"), (1, .class_ 14), (1, u "java/lang/StringUTF16"), (31, u "$assertionsDisabled"), (0, u "Z"), (13, u "HI_BYTE_SHIFT"), (0, u "I"), (2, u "LO_BYTE_SHIFT"), (49, .methodref 12 116), (0, .nameAndType 117 118), (0, u "compress"), (0, u "([CI[BII)I"), (3, u "([CII)[B"), (138, u "coderFromArrayLen"), (0, u "([BI)B"), (106, .class_ 371), (1, u "java/lang/StringUTF16$LinesSpliterator"), (58, u "MAX_LENGTH"), (196, .class_ 628), (0, u "java/lang/StringUTF16$CodePointsSpliterator"), (0, .class_ 630), (0, u "java/lang/StringUTF16$CharsSpliterator")] 4

def k10m0 : Method := { name := "<init>", desc := "()V", sig := { parameters := [], returnType := none }, accessFlags := 0, code := none }
def k10c1 : Code := { maxStack := 2, maxLocals := 2, code := jdk_52_method_15_code, exceptionTable := #[], attributes := #[] }
def k10m1 : Method := { name := "coderFromArrayLen", desc := "([BI)B", sig := { parameters := [(.array .byte), .int], returnType := some .byte }, accessFlags := 8, code := some k10c1 }
def k10c2 : Code := { maxStack := 5, maxLocals := 6, code := jdk_52_method_16_code, exceptionTable := #[], attributes := #[] }
def k10m2 : Method := { name := "compress", desc := "([CII)[B", sig := { parameters := [(.array .char), .int, .int], returnType := some (.array .byte) }, accessFlags := 9, code := some k10c2 }
def k10c3 : Code := { maxStack := 3, maxLocals := 7, code := jdk_52_method_21_code, exceptionTable := #[], attributes := #[] }
def k10m3 : Method := { name := "compress", desc := "([CI[BII)I", sig := { parameters := [(.array .char), .int, (.array .byte), .int, .int], returnType := some .int }, accessFlags := 9, code := some k10c3 }
/-- java/lang/StringUTF16 -/
def k10 : Class := { plain "java/lang/StringUTF16" (some 0) with
  accessFlags := 48
  interfaces := #[]
  cf := some (fileOf pool10 12 #[.nestMembers #[627, 629, 369]] #[{ accessFlags := 0, nameIndex := 9, descriptorIndex := 10, attributes := #[] }, { accessFlags := 8, nameIndex := 261, descriptorIndex := 262, attributes := #[] }, { accessFlags := 9, nameIndex := 117, descriptorIndex := 122, attributes := #[] }, { accessFlags := 9, nameIndex := 117, descriptorIndex := 118, attributes := #[] }] 48 6 #[] #[{ accessFlags := 26, nameIndex := 61, descriptorIndex := 62, attributes := #[] }, { accessFlags := 26, nameIndex := 65, descriptorIndex := 62, attributes := #[] }, { accessFlags := 24, nameIndex := 430, descriptorIndex := 62, attributes := #[] }, { accessFlags := 4120, nameIndex := 46, descriptorIndex := 47, attributes := #[] }])
  fields := #[{ name := "HI_BYTE_SHIFT", type := .int, accessFlags := 26, slot := 0, constantValue := 0 }, { name := "LO_BYTE_SHIFT", type := .int, accessFlags := 26, slot := 1, constantValue := 0 }, { name := "MAX_LENGTH", type := .int, accessFlags := 24, slot := 2, constantValue := 0 }, { name := "$assertionsDisabled", type := .boolean, accessFlags := 4120, slot := 3, constantValue := 0 }]
  methods := #[k10m0, k10m1, k10m2, k10m3]
  instanceTypes := #[]
  staticTypes := #[.int, .int, .int, .boolean]
  resolved := Array.replicate 635 none
  statics := none }

def pool11 : Array CpInfo := pool [(1, .methodref 2 3), (0, .class_ 4), (0, .nameAndType 5 6), (0, u "java/lang/Object"), (0, u "<init>"), (0, u "()V"), (0, .fieldref 8 9), (0, .class_ 10), (0, .nameAndType 11 12), (0, u "com/example/holdfast/holdfast/jpql/Scanner$Token"), (0, u "kind"), (0, u "Lcom/example/holdfast/holdfast/jpql/Scanner$Kind;"), (0, .fieldref 8 14), (0, .nameAndType 15 16), (0, u "text"), (0, u "Ljava/lang/String;"), (0, .fieldref 8 18), (0, .nameAndType 19 20), (0, u "position"), (0, u "I"), (0, .fieldref 8 22), (0, .nameAndType 23 20), (0, u "end"), (1, .class_ 27), (1, u "com/example/holdfast/holdfast/jpql/Scanner$Kind"), (2, .class_ 32), (1, u "java/lang/String"), (1, u "(Ljava/lang/String;)Z"), (0, .fieldref 25 36), (0, .nameAndType 37 12), (0, u "SYMBOL"), (0, .methodref 30 39), (0, .nameAndType 40 41), (0, u "equals"), (0, u "(Ljava/lang/Object;)Z"), (1, .class_ 45), (1, u "com/example/holdfast/holdfast/jpql/Scanner"), (37, u "(Lcom/example/holdfast/holdfast/jpql/Scanner$Kind;Ljava/lang/String;II)V"), (9, u "isSymbol")] 27

def k11c0 : Code := { maxStack := 2, maxLocals := 5, code := prog_10_method_1_code, exceptionTable := #[], attributes := #[] }
def k11m0 : Method := { name := "<init>", desc := "(Lcom/example/holdfast/holdfast/jpql/Scanner$Kind;Ljava/lang/String;II)V", sig := { parameters := [(.object "com/example/holdfast/holdfast/jpql/Scanner$Kind"), (.object "java/lang/String"), .int, .int], returnType := none }, accessFlags := 0, code := some k11c0 }
def k11c1 : Code := { maxStack := 2, maxLocals := 2, code := prog_10_method_6_code, exceptionTable := #[], attributes := #[] }
def k11m1 : Method := { name := "isSymbol", desc := "(Ljava/lang/String;)Z", sig := { parameters := [(.object "java/lang/String")], returnType := some .boolean }, accessFlags := 0, code := some k11c1 }
/-- com/example/holdfast/holdfast/jpql/Scanner$Token -/
def k11 : Class := { plain "com/example/holdfast/holdfast/jpql/Scanner$Token" (some 0) with
  accessFlags := 32
  interfaces := #[]
  cf := some (fileOf pool11 8 #[.nestHost 43] #[{ accessFlags := 0, nameIndex := 5, descriptorIndex := 83, attributes := #[] }, { accessFlags := 0, nameIndex := 93, descriptorIndex := 34, attributes := #[] }] 32 2 #[] #[{ accessFlags := 18, nameIndex := 11, descriptorIndex := 12, attributes := #[] }, { accessFlags := 18, nameIndex := 15, descriptorIndex := 16, attributes := #[] }, { accessFlags := 18, nameIndex := 19, descriptorIndex := 20, attributes := #[] }, { accessFlags := 18, nameIndex := 23, descriptorIndex := 20, attributes := #[] }])
  fields := #[{ name := "kind", type := (.object "com/example/holdfast/holdfast/jpql/Scanner$Kind"), accessFlags := 18, slot := 0, constantValue := 0 }, { name := "text", type := (.object "java/lang/String"), accessFlags := 18, slot := 1, constantValue := 0 }, { name := "position", type := .int, accessFlags := 18, slot := 2, constantValue := 0 }, { name := "end", type := .int, accessFlags := 18, slot := 3, constantValue := 0 }]
  methods := #[k11m0, k11m1]
  instanceTypes := #[(.object "com/example/holdfast/holdfast/jpql/Scanner$Kind"), (.object "java/lang/String"), .int, .int]
  staticTypes := #[]
  resolved := Array.replicate 121 none
  statics := none }

def pool12 : Array CpInfo := pool [(4, .class_ 6), (1, u "java/lang/Object"), (0, u "<init>"), (0, u "()V"), (5, .class_ 16), (1, u "java/lang/StringLatin1"), (104, u "$assertionsDisabled"), (0, u "Z"), (98, .class_ 223), (1, u "java/lang/StringLatin1$LinesSpliterator"), (57, u "equals"), (0, u "([B[B)Z"), (107, .class_ 391), (0, u "java/lang/StringLatin1$CharsSpliterator")] 3

def k12m0 : Method := { name := "<init>", desc := "()V", sig := { parameters := [], returnType := none }, accessFlags := 0, code := none }
def k12c1 : Code := { maxStack := 3, maxLocals := 3, code := jdk_43_method_13_code, exceptionTable := #[], attributes := #[] }
def k12m1 : Method := { name := "equals", desc := "([B[B)Z", sig := { parameters := [(.array .byte), (.array .byte)], returnType := some .boolean }, accessFlags := 9, code := some k12c1 }
/-- java/lang/StringLatin1 -/
def k12 : Class := { plain "java/lang/StringLatin1" (some 0) with
  accessFlags := 48
  interfaces := #[]
  cf := some (fileOf pool12 14 #[.nestMembers #[390, 221]] #[{ accessFlags := 0, nameIndex := 7, descriptorIndex := 8, attributes := #[] }, { accessFlags := 9, nameIndex := 281, descriptorIndex := 282, attributes := #[] }] 48 4 #[] #[{ accessFlags := 4120, nameIndex := 121, descriptorIndex := 122, attributes := #[] }])
  fields := #[{ name := "$assertionsDisabled", type := .boolean, accessFlags := 4120, slot := 0, constantValue := 0 }]
  methods := #[k12m0, k12m1]
  instanceTypes := #[]
  staticTypes := #[.boolean]
  resolved := Array.replicate 395 none
  statics := none }

def pool13 : Array CpInfo := pool [(2, .class_ 4), (1, u "java/lang/Object"), (0, u "<init>"), (0, u "()V"), (17, .class_ 26), (1, u "jdk/internal/util/Preconditions"), (28, .class_ 56), (0, u "jdk/internal/util/Preconditions$4"), (57, .class_ 115), (0, u "jdk/internal/util/Preconditions$1"), (7, u "SIOOBE_FORMATTER"), (0, u "Ljava/util/function/BiFunction;"), (0, .class_ 126), (0, u "jdk/internal/util/Preconditions$2"), (3, u "AIOOBE_FORMATTER"), (0, .class_ 132), (0, u "jdk/internal/util/Preconditions$3"), (3, u "IOOBE_FORMATTER")] 57

def k13m0 : Method := { name := "<init>", desc := "()V", sig := { parameters := [], returnType := none }, accessFlags := 1, code := none }
/-- jdk/internal/util/Preconditions -/
def k13 : Class := { plain "jdk/internal/util/Preconditions" (some 0) with
  accessFlags := 33
  interfaces := #[]
  cf := some (fileOf pool13 24 #[.nestMembers #[55, 131, 125, 114]] #[{ accessFlags := 1, nameIndex := 5, descriptorIndex := 6, attributes := #[] }] 33 2 #[] #[{ accessFlags := 25, nameIndex := 123, descriptorIndex := 124, attributes := #[] }, { accessFlags := 25, nameIndex := 130, descriptorIndex := 124, attributes := #[] }, { accessFlags := 25, nameIndex := 136, descriptorIndex := 124, attributes := #[] }])
  fields := #[{ name := "SIOOBE_FORMATTER", type := (.object "java/util/function/BiFunction"), accessFlags := 25, slot := 0, constantValue := 0 }, { name := "AIOOBE_FORMATTER", type := (.object "java/util/function/BiFunction"), accessFlags := 25, slot := 1, constantValue := 0 }, { name := "IOOBE_FORMATTER", type := (.object "java/util/function/BiFunction"), accessFlags := 25, slot := 2, constantValue := 0 }]
  methods := #[k13m0]
  instanceTypes := #[]
  staticTypes := #[(.object "java/util/function/BiFunction"), (.object "java/util/function/BiFunction"), (.object "java/util/function/BiFunction")]
  resolved := Array.replicate 194 none
  statics := some 2 }

def pool14 : Array CpInfo := pool [(9, u "<init>"), (6, .class_ 18), (1, u "java/lang/Object"), (0, u "()V"), (1, .class_ 23), (1, u "jdk/internal/util/ArraysSupport"), (0, u "LOG2_ARRAY_LONG_INDEX_SCALE"), (0, u "I"), (2, u "U"), (0, u "Ljdk/internal/misc/Unsafe;"), (8, u "BIG_ENDIAN"), (0, u "Z"), (8, u "LOG2_BYTE_BIT_SIZE"), (4, u "LOG2_ARRAY_INT_INDEX_SCALE"), (54, u "JLA"), (0, u "Ljdk/internal/access/JavaLangAccess;"), (11, u "LOG2_ARRAY_BOOLEAN_INDEX_SCALE"), (9, u "LOG2_ARRAY_BYTE_INDEX_SCALE"), (5, u "LOG2_ARRAY_CHAR_INDEX_SCALE"), (5, u "LOG2_ARRAY_SHORT_INDEX_SCALE"), (18, u "LOG2_ARRAY_FLOAT_INDEX_SCALE"), (24, u "LOG2_ARRAY_DOUBLE_INDEX_SCALE"), (89, u "T_BOOLEAN"), (2, u "T_CHAR"), (1, u "T_FLOAT"), (1, u "T_DOUBLE"), (1, u "T_BYTE"), (1, u "T_SHORT"), (1, u "T_INT"), (1, u "T_LONG"), (1, u "SOFT_MAX_ARRAY_LENGTH")] 83

def k14m0 : Method := { name := "<init>", desc := "()V", sig := { parameters := [], returnType := none }, accessFlags := 2, code := none }
/-- jdk/internal/util/ArraysSupport -/
def k14 : Class := { plain "jdk/internal/util/ArraysSupport" (some 0) with
  accessFlags := 33
  interfaces := #[]
  cf := some (fileOf pool14 21 #[] #[{ accessFlags := 2, nameIndex := 9, descriptorIndex := 19, attributes := #[] }] 33 16 #[] #[{ accessFlags := 24, nameIndex := 28, descriptorIndex := 29, attributes := #[] }, { accessFlags := 26, nameIndex := 38, descriptorIndex := 39, attributes := #[] }, { accessFlags := 25, nameIndex := 121, descriptorIndex := 25, attributes := #[] }, { accessFlags := 25, nameIndex := 131, descriptorIndex := 25, attributes := #[] }, { accessFlags := 25, nameIndex := 137, descriptorIndex := 25, attributes := #[] }, { accessFlags := 25, nameIndex := 143, descriptorIndex := 25, attributes := #[] }, { accessFlags := 25, nameIndex := 53, descriptorIndex := 25, attributes := #[] }, { accessFlags := 25, nameIndex := 24, descriptorIndex := 25, attributes := #[] }, { accessFlags := 25, nameIndex := 162, descriptorIndex := 25, attributes := #[] }, { accessFlags := 25, nameIndex := 187, descriptorIndex := 25, attributes := #[] }, { accessFlags := 26, nameIndex := 48, descriptorIndex := 25, attributes := #[] }, { accessFlags := 25, nameIndex := 277, descriptorIndex := 25, attributes := #[] }, { accessFlags := 25, nameIndex := 280, descriptorIndex := 25, attributes := #[] }, { accessFlags := 25, nameIndex := 282, descriptorIndex := 25, attributes := #[] }, { accessFlags := 25, nameIndex := 284, descriptorIndex := 25, attributes := #[] }, { accessFlags := 25, nameIndex := 286, descriptorIndex := 25, attributes := #[] }, { accessFlags := 25, nameIndex := 288, descriptorIndex := 25, attributes := #[] }, { accessFlags := 25, nameIndex := 290, descriptorIndex := 25, attributes := #[] }, { accessFlags := 25, nameIndex := 292, descriptorIndex := 25, attributes := #[] }, { accessFlags := 26, nameIndex := 108, descriptorIndex := 109, attributes := #[] }, { accessFlags := 25, nameIndex := 294, descriptorIndex := 25, attributes := #[] }])
  fields := #[{ name := "U", type := (.object "jdk/internal/misc/Unsafe"), accessFlags := 24, slot := 0, constantValue := 0 }, { name := "BIG_ENDIAN", type := .boolean, accessFlags := 26, slot := 1, constantValue := 0 }, { name := "LOG2_ARRAY_BOOLEAN_INDEX_SCALE", type := .int, accessFlags := 25, slot := 2, constantValue := 0 }, { name := "LOG2_ARRAY_BYTE_INDEX_SCALE", type := .int, accessFlags := 25, slot := 3, constantValue := 0 }, { name := "LOG2_ARRAY_CHAR_INDEX_SCALE", type := .int, accessFlags := 25, slot := 4, constantValue := 0 }, { name := "LOG2_ARRAY_SHORT_INDEX_SCALE", type := .int, accessFlags := 25, slot := 5, constantValue := 0 }, { name := "LOG2_ARRAY_INT_INDEX_SCALE", type := .int, accessFlags := 25, slot := 6, constantValue := 0 }, { name := "LOG2_ARRAY_LONG_INDEX_SCALE", type := .int, accessFlags := 25, slot := 7, constantValue := 0 }, { name := "LOG2_ARRAY_FLOAT_INDEX_SCALE", type := .int, accessFlags := 25, slot := 8, constantValue := 0 }, { name := "LOG2_ARRAY_DOUBLE_INDEX_SCALE", type := .int, accessFlags := 25, slot := 9, constantValue := 0 }, { name := "LOG2_BYTE_BIT_SIZE", type := .int, accessFlags := 26, slot := 10, constantValue := 0 }, { name := "T_BOOLEAN", type := .int, accessFlags := 25, slot := 11, constantValue := 0 }, { name := "T_CHAR", type := .int, accessFlags := 25, slot := 12, constantValue := 0 }, { name := "T_FLOAT", type := .int, accessFlags := 25, slot := 13, constantValue := 0 }, { name := "T_DOUBLE", type := .int, accessFlags := 25, slot := 14, constantValue := 0 }, { name := "T_BYTE", type := .int, accessFlags := 25, slot := 15, constantValue := 0 }, { name := "T_SHORT", type := .int, accessFlags := 25, slot := 16, constantValue := 0 }, { name := "T_INT", type := .int, accessFlags := 25, slot := 17, constantValue := 0 }, { name := "T_LONG", type := .int, accessFlags := 25, slot := 18, constantValue := 0 }, { name := "JLA", type := (.object "jdk/internal/access/JavaLangAccess"), accessFlags := 26, slot := 19, constantValue := 0 }, { name := "SOFT_MAX_ARRAY_LENGTH", type := .int, accessFlags := 25, slot := 20, constantValue := 0 }]
  methods := #[k14m0]
  instanceTypes := #[]
  staticTypes := #[(.object "jdk/internal/misc/Unsafe"), .boolean, .int, .int, .int, .int, .int, .int, .int, .int, .int, .int, .int, .int, .int, .int, .int, .int, .int, (.object "jdk/internal/access/JavaLangAccess"), .int]
  resolved := Array.replicate 378 none
  statics := none }

def pool15 : Array CpInfo := pool [(1, u "java/lang/Cloneable"), (0, .class_ 1), (0, u "java/lang/Object"), (0, .class_ 3)] 3

/-- java/lang/Cloneable -/
def k15 : Class := { plain "java/lang/Cloneable" (some 0) with
  accessFlags := 1537
  interfaces := #[]
  cf := some (fileOf pool15 2 #[] #[] 1537 4 #[] #[])
  fields := #[]
  methods := #[]
  instanceTypes := #[]
  staticTypes := #[]
  resolved := Array.replicate 8 none
  statics := none }

/-- the primitive byte -/
def k16 : Class := { plain "byte" none with kind := .primitive 'B', accessFlags := 0x411 }
/-- [B -/
def k17 : Class := { plain "[B" (some 0) with kind := .array 16 .byte, interfaces := #[15, 4], accessFlags := 1041 }

/-- the primitive char -/
def k18 : Class := { plain "char" none with kind := .primitive 'C', accessFlags := 0x411 }
/-- [C -/
def k19 : Class := { plain "[C" (some 0) with kind := .array 18 .char, interfaces := #[15, 4], accessFlags := 1041 }

/-- the primitive int -/
def k20 : Class := { plain "int" none with kind := .primitive 'I', accessFlags := 0x411 }
/-- [I -/
def k21 : Class := { plain "[I" (some 0) with kind := .array 20 .int, interfaces := #[15, 4], accessFlags := 1041 }

def heap : Heap := #[{ cls := 6, slots := #[.ref 3, .ref 4, .ref 5, .ref 6, .ref 7, .ref 8, .ref 9, .null], vm := .statics 6 },
  { cls := 9, slots := #[.long 0, .int 1, .null, .int 0, .null, .int 0, .int 0], vm := .statics 9 },
  { cls := 13, slots := #[.null, .null, .null], vm := .statics 13 },
  { cls := 6, slots := #[.null, .int 0, .int 0], vm := .none },
  { cls := 6, slots := #[.null, .int 1, .int 0], vm := .none },
  { cls := 6, slots := #[.null, .int 2, .int 0], vm := .none },
  { cls := 6, slots := #[.null, .int 3, .int 0], vm := .none },
  { cls := 6, slots := #[.null, .int 4, .int 0], vm := .none },
  { cls := 6, slots := #[.null, .int 5, .int 0], vm := .none },
  { cls := 6, slots := #[.null, .int 6, .int 0], vm := .none }]
def classes : Array Class := #[k0, k1, k2, k3, k4, k5, k6, k7, k8, k9, k10, k11, k12, k13, k14, k15, k16, k17, k18, k19, k20, k21]
def interned : List (Array UInt16 × Addr) := []
def slotsUsed : Nat := 39
def theMethod : MethodId := ⟨1, 1⟩
def args0 : Array Value := #[.int 5, .int 5, .int 5, .int 5]
def aboutOver (below : List Frame) : State where
  vm := { classes := classes, interned := interned.toArray }
  heap := heap
  slotsUsed := slotsUsed
  threads := #[{ frames := .invoking theMethod args0 :: below }]
def below0 : List Frame := [.native { method := ⟨0, 0⟩, args := #[] }]
def about1 : State := aboutOver below0
def p0 : Program := .bare "" "" ""
def e0 : Env := launch0.env 0 0 0
theorem w_frames : about1.frames = Frame.invoking theMethod args0 :: below0 := rfl
set_option maxRecDepth 65536 in
theorem w_args : argsFit about1.vm theMethod args0 = true := by decide +kernel
set_option maxRecDepth 65536 in
theorem w_heap : heapFits about1 = true := by decide +kernel
set_option maxRecDepth 65536 in
theorem w_runnable : about1.curStatus? = some .runnable := by decide +kernel
set_option maxRecDepth 65536 in
theorem w_alone : about1.alone = true := by decide +kernel
set_option maxRecDepth 65536 in
theorem w_named : about1.methodNamed? x = some theMethod := by decide +kernel
set_option maxRecDepth 65536 in
theorem w_hears : about1.hears theMethod below0 = true := by decide +kernel
set_option maxRecDepth 65536 in
theorem w_ripe : about1.ripe theMethod args0 below0 = true := by decide +kernel
theorem w_running : about1.status = .running := rfl
set_option maxRecDepth 65536 in
theorem w_room : about1.hasRoom e0.platform room_1 = true :=
  launch0.hasRoom_least _ room_1 (by decide +kernel) (by decide +kernel) (by decide +kernel) (by decide +kernel) (by decide +kernel) (by decide +kernel)
theorem allAtoms_all (ts : List Jvm.Cond) (a : Array Jvm.Value) (st : Jvm.State) : (allAtoms ts).before a st = ts.all (fun c => c.before a st) := by
  induction ts with
  | nil => rfl
  | cons c t ih =>
    show (Jvm.Cond.and c (allAtoms t)).before a st = _
    rw [Jvm.Cond.before_and, ih, List.all_cons]
def words1 : List Jvm.Cond := Jvm.Cond.code x code maxLocals ret :: tables_1
/-- a 'code' word, met by the world's own term for the bytes: nothing is compared byte by byte -/
theorem code_word {y : MethodName} {bytes : ByteArray} {mx : Nat} {rt : Option FieldType} {a : Array Value} {s : State} {m : MethodId} {meth : Method} {c : Code} (h1 : s.methodNamed? y = some m) (h2 : s.vm.method? m = some meth) (h3 : meth.code = some c) (h4 : c.code = bytes)
    (h5 : (c.maxLocals == mx && c.exceptionTable.isEmpty && decide (c.maxStack ≤ mostOperands) && decide (meth.sig.returnType = rt) && !meth.locks && decide (parseMethodDescriptor y.desc = some meth.sig)) = true) : (Jvm.Cond.code y bytes mx rt).before a s = true := by
  simp only [Bool.and_eq_true, beq_iff_eq, Bool.not_eq_true', decide_eq_true_eq] at h5
  obtain ⟨⟨⟨⟨⟨g1, g2⟩, g3⟩, g4⟩, g5⟩, g6⟩ := h5
  simp [Cond.before, Cond.holds, Cond.value, h1, h2, h3, h4, g1, g2, g3, g4, g5, g6]
def isCode : Jvm.Cond → Bool
  | .code _ _ _ _ => true
  | _ => false
theorem all_split {L : List Jvm.Cond} {P : Jvm.Cond → Bool} (h1 : L.all (fun c => isCode c || P c) = true) (h2 : ∀ c ∈ L.filter isCode, P c = true) : L.all P = true := by
  refine List.all_eq_true.mpr fun c hc => ?_
  have h := List.all_eq_true.mp h1 c hc
  rcases Bool.eq_false_or_eq_true (isCode c) with hi | hi
  · exact h2 c (List.mem_filter.mpr ⟨hc, hi⟩)
  · simpa [hi] using h
set_option maxRecDepth 65536 in
theorem w_c0 : (Jvm.Cond.code x code maxLocals ret).before args0 about1 = true := code_word (m := ⟨1, 1⟩) (meth := k1m1) (c := k1c1) (by decide +kernel) rfl rfl rfl (by decide +kernel)
set_option maxRecDepth 65536 in
theorem w_c1 : (Jvm.Cond.code ({ cls := "com/example/holdfast/holdfast/jpql/TokenIsSymbolPinLaw", name := "kindOf", desc := "(I)Lcom/example/holdfast/holdfast/jpql/Scanner$Kind;" } : Jvm.MethodName) method_4_code (1 : Nat) (Option.some (Jvm.ClassFile.FieldType.object "com/example/holdfast/holdfast/jpql/Scanner$Kind"))).before args0 about1 = true := code_word (m := ⟨1, 3⟩) (meth := k1m3) (c := k1c3) (by decide +kernel) rfl rfl rfl (by decide +kernel)
set_option maxRecDepth 65536 in
theorem w_c2 : (Jvm.Cond.code ({ cls := "com/example/holdfast/holdfast/jpql/TokenIsSymbolPinLaw", name := "make", desc := "(ICC)Ljava/lang/String;" } : Jvm.MethodName) method_3_code (3 : Nat) (Option.some (Jvm.ClassFile.FieldType.object "java/lang/String"))).before args0 about1 = true := code_word (m := ⟨1, 2⟩) (meth := k1m2) (c := k1c2) (by decide +kernel) rfl rfl rfl (by decide +kernel)
set_option maxRecDepth 65536 in
theorem w_c3 : (Jvm.Cond.code ({ cls := "java/lang/String", name := "<init>", desc := "([C)V" } : Jvm.MethodName) jdk_42_method_3_code (2 : Nat) (Option.none : Option Jvm.ClassFile.FieldType)).before args0 about1 = true := code_word (m := ⟨9, 1⟩) (meth := k9m1) (c := k9c1) (by decide +kernel) rfl rfl rfl (by decide +kernel)
set_option maxRecDepth 65536 in
theorem w_c4 : (Jvm.Cond.code ({ cls := "java/lang/String", name := "<init>", desc := "([CIILjava/lang/Void;)V" } : Jvm.MethodName) jdk_42_method_149_code (6 : Nat) (Option.none : Option Jvm.ClassFile.FieldType)).before args0 about1 = true := code_word (m := ⟨9, 3⟩) (meth := k9m3) (c := k9c3) (by decide +kernel) rfl rfl rfl (by decide +kernel)
set_option maxRecDepth 65536 in
theorem w_c5 : (Jvm.Cond.code ({ cls := "java/lang/Object", name := "<init>", desc := "()V" } : Jvm.MethodName) object_method_1_code (1 : Nat) (Option.none : Option Jvm.ClassFile.FieldType)).before args0 about1 = true := code_word (m := ⟨0, 0⟩) (meth := k0m0) (c := k0c0) (by decide +kernel) rfl rfl rfl (by decide +kernel)
set_option maxRecDepth 65536 in
theorem w_c6 : (Jvm.Cond.code ({ cls := "java/lang/StringUTF16", name := "compress", desc := "([CII)[B" } : Jvm.MethodName) jdk_52_method_16_code (6 : Nat) (Option.some (Jvm.ClassFile.FieldType.array Jvm.ClassFile.FieldType.byte))).before args0 about1 = true := code_word (m := ⟨10, 2⟩) (meth := k10m2) (c := k10c2) (by decide +kernel) rfl rfl rfl (by decide +kernel)
set_option maxRecDepth 65536 in
theorem w_c7 : (Jvm.Cond.code ({ cls := "java/lang/StringUTF16", name := "compress", desc := "([CI[BII)I" } : Jvm.MethodName) jdk_52_method_21_code (7 : Nat) (Option.some Jvm.ClassFile.FieldType.int)).before args0 about1 = true := code_word (m := ⟨10, 3⟩) (meth := k10m3) (c := k10c3) (by decide +kernel) rfl rfl rfl (by decide +kernel)
set_option maxRecDepth 65536 in
theorem w_c8 : (Jvm.Cond.code ({ cls := "java/lang/StringUTF16", name := "coderFromArrayLen", desc := "([BI)B" } : Jvm.MethodName) jdk_52_method_15_code (2 : Nat) (Option.some Jvm.ClassFile.FieldType.byte)).before args0 about1 = true := code_word (m := ⟨10, 1⟩) (meth := k10m1) (c := k10c1) (by decide +kernel) rfl rfl rfl (by decide +kernel)
set_option maxRecDepth 65536 in
theorem w_c9 : (Jvm.Cond.code ({ cls := "com/example/holdfast/holdfast/jpql/Scanner$Token", name := "<init>", desc := "(Lcom/example/holdfast/holdfast/jpql/Scanner$Kind;Ljava/lang/String;II)V" } : Jvm.MethodName) prog_10_method_1_code (5 : Nat) (Option.none : Option Jvm.ClassFile.FieldType)).before args0 about1 = true := code_word (m := ⟨11, 0⟩) (meth := k11m0) (c := k11c0) (by decide +kernel) rfl rfl rfl (by decide +kernel)
set_option maxRecDepth 65536 in
theorem w_c10 : (Jvm.Cond.code ({ cls := "com/example/holdfast/holdfast/jpql/Scanner$Token", name := "isSymbol", desc := "(Ljava/lang/String;)Z" } : Jvm.MethodName) prog_10_method_6_code (2 : Nat) (Option.some Jvm.ClassFile.FieldType.boolean)).before args0 about1 = true := code_word (m := ⟨11, 1⟩) (meth := k11m1) (c := k11c1) (by decide +kernel) rfl rfl rfl (by decide +kernel)
set_option maxRecDepth 65536 in
theorem w_c11 : (Jvm.Cond.code ({ cls := "java/lang/String", name := "equals", desc := "(Ljava/lang/Object;)Z" } : Jvm.MethodName) jdk_42_method_66_code (3 : Nat) (Option.some Jvm.ClassFile.FieldType.boolean)).before args0 about1 = true := code_word (m := ⟨9, 2⟩) (meth := k9m2) (c := k9c2) (by decide +kernel) rfl rfl rfl (by decide +kernel)
set_option maxRecDepth 65536 in
theorem w_c12 : (Jvm.Cond.code ({ cls := "java/lang/StringLatin1", name := "equals", desc := "([B[B)Z" } : Jvm.MethodName) jdk_43_method_13_code (3 : Nat) (Option.some Jvm.ClassFile.FieldType.boolean)).before args0 about1 = true := code_word (m := ⟨12, 1⟩) (meth := k12m1) (c := k12c1) (by decide +kernel) rfl rfl rfl (by decide +kernel)
def codes1 : List Jvm.Cond := [Jvm.Cond.code x code maxLocals ret, Jvm.Cond.code ({ cls := "com/example/holdfast/holdfast/jpql/TokenIsSymbolPinLaw", name := "kindOf", desc := "(I)Lcom/example/holdfast/holdfast/jpql/Scanner$Kind;" } : Jvm.MethodName) method_4_code (1 : Nat) (Option.some (Jvm.ClassFile.FieldType.object "com/example/holdfast/holdfast/jpql/Scanner$Kind")), Jvm.Cond.code ({ cls := "com/example/holdfast/holdfast/jpql/TokenIsSymbolPinLaw", name := "make", desc := "(ICC)Ljava/lang/String;" } : Jvm.MethodName) method_3_code (3 : Nat) (Option.some (Jvm.ClassFile.FieldType.object "java/lang/String")), Jvm.Cond.code ({ cls := "java/lang/String", name := "<init>", desc := "([C)V" } : Jvm.MethodName) jdk_42_method_3_code (2 : Nat) (Option.none : Option Jvm.ClassFile.FieldType), Jvm.Cond.code ({ cls := "java/lang/String", name := "<init>", desc := "([CIILjava/lang/Void;)V" } : Jvm.MethodName) jdk_42_method_149_code (6 : Nat) (Option.none : Option Jvm.ClassFile.FieldType), Jvm.Cond.code ({ cls := "java/lang/Object", name := "<init>", desc := "()V" } : Jvm.MethodName) object_method_1_code (1 : Nat) (Option.none : Option Jvm.ClassFile.FieldType), Jvm.Cond.code ({ cls := "java/lang/StringUTF16", name := "compress", desc := "([CII)[B" } : Jvm.MethodName) jdk_52_method_16_code (6 : Nat) (Option.some (Jvm.ClassFile.FieldType.array Jvm.ClassFile.FieldType.byte)), Jvm.Cond.code ({ cls := "java/lang/StringUTF16", name := "compress", desc := "([CI[BII)I" } : Jvm.MethodName) jdk_52_method_21_code (7 : Nat) (Option.some Jvm.ClassFile.FieldType.int), Jvm.Cond.code ({ cls := "java/lang/StringUTF16", name := "coderFromArrayLen", desc := "([BI)B" } : Jvm.MethodName) jdk_52_method_15_code (2 : Nat) (Option.some Jvm.ClassFile.FieldType.byte), Jvm.Cond.code ({ cls := "com/example/holdfast/holdfast/jpql/Scanner$Token", name := "<init>", desc := "(Lcom/example/holdfast/holdfast/jpql/Scanner$Kind;Ljava/lang/String;II)V" } : Jvm.MethodName) prog_10_method_1_code (5 : Nat) (Option.none : Option Jvm.ClassFile.FieldType), Jvm.Cond.code ({ cls := "com/example/holdfast/holdfast/jpql/Scanner$Token", name := "isSymbol", desc := "(Ljava/lang/String;)Z" } : Jvm.MethodName) prog_10_method_6_code (2 : Nat) (Option.some Jvm.ClassFile.FieldType.boolean), Jvm.Cond.code ({ cls := "java/lang/String", name := "equals", desc := "(Ljava/lang/Object;)Z" } : Jvm.MethodName) jdk_42_method_66_code (3 : Nat) (Option.some Jvm.ClassFile.FieldType.boolean), Jvm.Cond.code ({ cls := "java/lang/StringLatin1", name := "equals", desc := "([B[B)Z" } : Jvm.MethodName) jdk_43_method_13_code (3 : Nat) (Option.some Jvm.ClassFile.FieldType.boolean)]
set_option maxRecDepth 65536 in
theorem codes_eq : words1.filter isCode = codes1 := rfl
theorem w_codes : ∀ c ∈ words1.filter isCode, c.before args0 about1 = true := by
  rw [codes_eq]
  intro c hc
  simp only [codes1, List.mem_cons, List.not_mem_nil, or_false] at hc
  rcases hc with rfl | rfl | rfl | rfl | rfl | rfl | rfl | rfl | rfl | rfl | rfl | rfl | rfl
  · exact w_c0
  · exact w_c1
  · exact w_c2
  · exact w_c3
  · exact w_c4
  · exact w_c5
  · exact w_c6
  · exact w_c7
  · exact w_c8
  · exact w_c9
  · exact w_c10
  · exact w_c11
  · exact w_c12
set_option maxRecDepth 65536 in
theorem w_t1 : (words1.take 24).all (fun c => isCode c || c.before args0 about1) = true := by decide +kernel
set_option maxRecDepth 65536 in
theorem w_t2 : ((words1.drop 24).take 24).all (fun c => isCode c || c.before args0 about1) = true := by decide +kernel
set_option maxRecDepth 65536 in
theorem w_t3 : (((words1.drop 24).drop 24).take 24).all (fun c => isCode c || c.before args0 about1) = true := by decide +kernel
set_option maxRecDepth 65536 in
theorem w_t4 : (((words1.drop 24).drop 24).drop 24).all (fun c => isCode c || c.before args0 about1) = true := by decide +kernel
theorem w_tables : (allAtoms (Jvm.Cond.code x code maxLocals ret :: tables_1)).before args0 about1 = true := by
  rw [allAtoms_all]
  show words1.all (fun c => c.before args0 about1) = true
  refine all_split ?_ w_codes
  rw [← List.take_append_drop 24 words1, List.all_append, w_t1, ← List.take_append_drop 24 (words1.drop 24), List.all_append, w_t2, ← List.take_append_drop 24 ((words1.drop 24).drop 24), List.all_append, w_t3, w_t4]
  rfl
set_option maxRecDepth 65536 in
theorem w_rest : rest_1_c.before args0 about1 = true := by decide +kernel
set_option maxRecDepth 65536 in
theorem w_case : (Jvm.Cond.and given_1 narrow_1).before args0 about1 = true := by decide +kernel
set_option maxRecDepth 65536 in
theorem w_consts : constsHeld consts_1 about1 := Jvm.Lit.constsHeldB_iff.mp (by decide +kernel)
theorem w_applies : (headSpec (Jvm.Cond.code x code maxLocals ret :: tables_1) room_1).applies x e0.platform about1 = true :=
  (Spec.applies_iff w_frames).mpr ⟨w_running, w_runnable, w_alone, w_named, w_hears, w_ripe, w_room, w_tables⟩
theorem atStart : AtStart classFile x code maxLocals ret World_1 tables_1 room_1 Calls_1 rest_1 Pre_1 launch0 p0 e0 about1 theMethod args0 below0 :=
  ⟨lists_1, trivial, launch0.admits_env _ _ _, launch0.least_env, fairChoices_fair.cas, fairChoices_fair.clock, w_frames, w_args, w_heap, w_applies, ⟨w_consts, trivial⟩, w_rest, w_case⟩
end start1
theorem witness_1 : WitnessClaimed_1 := ⟨start1.p0, start1.e0, start1.about1, start1.theMethod, start1.args0, start1.below0, start1.atStart⟩
end Jvm.Pilot.@@N@@
