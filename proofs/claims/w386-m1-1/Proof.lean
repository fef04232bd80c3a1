import JvmDerived
import JvmDerived.Pilot.@@N@@Statement
import JvmDerived.Pilot.@@N@@Code
set_option linter.unusedVariables false
set_option linter.unusedSimpArgs false
namespace Jvm.RoadKit
open Sem ClassFile Op Lib Jvm.Stand Jvm.Free Jvm.LawKit
section New
variable {p : Program} {l : Launch} {e : Env} {R : Room} {s : State} {m : MethodId} {args : Array Value} {below : List Frame} {meth : Method} {c : Code} {T : State} {locs : List Loc} {cells slots : Nat}
theorem retI (X : Stand p l e R s m args below meth c T locs cells slots) (hx : p.tables.exec = Jvm.exec) {pc : Nat} {Ls : Array Slot} {z : Int32} {rest : List Value} (hret : meth.sig.returnType = some .int) (hd : decode c.code pc = .ok (.ireturn, 1)) {fs : List Frame}
    (hl : ∀ (f : JFrame) (acts : List Action), f.method = m → f.locked = none → f.entered = [] → (doReturn e (T.setTop f) acts (some (.int z))).1 = T.setFrames fs) : Steps p.tables e below (T.setTop (mkF m pc Ls (.int z :: rest))) (T.setFrames fs) := by
  have hm' : T.vm.method? m = some meth := X.method'
  have hn : narrow .int (.int z) = .int z := rfl
  show Steps p.tables e below (T.setTop { method := m, pc := pc, locals := Ls, stack := _ :: rest, locked := none }) _
  jvm_step X.here [X.here.top, hx, hd, hm', hret, hn]
  first | (intro acts; rw [hl _ acts rfl rfl rfl]) | rw [hl _ _ rfl rfl rfl]
  exact Steps.refl _
end New
end Jvm.RoadKit
/- laws to paste: Road.backV, Road.codOf, Road.lenW, Road.empW, pair_says (cut by pick.py; bodies as the Statement names them) -/
namespace Jvm.Pilot.@@N@@
namespace StrChars
open Jvm Sem ClassFile Op Lib Jvm.Stand Jvm.Free.XT Jvm.Free.ALB Jvm.Free.JM Jvm.Free
open Jvm.Lib.Cold (StaticIs)
/-- a char array whose places are chars -/
def Ch (a : Addr) (A : Cell) (U : State) : Prop := Arr .char a A U ∧ Typed .char A
theorem Ch.mv {a : Addr} {A : Cell} {U U' : State} (h : Ch a A U) (hal : U.vm.Alike U'.vm) (hh : U'.heap = U.heap) : Ch a A U' := ⟨h.1.mv hal hh, h.2⟩
theorem Ch.keep {a : Addr} {A : Cell} {U U' : State} (h : Ch a A U) (hal : U.vm.Alike U'.vm) (hk : U'.heap[a]? = some A) : Ch a A U' := ⟨h.1.keep hal hk, h.2⟩
/-- what place i of a char[]'s cell holds -/
def cv (A : Cell) (i : Nat) : Int32 := match A.slots[i]? with | some (.int x) => x | _ => 0
theorem Ch.get {a : Addr} {A : Cell} {U : State} (h : Ch a A U) {i : Nat} (hi : i < A.slots.size) : A.slots[i]? = some (.int (cv A i)) := by
  have e := Array.getElem?_eq_getElem hi
  have f := h.2 i _ e
  unfold cv; rw [e]
  generalize A.slots[i] = v at f
  cases v <;> simp [fits] at f ⊢
/-- the byte that i2b leaves of a char -/
def lo8 (x : Int32) : Int32 := x.toInt8.toInt32
theorem fits_lo8 (y : Int32) : fits .byte (.int (lo8 y)) = true := by
  have h1 := y.toInt8.le_toInt
  have h2 := y.toInt8.toInt_lt
  simp only [lo8, fits, Bool.and_eq_true, decide_eq_true_eq, Int32.le_iff_toInt_le, Int8.toInt_toInt32, show (-128 : Int32).toInt = -128 from by decide, show (127 : Int32).toInt = 127 from by decide]
  omega
/-- A' is A but that each place j of lo .. hi - 1 holds f j -/
def Laid (A A' : Cell) (lo hi : Nat) (f : Nat → Value) : Prop := A'.cls = A.cls ∧ A'.vm = A.vm ∧ A'.slots.size = A.slots.size ∧ ∀ i, A'.slots[i]? = if lo ≤ i ∧ i < hi then some (f i) else A.slots[i]?
theorem Laid.zero (A : Cell) (lo : Nat) (f : Nat → Value) : Laid A A lo (lo + 0) f := ⟨rfl, rfl, rfl, fun i => by rw [if_neg (by omega)]⟩
theorem Laid.step {A Ak : Cell} {lo k : Nat} {f : Nat → Value} {v : Value} (h : Laid A Ak lo k f) (hlo : lo ≤ k) (hk : k < Ak.slots.size) (hv : v = f k) : Laid A (Ak.setSlot k v) lo (k + 1) f := by
  refine ⟨h.1, h.2.1, by simpa [Cell.setSlot] using h.2.2.1, fun i => ?_⟩
  by_cases e : k = i
  · subst e; rw [Cell.slots_setSlot_self v hk, if_pos (by omega), hv]
  · rw [Cell.slots_setSlot_ne v e, h.2.2.2 i]
    by_cases q : lo ≤ i ∧ i < k
    · rw [if_pos q, if_pos (by omega)]
    · rw [if_neg q, if_neg (by omega)]
def U16 : String := "java/lang/StringUTF16"
namespace Cmp5
def yN : MethodName := ⟨"java/lang/StringUTF16", "compress", "([CI[BII)I"⟩
abbrev yB : ByteArray := jdk_52_method_21_code
theorem d0 : decode yB 0 = .ok (.iconst 0, 1) := by decide +kernel
theorem d1 : decode yB 1 = .ok (.istore 5, 2) := by decide +kernel
theorem d3 : decode yB 3 = .ok (.iload 5, 2) := by decide +kernel
theorem d5 : decode yB 5 = .ok (.iload 4, 2) := by decide +kernel
theorem d7 : decode yB 7 = .ok (.if_icmp (.ge) 37, 3) := by decide +kernel
theorem d10 : decode yB 10 = .ok (.aload_n 0, 1) := by decide +kernel
theorem d11 : decode yB 11 = .ok (.iload_n 1, 1) := by decide +kernel
theorem d12 : decode yB 12 = .ok (.caload, 1) := by decide +kernel
theorem d13 : decode yB 13 = .ok (.istore 6, 2) := by decide +kernel
theorem d15 : decode yB 15 = .ok (.iload 6, 2) := by decide +kernel
theorem d17 : decode yB 17 = .ok (.sipush 255, 3) := by decide +kernel
theorem d20 : decode yB 20 = .ok (.if_icmp (.le) 6, 3) := by decide +kernel
theorem d26 : decode yB 26 = .ok (.aload_n 2, 1) := by decide +kernel
theorem d27 : decode yB 27 = .ok (.iload_n 3, 1) := by decide +kernel
theorem d28 : decode yB 28 = .ok (.iload 6, 2) := by decide +kernel
theorem d30 : decode yB 30 = .ok (.i2b, 1) := by decide +kernel
theorem d31 : decode yB 31 = .ok (.bastore, 1) := by decide +kernel
theorem d32 : decode yB 32 = .ok (.iinc 1 1, 3) := by decide +kernel
theorem d35 : decode yB 35 = .ok (.iinc 3 1, 3) := by decide +kernel
theorem d38 : decode yB 38 = .ok (.iinc 5 1, 3) := by decide +kernel
theorem d41 : decode yB 41 = .ok (.goto (-38), 3) := by decide +kernel
theorem d44 : decode yB 44 = .ok (.iload 4, 2) := by decide +kernel
theorem d46 : decode yB 46 = .ok (.ireturn, 1) := by decide +kernel
def site : List Cond := []
def tab : Cond := tabOf yN yB 7 (some .int) site
def P (b : Addr) (A : Cell) (d : Addr) (B : Cell) (o q len : Nat) (args : Array Value) (s : State) : Prop := args = #[.ref b, .int (Int32.ofNat o), .ref d, .int (Int32.ofNat q), .int (Int32.ofNat len)] ∧ Ch b A s ∧ Arr .byte d B s ∧ b ≠ d ∧ o + len ≤ A.slots.size ∧ q + len ≤ B.slots.size ∧ ∀ i, i < len → ¬ 255 < cv A (o + i)
def E (b : Addr) (A : Cell) (d : Addr) (B : Cell) (o q len : Nat) (r : Option Value) (s u : State) : Prop := r = some (.int (Int32.ofNat len)) ∧ ∃ B', Put d B' s u ∧ Laid B B' q (q + len) (fun j => Value.int (lo8 (cv A (o + (j - q)))))
/-- no char of the range above 255: len; the places written hold each char's low byte -/
theorem law (l : Launch) (b : Addr) (A : Cell) (d : Addr) (B : Cell) (o q len : Nat) : Law l yN 5 5 0 0 yB 7 (some .int) site (P b A d B o q len) (E b A d B o q len) (copyLocs d q len) 0 0 := by
  refine Law.of_walk (plainFor_of_name (by decide +kernel)) (by decide +kernel) (by decide +kernel) (by decide) (fun _ _ h => by rw [h.1]; rfl) (fun _ U U' hal hh h => ⟨h.1, h.2.1.mv hal hh, h.2.2.1.mv hal hh, h.2.2.2⟩) (fun r U U' V V' h1 hal h2 h => ⟨h.1, h.2.elim fun B' q => ⟨B', q.1.mv h1 h2, q.2⟩⟩) ?_
  intro p e s m args below meth c s₁ X0 hexec hbytes hml hret hlk hnm hown hh0 W hP
  obtain ⟨rfl, hA, hB, hne, l1, l2, hp⟩ := hP
  have c1 : Steps p.tables e below (s₁.setTop (entryFrame m #[.ref b, .int (Int32.ofNat o), .ref d, .int (Int32.ofNat q), .int (Int32.ofNat len)] 7)) (s₁.setTop (mkF m 0 #[.val (.ref b), .val (.int (Int32.ofNat o)), .val (.ref d), .val (.int (Int32.ofNat q)), .val (.int (Int32.ofNat len)), .unset, .unset] [])) := entry rfl
  have hA0 := hA.1.mv X0.warmed.alike hh0
  have hB0 := hB.mv X0.warmed.alike hh0
  have a31 := hA.1.2.2.2
  have c2 : Steps p.tables e below (s₁.setTop (entryFrame m #[.ref b, .int (Int32.ofNat o), .ref d, .int (Int32.ofNat q), .int (Int32.ofNat len)] 7)) (s₁.setTop (mkF m 3 #[.val (.ref b), .val (.int (Int32.ofNat o)), .val (.ref d), .val (.int (Int32.ofNat q)), .val (.int (Int32.ofNat len)), .val (.int 0), .unset] [])) := c1.trans (by
    refine iconstV X0.here hexec rfl 0 (hb hbytes d0) (by decide) ?_
    refine XS.istore X0.here hexec rfl (hb hbytes d1) rfl rfl ?_
    exact Steps.refl _)
  have loop : ∀ (r i : Nat), i + r = len → ∀ (z : Slot), (z = .unset ∨ ∃ w, z = .val w ∧ w.category = 1) → ∀ (Tl : State) (Bk : Cell), Stand p l e { frames := 0, locals := 0, cells := 0, slots := 0 } s m #[.ref b, .int (Int32.ofNat o), .ref d, .int (Int32.ofNat q), .int (Int32.ofNat len)] below meth c Tl ([] ++ copyLocs d q i) 0 0 → Put d Bk s₁ Tl → Laid B Bk q (q + i) (fun j => Value.int (lo8 (cv A (o + (j - q))))) →
      Steps p.tables e below (s₁.setTop (entryFrame m #[.ref b, .int (Int32.ofNat o), .ref d, .int (Int32.ofNat q), .int (Int32.ofNat len)] 7)) (Tl.setTop (mkF m 3 #[.val (.ref b), .val (.int (Int32.ofNat (o + i))), .val (.ref d), .val (.int (Int32.ofNat (q + i))), .val (.int (Int32.ofNat len)), .val (.int (Int32.ofNat i)), z] [])) → ∃ (T' : State) (B' : Cell) (z' : Slot), Stand p l e { frames := 0, locals := 0, cells := 0, slots := 0 } s m #[.ref b, .int (Int32.ofNat o), .ref d, .int (Int32.ofNat q), .int (Int32.ofNat len)] below meth c T' ([] ++ copyLocs d q len) 0 0 ∧ Put d B' s₁ T' ∧ Laid B B' q (q + len) (fun j => Value.int (lo8 (cv A (o + (j - q))))) ∧
      Steps p.tables e below (s₁.setTop (entryFrame m #[.ref b, .int (Int32.ofNat o), .ref d, .int (Int32.ofNat q), .int (Int32.ofNat len)] 7)) (T'.setTop (mkF m 3 #[.val (.ref b), .val (.int (Int32.ofNat (o + len))), .val (.ref d), .val (.int (Int32.ofNat (q + len))), .val (.int (Int32.ofNat len)), .val (.int (Int32.ofNat len)), z'] [])) := by
    intro r
    induction r with
    | zero =>
      intro i hi z hz Tl Bk Xl pl fl cl
      have hil : i = len := by omega
      rw [hil] at Xl fl cl
      exact ⟨Tl, Bk, z, Xl, pl, fl, cl⟩
    | succ r ih =>
      intro i hi z hz Tl Bk Xl pl fl cl
      have all := X0.warmed.alike.symm.trans Xl.warmed.alike
      have hAl := hA0.keep all (pl.other hne hA0.1)
      have hBk := hB0.like all pl.1 fl.1 fl.2.1 fl.2.2.1
      have hlt : q + i < Bk.slots.size := by rw [fl.2.2.1]; omega
      have c3 : Steps p.tables e below (s₁.setTop (entryFrame m #[.ref b, .int (Int32.ofNat o), .ref d, .int (Int32.ofNat q), .int (Int32.ofNat len)] 7)) (Tl.setTop (mkF m 12 #[.val (.ref b), .val (.int (Int32.ofNat (o + i))), .val (.ref d), .val (.int (Int32.ofNat (q + i))), .val (.int (Int32.ofNat len)), .val (.int (Int32.ofNat i)), z] [.int (Int32.ofNat (o + i)), .ref b])) := cl.trans (by
        refine XS.iload Xl.here hexec rfl (hb hbytes d3) rfl ?_
        refine XS.iload Xl.here hexec rfl (hb hbytes d5) rfl ?_
        refine XS.icmpNo Xl.here hexec rfl (hb hbytes d7) rfl (ii_ge_f (lt32 (by omega) (by omega))) ?_
        refine XS.aloadN Xl.here hexec rfl (hb hbytes d10) rfl rfl ?_
        refine XS.iloadN Xl.here hexec rfl (hb hbytes d11) rfl ?_
        exact Steps.refl _)
      have c4 : Steps p.tables e below (s₁.setTop (entryFrame m #[.ref b, .int (Int32.ofNat o), .ref d, .int (Int32.ofNat q), .int (Int32.ofNat len)] 7)) (Tl.setTop (mkF m 13 #[.val (.ref b), .val (.int (Int32.ofNat (o + i))), .val (.ref d), .val (.int (Int32.ofNat (q + i))), .val (.int (Int32.ofNat len)), .val (.int (Int32.ofNat i)), z] [.int (cv A (o + i))])) := c3.trans (by
        refine Xl.aget hexec hAl rfl (hA.get (i := o + i) (by omega)) rfl rfl (hb hbytes d12) ?_
        exact Steps.refl _)
      have c5 : Steps p.tables e below (s₁.setTop (entryFrame m #[.ref b, .int (Int32.ofNat o), .ref d, .int (Int32.ofNat q), .int (Int32.ofNat len)] 7)) (Tl.setTop (mkF m 15 #[.val (.ref b), .val (.int (Int32.ofNat (o + i))), .val (.ref d), .val (.int (Int32.ofNat (q + i))), .val (.int (Int32.ofNat len)), .val (.int (Int32.ofNat i)), .val (.int (cv A (o + i)))] [])) := c4.trans (by
        refine XS.istoreS Xl.here hexec rfl (hb hbytes d13) rfl rfl hz ?_
        exact Steps.refl _)
      have c6 : Steps p.tables e below (s₁.setTop (entryFrame m #[.ref b, .int (Int32.ofNat o), .ref d, .int (Int32.ofNat q), .int (Int32.ofNat len)] 7)) (Tl.setTop (mkF m 31 #[.val (.ref b), .val (.int (Int32.ofNat (o + i))), .val (.ref d), .val (.int (Int32.ofNat (q + i))), .val (.int (Int32.ofNat len)), .val (.int (Int32.ofNat i)), .val (.int (cv A (o + i)))] [.int (lo8 (cv A (o + i))), .int (Int32.ofNat (q + i)), .ref d])) := c5.trans (by
        refine XS.iload Xl.here hexec rfl (hb hbytes d15) rfl ?_
        refine sipushV Xl.here hexec rfl 255 (hb hbytes d17) (by decide) ?_
        refine XS.icmpYes Xl.here hexec rfl (pc0 := 20) rfl (hb hbytes d20) rfl (ii_le_t (hp i (by omega))) (by decide) rfl ?_
        refine XS.aloadN Xl.here hexec rfl (hb hbytes d26) rfl rfl ?_
        refine XS.iloadN Xl.here hexec rfl (hb hbytes d27) rfl ?_
        refine XS.iload Xl.here hexec rfl (hb hbytes d28) rfl ?_
        refine i2b Xl.here hexec rfl (hb hbytes d30) rfl ?_
        exact Steps.refl _)
      obtain ⟨T7, X7, p7, st7⟩ := Xl.aput hexec hBk rfl hlt rfl (fits_lo8 (cv A (o + i))) (g := (mkF m 31 #[.val (.ref b), .val (.int (Int32.ofNat (o + i))), .val (.ref d), .val (.int (Int32.ofNat (q + i))), .val (.int (Int32.ofNat len)), .val (.int (Int32.ofNat i)), .val (.int (cv A (o + i)))] [.int (lo8 (cv A (o + i))), .int (Int32.ofNat (q + i)), .ref d])) rfl (rest := []) rfl (hb hbytes d31)
      have c8 : Steps p.tables e below (s₁.setTop (entryFrame m #[.ref b, .int (Int32.ofNat o), .ref d, .int (Int32.ofNat q), .int (Int32.ofNat len)] 7)) (T7.setTop (mkF m 32 #[.val (.ref b), .val (.int (Int32.ofNat (o + i))), .val (.ref d), .val (.int (Int32.ofNat (q + i))), .val (.int (Int32.ofNat len)), .val (.int (Int32.ofNat i)), .val (.int (cv A (o + i)))] [])) := c6.trans (st7 _ (Steps.refl _))
      have c9 : Steps p.tables e below (s₁.setTop (entryFrame m #[.ref b, .int (Int32.ofNat o), .ref d, .int (Int32.ofNat q), .int (Int32.ofNat len)] 7)) (T7.setTop (mkF m 3 #[.val (.ref b), .val (.int (Int32.ofNat (o + i) + 1)), .val (.ref d), .val (.int (Int32.ofNat (q + i) + 1)), .val (.int (Int32.ofNat len)), .val (.int (Int32.ofNat i + 1)), .val (.int (cv A (o + i)))] [])) := c8.trans (by
        refine iincV X7.here hexec rfl 1 (hb hbytes d32) (by decide) rfl rfl ?_
        refine iincV X7.here hexec rfl 1 (hb hbytes d35) (by decide) rfl rfl ?_
        refine iincV X7.here hexec rfl 1 (hb hbytes d38) (by decide) rfl rfl ?_
        refine XS.goto X7.here hexec rfl (pc0 := 41) rfl (hb hbytes d41) (by decide) rfl ?_
        exact Steps.refl _)
      have c10 : Steps p.tables e below (s₁.setTop (entryFrame m #[.ref b, .int (Int32.ofNat o), .ref d, .int (Int32.ofNat q), .int (Int32.ofNat len)] 7)) (T7.setTop (mkF m 3 #[.val (.ref b), .val (.int (Int32.ofNat (o + (i + 1)))), .val (.ref d), .val (.int (Int32.ofNat (q + (i + 1)))), .val (.int (Int32.ofNat len)), .val (.int (Int32.ofNat (i + 1))), .val (.int (cv A (o + i)))] [])) := by
        have := c9
        rw [succ32, succ32, succ32] at this
        exact this
      exact ih (i + 1) (by omega) _ (Or.inr ⟨_, rfl, rfl⟩) T7 _ (by rw [copyLocs_step, ← List.append_assoc]; exact X7) (pl.trans p7) (fl.step (by omega) hlt (by simp)) c10
  obtain ⟨T9, B9, z9, X9, p9, f9, g9⟩ := loop len 0 (by omega) .unset (Or.inl rfl) s₁ B (by simpa [copyLocs] using X0) ⟨hB0.1, fun _ _ => rfl, rfl⟩ (Laid.zero _ _ _) c2
  have c11 : Steps p.tables e below (s₁.setTop (entryFrame m #[.ref b, .int (Int32.ofNat o), .ref d, .int (Int32.ofNat q), .int (Int32.ofNat len)] 7)) (T9.setTop (mkF m 46 #[.val (.ref b), .val (.int (Int32.ofNat (o + len))), .val (.ref d), .val (.int (Int32.ofNat (q + len))), .val (.int (Int32.ofNat len)), .val (.int (Int32.ofNat len)), z9] [.int (Int32.ofNat len)])) := g9.trans (by
    refine XS.iload X9.here hexec rfl (hb hbytes d3) rfl ?_
    refine XS.iload X9.here hexec rfl (hb hbytes d5) rfl ?_
    refine XS.icmpYes X9.here hexec rfl (pc0 := 7) rfl (hb hbytes d7) rfl (ii_ge_t (nlt32 (by omega) (Nat.le_refl _))) (by decide) rfl ?_
    refine XS.iload X9.here hexec rfl (hb hbytes d44) rfl ?_
    exact Steps.refl _)
  exact ⟨T9, some (.int (Int32.ofNat len)), _, _, _, X9, by simp, rfl, rfl, (fun h => by cases h), ⟨rfl, B9, p9.from hh0, f9⟩, fun fs hl => c11.trans (X9.ireturnOut hexec hret rfl (Or.inl rfl) (hb hbytes d46) hl)⟩
end Cmp5
namespace Cmp3
def yN : MethodName := ⟨"java/lang/StringUTF16", "compress", "([CII)[B"⟩
abbrev yB : ByteArray := jdk_52_method_16_code
theorem d0 : decode yB 0 = .ok (.iload_n 2, 1) := by decide +kernel
theorem d1 : decode yB 1 = .ok (.newarray .byte, 2) := by decide +kernel
theorem d3 : decode yB 3 = .ok (.astore_n 3, 1) := by decide +kernel
theorem d4 : decode yB 4 = .ok (.aload_n 0, 1) := by decide +kernel
theorem d5 : decode yB 5 = .ok (.iload_n 1, 1) := by decide +kernel
theorem d6 : decode yB 6 = .ok (.aload_n 3, 1) := by decide +kernel
theorem d7 : decode yB 7 = .ok (.iconst 0, 1) := by decide +kernel
theorem d8 : decode yB 8 = .ok (.iload_n 2, 1) := by decide +kernel
theorem d9 : decode yB 9 = .ok (.invokestatic 115, 3) := by decide +kernel
theorem d12 : decode yB 12 = .ok (.istore 4, 2) := by decide +kernel
theorem d14 : decode yB 14 = .ok (.iload 4, 2) := by decide +kernel
theorem d16 : decode yB 16 = .ok (.iload_n 2, 1) := by decide +kernel
theorem d17 : decode yB 17 = .ok (.if_icmp (.eq) 40, 3) := by decide +kernel
theorem d57 : decode yB 57 = .ok (.aload_n 3, 1) := by decide +kernel
theorem d58 : decode yB 58 = .ok (.areturn, 1) := by decide +kernel
def site : List Cond := [.arrayClass .byte, Cmp5.tab] ++ staticW U16 115 Cmp5.yN
def tab : Cond := tabOf yN yB 6 (some (.array .byte)) site
def P (b : Addr) (A : Cell) (o len : Nat) (args : Array Value) (s : State) : Prop := args = #[.ref b, .int (Int32.ofNat o), .int (Int32.ofNat len)] ∧ Ch b A s ∧ o + len ≤ A.slots.size ∧ len ≤ 536870912 ∧ ∀ i, i < len → ¬ 255 < cv A (o + i)
def E (b : Addr) (A : Cell) (o len : Nat) (r : Option Value) (s u : State) : Prop := NewArr .byte "[B" len (fun j => .int (lo8 (cv A (o + j)))) r s u ∧ u.heap.size = s.heap.size + 1
/-- no char of the range above 255: a new byte[] of their low bytes -/
theorem law (l : Launch) (b : Addr) (A : Cell) (o len : Nat) : Law l yN 3 3 1 18 yB 6 (some (.array .byte)) site (P b A o len) (E b A o len) [] 1 len := by
  refine Law.of_walk (plainFor_of_name (by decide +kernel)) (by decide +kernel) (by decide +kernel) (by decide) (fun _ _ h => by rw [h.1]; rfl) (fun _ U U' hal hh h => ⟨h.1, h.2.1.mv hal hh, h.2.2⟩) (fun r U U' V V' h1 hal h2 h => ⟨NewArr.mv r U U' V V' h1 hal h2 h.1, by rw [h1, h2]; exact h.2⟩) ?_
  intro p e s m args below meth c s₁ X0 hexec hbytes hml hret hlk hnm hown hh0 W hP
  obtain ⟨rfl, hA, l1, l2, hp⟩ := hP
  have a31 := hA.1.2.2.2
  have c1 : Steps p.tables e below (s₁.setTop (entryFrame m #[.ref b, .int (Int32.ofNat o), .int (Int32.ofNat len)] 6)) (s₁.setTop (mkF m 0 #[.val (.ref b), .val (.int (Int32.ofNat o)), .val (.int (Int32.ofNat len)), .unset, .unset, .unset] [])) := entry rfl
  have c2 : Steps p.tables e below (s₁.setTop (entryFrame m #[.ref b, .int (Int32.ofNat o), .int (Int32.ofNat len)] 6)) (s₁.setTop (mkF m 1 #[.val (.ref b), .val (.int (Int32.ofNat o)), .val (.int (Int32.ofNat len)), .unset, .unset, .unset] [.int (Int32.ofNat len)])) := c1.trans (by
    refine XS.iloadN X0.here hexec rfl (hb hbytes d0) rfl ?_
    exact Steps.refl _)
  obtain ⟨T3, B3, X3, ba3, bs3, bv3, bh3, bf3, st3⟩ := X0.anew hexec (atype := .byte) (wk W (.arrayClass .byte)) rfl (by show len * 1 ≤ _; omega) (by omega) (g := (mkF m 1 #[.val (.ref b), .val (.int (Int32.ofNat o)), .val (.int (Int32.ofNat len)), .unset, .unset, .unset] [.int (Int32.ofNat len)])) rfl (hb hbytes d1) (rest := []) rfl (Nat.le_refl _) (by show 0 + len ≤ len; omega)
  rw [hh0] at ba3 st3
  have kp3 : XT.Kept s T3 := (XT.Kept.of_eq hh0).push bh3
  have hA3 := hA.keep X3.warmed.alike (kp3 _ _ hA.1.1)
  have hne : b ≠ s.heap.size := hA.1.ne
  have c4 : Steps p.tables e below (s₁.setTop (entryFrame m #[.ref b, .int (Int32.ofNat o), .int (Int32.ofNat len)] 6)) (T3.setTop (mkF m 3 #[.val (.ref b), .val (.int (Int32.ofNat o)), .val (.int (Int32.ofNat len)), .unset, .unset, .unset] [.ref s.heap.size])) := c2.trans (st3 _ (Steps.refl _))
  have c5 : Steps p.tables e below (s₁.setTop (entryFrame m #[.ref b, .int (Int32.ofNat o), .int (Int32.ofNat len)] 6)) (T3.setTop (mkF m 9 #[.val (.ref b), .val (.int (Int32.ofNat o)), .val (.int (Int32.ofNat len)), .val (.ref s.heap.size), .unset, .unset] [.int (Int32.ofNat len), .int 0, .ref s.heap.size, .int (Int32.ofNat o), .ref b])) := c4.trans (by
    refine XS.astoreN X3.here hexec rfl (hb hbytes d3) rfl rfl rfl ?_
    refine XS.aloadN X3.here hexec rfl (hb hbytes d4) rfl rfl ?_
    refine XS.iloadN X3.here hexec rfl (hb hbytes d5) rfl ?_
    refine XS.aloadN X3.here hexec rfl (hb hbytes d6) rfl rfl ?_
    refine iconstV X3.here hexec rfl 0 (hb hbytes d7) (by decide) ?_
    refine XS.iloadN X3.here hexec rfl (hb hbytes d8) rfl ?_
    exact Steps.refl _)
  obtain ⟨v6, T6, X6, E6, g6⟩ := X3.callS hexec (Cmp5.law l b A s.heap.size B3 o 0 len) hown (wks W (staticW U16 115 Cmp5.yN)) (wk W Cmp5.tab) (W := 0) (Nat.le_of_ble_eq_true rfl) (Nat.le_of_ble_eq_true rfl) (Nat.le_refl _) (by show 0 + len + 0 ≤ len; omega) (g := (mkF m 9 #[.val (.ref b), .val (.int (Int32.ofNat o)), .val (.int (Int32.ofNat len)), .val (.ref s.heap.size), .unset, .unset] [.int (Int32.ofNat len), .int (Int32.ofNat 0), .ref s.heap.size, .int (Int32.ofNat o), .ref b])) rfl (by rw [hml]; rfl) c5 (argsL := [.ref b, .int (Int32.ofNat o), .ref s.heap.size, .int (Int32.ofNat 0), .int (Int32.ofNat len)]) (rest := []) rfl rfl (by show 2 * 0 + 0 ≤ _; decide) (hb hbytes d9) (⟨rfl, hA3, ba3, hne, l1, by rw [bs3]; simp, hp⟩)
  obtain ⟨rfl, B6, p6, f6⟩ := E6
  have c7 : Steps p.tables e below (s₁.setTop (entryFrame m #[.ref b, .int (Int32.ofNat o), .int (Int32.ofNat len)] 6)) (T6.setTop (mkF m 12 #[.val (.ref b), .val (.int (Int32.ofNat o)), .val (.int (Int32.ofNat len)), .val (.ref s.heap.size), .unset, .unset] [.int (Int32.ofNat len)])) := g6
  have c8 : Steps p.tables e below (s₁.setTop (entryFrame m #[.ref b, .int (Int32.ofNat o), .int (Int32.ofNat len)] 6)) (T6.setTop (mkF m 58 #[.val (.ref b), .val (.int (Int32.ofNat o)), .val (.int (Int32.ofNat len)), .val (.ref s.heap.size), .val (.int (Int32.ofNat len)), .unset] [.ref s.heap.size])) := c7.trans (by
    refine XS.istore X6.here hexec rfl (hb hbytes d12) rfl rfl ?_
    refine XS.iload X6.here hexec rfl (hb hbytes d14) rfl ?_
    refine XS.iloadN X6.here hexec rfl (hb hbytes d16) rfl ?_
    refine XS.icmpYes X6.here hexec rfl (pc0 := 17) rfl (hb hbytes d17) rfl (ii_eq_t rfl) (by decide) rfl ?_
    refine XS.aloadN X6.here hexec rfl (hb hbytes d57) rfl rfl ?_
    exact Steps.refl _)
  have X8 := X6.wide (L' := []) (cells' := 1) (slots' := len) (fun x hx hlt => by
    simp only [List.nil_append, copyLocs, List.mem_map, List.mem_range] at hx
    obtain ⟨i, -, rfl⟩ := hx
    exact absurd hlt (Nat.lt_irrefl _)) (Nat.le_refl _) (by omega)
  exact ⟨T6, some (.ref s.heap.size), _, _, _, X8, rfl, rfl, rfl, (fun h => by cases h), ⟨⟨rfl, B6, ba3.like (X3.warmed.alike.symm.trans X6.warmed.alike) p6.1 f6.1 f6.2.1 f6.2.2.1, f6.2.1.trans bv3, by rw [X6.warmed.alike.findClass, f6.1]; exact bf3, by rw [f6.2.2.1, bs3]; simp, fun j hj => by rw [f6.2.2.2 j, if_pos (by omega)]; rfl, kp3.put p6 (Nat.le_refl _)⟩, by rw [p6.2.2, bh3, hh0]; simp⟩, fun fs hl => c8.trans (X8.areturnOut hexec rfl hret rfl (hb hbytes d58) hl)⟩
end Cmp3
namespace CodL
def yN : MethodName := ⟨"java/lang/StringUTF16", "coderFromArrayLen", "([BI)B"⟩
abbrev yB : ByteArray := jdk_52_method_15_code
theorem d0 : decode yB 0 = .ok (.iload_n 1, 1) := by decide +kernel
theorem d1 : decode yB 1 = .ok (.aload_n 0, 1) := by decide +kernel
theorem d2 : decode yB 2 = .ok (.arraylength, 1) := by decide +kernel
theorem d3 : decode yB 3 = .ok (.isub, 1) := by decide +kernel
theorem d4 : decode yB 4 = .ok (.bipush 31, 2) := by decide +kernel
theorem d6 : decode yB 6 = .ok (.iushr, 1) := by decide +kernel
theorem d7 : decode yB 7 = .ok (.i2b, 1) := by decide +kernel
theorem d8 : decode yB 8 = .ok (.ireturn, 1) := by decide +kernel
def site : List Cond := []
def tab : Cond := tabOf yN yB 2 (some .byte) site
def P (d : Addr) (B : Cell) (args : Array Value) (s : State) : Prop := args = #[.ref d, .int (Int32.ofNat B.slots.size)] ∧ Arr .byte d B s
def E (r : Option Value) (s u : State) : Prop := XT.PureE (some (.int 0)) r s u
/-- an array as long as the number of chars: LATIN1 -/
theorem law (l : Launch) (d : Addr) (B : Cell) : Law l yN 2 2 0 0 yB 2 (some .byte) site (P d B) E [] 0 0 := by
  refine Law.of_walk (plainFor_of_name (by decide +kernel)) (by decide +kernel) (by decide +kernel) (by decide) (fun _ _ h => by rw [h.1]; rfl) (fun _ U U' hal hh h => ⟨h.1, h.2.mv hal hh⟩) (fun r U U' V V' h1 hal h2 h => XT.PureE.mv r U U' V V' h1 hal h2 h) ?_
  intro p e s m args below meth c s₁ X0 hexec hbytes hml hret hlk hnm hown hh0 W hP
  obtain ⟨rfl, hB⟩ := hP
  have hB0 := hB.mv X0.warmed.alike hh0
  have c1 : Steps p.tables e below (s₁.setTop (entryFrame m #[.ref d, .int (Int32.ofNat B.slots.size)] 2)) (s₁.setTop (mkF m 0 #[.val (.ref d), .val (.int (Int32.ofNat B.slots.size))] [])) := entry rfl
  have c2 : Steps p.tables e below (s₁.setTop (entryFrame m #[.ref d, .int (Int32.ofNat B.slots.size)] 2)) (s₁.setTop (mkF m 2 #[.val (.ref d), .val (.int (Int32.ofNat B.slots.size))] [.ref d, .int (Int32.ofNat B.slots.size)])) := c1.trans (by
    refine XS.iloadN X0.here hexec rfl (hb hbytes d0) rfl ?_
    refine XS.aloadN X0.here hexec rfl (hb hbytes d1) rfl rfl ?_
    exact Steps.refl _)
  have c3 : Steps p.tables e below (s₁.setTop (entryFrame m #[.ref d, .int (Int32.ofNat B.slots.size)] 2)) (s₁.setTop (mkF m 8 #[.val (.ref d), .val (.int (Int32.ofNat B.slots.size))] [.int (lo8 (ushr (Int32.ofNat B.slots.size - Int32.ofNat B.slots.size) 31))])) := c2.trans (by
    refine X0.alen hexec hB0 rfl rfl (hb hbytes d2) ?_
    refine XS.isub X0.here hexec rfl (hb hbytes d3) rfl ?_
    refine bipushV X0.here hexec rfl 31 (hb hbytes d4) (by decide) ?_
    refine iushr X0.here hexec rfl (hb hbytes d6) rfl ?_
    refine i2b X0.here hexec rfl (hb hbytes d7) rfl ?_
    exact Steps.refl _)
  have e0 : lo8 (ushr (Int32.ofNat B.slots.size - Int32.ofNat B.slots.size) 31) = 0 := by rw [Int32.sub_self]; decide
  rw [e0] at c3
  exact ⟨s₁, some (.int 0), _, _, _, X0, rfl, rfl, rfl, (fun h => by cases h), ⟨rfl, hh0⟩, fun fs hl => c3.trans (X0.ireturnOut hexec hret rfl (Or.inr (Or.inr (Or.inl rfl))) (hb hbytes d8) hl)⟩
end CodL
/-- the String at a is Latin-1 over a new byte[] (the heap's one new cell): the low bytes of the len chars of A from o on; every cell but a is kept -/
def Got (a : Addr) (D : Cell) (fV fC : Field) (A : Cell) (o len : Nat) (r : Option Value) (s u : State) : Prop := r = none ∧ ∃ D' V : Cell, Blank "java/lang/String" a D' u ∧ Same D D' [fV.slot, fC.slot] ∧ D'.slots[fV.slot]? = some (.ref s.heap.size) ∧ D'.slots[fC.slot]? = some (.int 0) ∧ Arr .byte s.heap.size V u ∧ V.vm = .none ∧ u.vm.findClass "[B" = some V.cls ∧ V.slots.size = len ∧ (∀ j, j < len → V.slots[j]? = some (.int (lo8 (cv A (o + j))))) ∧ (∀ (y : Addr) (c : Cell), y ≠ a → s.heap[y]? = some c → u.heap[y]? = some c) ∧ u.heap.size = s.heap.size + 1
theorem Got.mv {a : Addr} {D A : Cell} {fV fC : Field} {o len : Nat} : ∀ r (U U' V V' : State), U'.heap = U.heap → V.vm.Alike V'.vm → V'.heap = V.heap → Got a D fV fC A o len r U V → Got a D fV fC A o len r U' V' :=
  fun r U U' V V' h1 hal h2 ⟨e0, D', X, a1, a2, a3, a4, a5, a6, a7, a8, a9, a10, a11⟩ => ⟨e0, D', X, a1.mv hal h2, a2, by rw [h1]; exact a3, a4, by rw [h1]; exact a5.mv hal h2, a6, by rw [hal.findClass]; exact a7, a8, a9, by rw [h1, h2]; exact a10, by rw [h1, h2]; exact a11⟩
namespace New4
def yN : MethodName := ⟨"java/lang/String", "<init>", "([CIILjava/lang/Void;)V"⟩
abbrev yB : ByteArray := jdk_42_method_149_code
theorem d0 : decode yB 0 = .ok (.aload_n 0, 1) := by decide +kernel
theorem d1 : decode yB 1 = .ok (.invokespecial 1, 3) := by decide +kernel
theorem d4 : decode yB 4 = .ok (.iload_n 3, 1) := by decide +kernel
theorem d5 : decode yB 5 = .ok (.ifCond (.ne) 22, 3) := by decide +kernel
theorem d27 : decode yB 27 = .ok (.getstatic 38, 3) := by decide +kernel
theorem d30 : decode yB 30 = .ok (.ifCond (.eq) 28, 3) := by decide +kernel
theorem d33 : decode yB 33 = .ok (.aload_n 1, 1) := by decide +kernel
theorem d34 : decode yB 34 = .ok (.iload_n 2, 1) := by decide +kernel
theorem d35 : decode yB 35 = .ok (.iload_n 3, 1) := by decide +kernel
theorem d36 : decode yB 36 = .ok (.invokestatic 177, 3) := by decide +kernel
theorem d39 : decode yB 39 = .ok (.astore 5, 2) := by decide +kernel
theorem d41 : decode yB 41 = .ok (.aload_n 0, 1) := by decide +kernel
theorem d42 : decode yB 42 = .ok (.aload 5, 2) := by decide +kernel
theorem d44 : decode yB 44 = .ok (.iload_n 3, 1) := by decide +kernel
theorem d45 : decode yB 45 = .ok (.invokestatic 47, 3) := by decide +kernel
theorem d48 : decode yB 48 = .ok (.putfield 15, 3) := by decide +kernel
theorem d51 : decode yB 51 = .ok (.aload_n 0, 1) := by decide +kernel
theorem d52 : decode yB 52 = .ok (.aload 5, 2) := by decide +kernel
theorem d54 : decode yB 54 = .ok (.putfield 9, 3) := by decide +kernel
theorem d57 : decode yB 57 = .ok (.return_, 1) := by decide +kernel
def site : List Cond := [.fieldLink "java/lang/String" 38 "java/lang/String" "COMPACT_STRINGS" "Z", Cmp3.tab, CodL.tab, .laysFinal "java/lang/String" "java/lang/String" "value" "[B", .fieldLink "java/lang/String" 9 "java/lang/String" "value" "[B", .laysFinal "java/lang/String" "java/lang/String" "coder" "B", .fieldLink "java/lang/String" 15 "java/lang/String" "coder" "B"] ++ objW "java/lang/String" 1 ++ staticW "java/lang/String" 177 Cmp3.yN ++ staticW "java/lang/String" 47 CodL.yN
def tab : Cond := tabOf yN yB 6 none site
def P (a : Addr) (D : Cell) (fV fC : Field) (b : Addr) (A : Cell) (z : Int32) (o len : Nat) (args : Array Value) (s : State) : Prop := args = #[.ref a, .ref b, .int (Int32.ofNat o), .int (Int32.ofNat len), .null] ∧ Blank "java/lang/String" a D s ∧ Found "java/lang/String" "value" "[B" fV s ∧ Found "java/lang/String" "coder" "B" fC s ∧ Ch b A s ∧ StaticIs s "java/lang/String" "COMPACT_STRINGS" "Z" (.int z) ∧ ¬ z = 0 ∧ 0 < len ∧ o + len ≤ A.slots.size ∧ len ≤ 536870912 ∧ ∀ i, i < len → ¬ 255 < cv A (o + i)
def E (a : Addr) (D : Cell) (fV fC : Field) (A : Cell) (o len : Nat) (r : Option Value) (s u : State) : Prop := Got a D fV fC A o len r s u
/-- len > 0, no char of the range above 255: a Latin-1 String of their low bytes -/
theorem law (l : Launch) (a : Addr) (D : Cell) (fV fC : Field) (b : Addr) (A : Cell) (z : Int32) (o len : Nat) : Law l yN 5 4 2 35 yB 6 none site (P a D fV fC b A z o len) (E a D fV fC A o len) [⟨a, fC.slot⟩, ⟨a, fV.slot⟩] 1 len := by
  refine Law.of_walk (plainFor_of_name (by decide +kernel)) (by decide +kernel) (by decide +kernel) (by decide) (fun _ _ h => by rw [h.1]; rfl) (fun _ U U' hal hh h => ⟨h.1, h.2.1.mv hal hh, h.2.2.1.al hal, h.2.2.2.1.al hal, h.2.2.2.2.1.mv hal hh, h.2.2.2.2.2.1.there hal hh, h.2.2.2.2.2.2⟩) (fun r U U' V V' h1 hal h2 h => Got.mv r U U' V V' h1 hal h2 h) ?_
  intro p e s m args below meth c s₁ X0 hexec hbytes hml hret hlk hnm hown hh0 W hP
  obtain ⟨rfl, hB, f1, f2, hA, s1, hz, l0, l1, l2, hp⟩ := hP
  have a31 := hA.1.2.2.2
  have c1 : Steps p.tables e below (s₁.setTop (entryFrame m #[.ref a, .ref b, .int (Int32.ofNat o), .int (Int32.ofNat len), .null] 6)) (s₁.setTop (mkF m 0 #[.val (.ref a), .val (.ref b), .val (.int (Int32.ofNat o)), .val (.int (Int32.ofNat len)), .val .null, .unset] [])) := entry rfl
  have c2 : Steps p.tables e below (s₁.setTop (entryFrame m #[.ref a, .ref b, .int (Int32.ofNat o), .int (Int32.ofNat len), .null] 6)) (s₁.setTop (mkF m 1 #[.val (.ref a), .val (.ref b), .val (.int (Int32.ofNat o)), .val (.int (Int32.ofNat len)), .val .null, .unset] [.ref a])) := c1.trans (by
    refine XS.aloadN X0.here hexec rfl (hb hbytes d0) rfl rfl ?_
    exact Steps.refl _)
  obtain ⟨T3, X3, q3, st3⟩ := X0.oinit hexec hown (wks W (objW "java/lang/String" 1)) (g := (mkF m 1 #[.val (.ref a), .val (.ref b), .val (.int (Int32.ofNat o)), .val (.int (Int32.ofNat len)), .val .null, .unset] [.ref a])) rfl (by rw [hml]; rfl) (rest := []) rfl (hb hbytes d1) (W := 0) (by show 2 * 0 + 0 ≤ _; decide) (Nat.le_of_ble_eq_true rfl) (Nat.le_of_ble_eq_true rfl)
  have hh3 := q3.trans hh0
  have c4 : Steps p.tables e below (s₁.setTop (entryFrame m #[.ref a, .ref b, .int (Int32.ofNat o), .int (Int32.ofNat len), .null] 6)) (T3.setTop (mkF m 27 #[.val (.ref a), .val (.ref b), .val (.int (Int32.ofNat o)), .val (.int (Int32.ofNat len)), .val .null, .unset] [])) := (c2.trans (st3 _ (Steps.refl _))).trans (by
    refine XS.iloadN X3.here hexec rfl (hb hbytes d4) rfl ?_
    refine XS.ifYes X3.here hexec rfl (pc0 := 5) rfl (hb hbytes d5) rfl (i0_ne_t (nz32 (by omega) l0)) (by decide) rfl ?_
    exact Steps.refl _)
  obtain ⟨T5, X5, q5, st5⟩ := X3.sget hexec hown (wk W (.fieldLink "java/lang/String" 38 "java/lang/String" "COMPACT_STRINGS" "Z")) s1 (fun _ _ h => by rw [hh3]; exact h) (g := (mkF m 27 #[.val (.ref a), .val (.ref b), .val (.int (Int32.ofNat o)), .val (.int (Int32.ofNat len)), .val .null, .unset] [])) rfl (hb hbytes d27)
  have hh5 := q5.trans hh3
  have c6 : Steps p.tables e below (s₁.setTop (entryFrame m #[.ref a, .ref b, .int (Int32.ofNat o), .int (Int32.ofNat len), .null] 6)) (T5.setTop (mkF m 30 #[.val (.ref a), .val (.ref b), .val (.int (Int32.ofNat o)), .val (.int (Int32.ofNat len)), .val .null, .unset] [.int z])) := c4.trans (st5 _ (Steps.refl _))
  have c7 : Steps p.tables e below (s₁.setTop (entryFrame m #[.ref a, .ref b, .int (Int32.ofNat o), .int (Int32.ofNat len), .null] 6)) (T5.setTop (mkF m 36 #[.val (.ref a), .val (.ref b), .val (.int (Int32.ofNat o)), .val (.int (Int32.ofNat len)), .val .null, .unset] [.int (Int32.ofNat len), .int (Int32.ofNat o), .ref b])) := c6.trans (by
    refine XS.ifNo X5.here hexec rfl (hb hbytes d30) rfl (i0_eq_f hz) ?_
    refine XS.aloadN X5.here hexec rfl (hb hbytes d33) rfl rfl ?_
    refine XS.iloadN X5.here hexec rfl (hb hbytes d34) rfl ?_
    refine XS.iloadN X5.here hexec rfl (hb hbytes d35) rfl ?_
    exact Steps.refl _)
  obtain ⟨v8, T8, X8, E8, g8⟩ := X5.callS hexec (Cmp3.law l b A o len) hown (wks W (staticW "java/lang/String" 177 Cmp3.yN)) (wk W Cmp3.tab) (W := 0) (Nat.le_of_ble_eq_true rfl) (Nat.le_of_ble_eq_true rfl) (Nat.le_refl _) (by show 0 + len ≤ len; omega) (g := (mkF m 36 #[.val (.ref a), .val (.ref b), .val (.int (Int32.ofNat o)), .val (.int (Int32.ofNat len)), .val .null, .unset] [.int (Int32.ofNat len), .int (Int32.ofNat o), .ref b])) rfl (by rw [hml]; rfl) c7 (argsL := [.ref b, .int (Int32.ofNat o), .int (Int32.ofNat len)]) (rest := []) rfl rfl (by show 2 * 0 + 0 ≤ _; decide) (hb hbytes d36) (⟨rfl, hA.mv X5.warmed.alike hh5, l1, l2, hp⟩)
  obtain ⟨e8, z8⟩ := E8
  obtain ⟨rfl, N, n1, n2, n3, n4, n5, n6⟩ := NewArr.mv _ T5 s _ _ hh5.symm (Vm.Alike.refl _) rfl e8
  rw [hh5] at z8
  have hB1 := hB.keep X8.warmed.alike (n6 _ _ hB.1)
  have hne : s.heap.size ≠ a := (Nat.ne_of_lt (Array.getElem?_eq_some_iff.mp hB.1).1).symm
  have c9 : Steps p.tables e below (s₁.setTop (entryFrame m #[.ref a, .ref b, .int (Int32.ofNat o), .int (Int32.ofNat len), .null] 6)) (T8.setTop (mkF m 39 #[.val (.ref a), .val (.ref b), .val (.int (Int32.ofNat o)), .val (.int (Int32.ofNat len)), .val .null, .unset] [.ref s.heap.size])) := g8
  have c10 : Steps p.tables e below (s₁.setTop (entryFrame m #[.ref a, .ref b, .int (Int32.ofNat o), .int (Int32.ofNat len), .null] 6)) (T8.setTop (mkF m 45 #[.val (.ref a), .val (.ref b), .val (.int (Int32.ofNat o)), .val (.int (Int32.ofNat len)), .val .null, .val (.ref s.heap.size)] [.int (Int32.ofNat N.slots.size), .ref s.heap.size, .ref a])) := by
    have hc : Steps p.tables e below (s₁.setTop (entryFrame m #[.ref a, .ref b, .int (Int32.ofNat o), .int (Int32.ofNat len), .null] 6)) (T8.setTop (mkF m 45 #[.val (.ref a), .val (.ref b), .val (.int (Int32.ofNat o)), .val (.int (Int32.ofNat len)), .val .null, .val (.ref s.heap.size)] [.int (Int32.ofNat len), .ref s.heap.size, .ref a])) := c9.trans (by
      refine XS.astore X8.here hexec rfl (hb hbytes d39) rfl rfl rfl ?_
      refine XS.aloadN X8.here hexec rfl (hb hbytes d41) rfl rfl ?_
      refine XS.aload X8.here hexec rfl (hb hbytes d42) rfl rfl ?_
      refine XS.iloadN X8.here hexec rfl (hb hbytes d44) rfl ?_
      exact Steps.refl _)
    rw [n4]; exact hc
  obtain ⟨v11, T11, X11, E11, g11⟩ := X8.callS hexec (CodL.law l s.heap.size N) hown (wks W (staticW "java/lang/String" 47 CodL.yN)) (wk W CodL.tab) (W := 1) (Nat.le_of_ble_eq_true rfl) (Nat.le_of_ble_eq_true rfl) (Nat.le_refl _) (by show 0 + len + 0 ≤ len; omega) (g := (mkF m 45 #[.val (.ref a), .val (.ref b), .val (.int (Int32.ofNat o)), .val (.int (Int32.ofNat len)), .val .null, .val (.ref s.heap.size)] [.int (Int32.ofNat N.slots.size), .ref s.heap.size, .ref a])) rfl (by rw [hml]; rfl) c10 (argsL := [.ref s.heap.size, .int (Int32.ofNat N.slots.size)]) (rest := [.ref a]) rfl rfl (by show 2 * 0 + (1 + 0) ≤ _; decide) (hb hbytes d45) (⟨rfl, n1⟩)
  obtain ⟨rfl, q11⟩ := E11
  have hB11 := hB1.mv (X8.warmed.alike.symm.trans X11.warmed.alike) q11
  have c12 : Steps p.tables e below (s₁.setTop (entryFrame m #[.ref a, .ref b, .int (Int32.ofNat o), .int (Int32.ofNat len), .null] 6)) (T11.setTop (mkF m 48 #[.val (.ref a), .val (.ref b), .val (.int (Int32.ofNat o)), .val (.int (Int32.ofNat len)), .val .null, .val (.ref s.heap.size)] [.int 0, .ref a])) := g11
  obtain ⟨T13, X13, p13, bl13, sl13, st13⟩ := X11.finit hexec hown (wk W (.fieldLink "java/lang/String" 15 "java/lang/String" "coder" "B")) (Or.inr ⟨_, (wk W (.laysFinal "java/lang/String" "java/lang/String" "coder" "B"))⟩) (Or.inl ⟨rfl, hnm⟩) f2 (Or.inl rfl) hB11 (t := .byte) (by decide +kernel) rfl (g := (mkF m 48 #[.val (.ref a), .val (.ref b), .val (.int (Int32.ofNat o)), .val (.int (Int32.ofNat len)), .val .null, .val (.ref s.heap.size)] [.int 0, .ref a])) rfl (rest := []) rfl (hb hbytes d48)
  have c14 : Steps p.tables e below (s₁.setTop (entryFrame m #[.ref a, .ref b, .int (Int32.ofNat o), .int (Int32.ofNat len), .null] 6)) (T13.setTop (mkF m 54 #[.val (.ref a), .val (.ref b), .val (.int (Int32.ofNat o)), .val (.int (Int32.ofNat len)), .val .null, .val (.ref s.heap.size)] [.ref s.heap.size, .ref a])) := (c12.trans (st13 _ (Steps.refl _))).trans (by
    refine XS.aloadN X13.here hexec rfl (hb hbytes d51) rfl rfl ?_
    refine XS.aload X13.here hexec rfl (hb hbytes d52) rfl rfl ?_
    exact Steps.refl _)
  obtain ⟨T15, X15, p15, bl15, sl15, st15⟩ := X13.finit hexec hown (wk W (.fieldLink "java/lang/String" 9 "java/lang/String" "value" "[B")) (Or.inr ⟨_, (wk W (.laysFinal "java/lang/String" "java/lang/String" "value" "[B"))⟩) (Or.inl ⟨rfl, hnm⟩) f1 (Or.inl rfl) bl13 (t := (.array .byte)) (by decide +kernel) rfl (g := (mkF m 54 #[.val (.ref a), .val (.ref b), .val (.int (Int32.ofNat o)), .val (.int (Int32.ofNat len)), .val .null, .val (.ref s.heap.size)] [.ref s.heap.size, .ref a])) rfl (rest := []) rfl (hb hbytes d54)
  have c16 : Steps p.tables e below (s₁.setTop (entryFrame m #[.ref a, .ref b, .int (Int32.ofNat o), .int (Int32.ofNat len), .null] 6)) (T15.setTop (mkF m 57 #[.val (.ref a), .val (.ref b), .val (.int (Int32.ofNat o)), .val (.int (Int32.ofNat len)), .val .null, .val (.ref s.heap.size)] [])) := c14.trans (st15 _ (Steps.refl _))
  have ap := apart (Or.inr ⟨_, (wk W (.laysFinal "java/lang/String" "java/lang/String" "value" "[B"))⟩) (Or.inr ⟨_, (wk W (.laysFinal "java/lang/String" "java/lang/String" "coder" "B"))⟩) f1 f2 (t₁ := .array .byte) (t₂ := .byte) (by decide +kernel) (by decide +kernel) (by decide)
  have al := X8.warmed.alike.symm.trans X15.warmed.alike
  have n7 : T11.heap[s.heap.size]? = some N := by rw [q11]; exact n1.1
  exact ⟨T15, none, _, _, _, X15, by simp, rfl, by omega, (fun _ => rfl), ⟨rfl, _, N, bl15, ((Same.refl D _).set _ (by simp)).set _ (by simp), sl15, (Cell.slots_setSlot_ne _ ap).trans sl13, n1.keep al (p15.other hne (p13.other hne n7)), n2, by rw [al.findClass]; exact n3, n4, n5, fun y c h1 h2 => p15.other h1 (p13.other h1 (by rw [q11]; exact n6 y c h2)), by rw [p15.2.2, p13.2.2, q11]; exact z8⟩, fun fs hl => c16.trans (X15.returnOut hexec hret (hb hbytes d57) hl)⟩
end New4
namespace New1
def yN : MethodName := ⟨"java/lang/String", "<init>", "([C)V"⟩
abbrev yB : ByteArray := jdk_42_method_3_code
theorem d0 : decode yB 0 = .ok (.aload_n 0, 1) := by decide +kernel
theorem d1 : decode yB 1 = .ok (.aload_n 1, 1) := by decide +kernel
theorem d2 : decode yB 2 = .ok (.iconst 0, 1) := by decide +kernel
theorem d3 : decode yB 3 = .ok (.aload_n 1, 1) := by decide +kernel
theorem d4 : decode yB 4 = .ok (.arraylength, 1) := by decide +kernel
theorem d5 : decode yB 5 = .ok (.aconst_null, 1) := by decide +kernel
theorem d6 : decode yB 6 = .ok (.invokespecial 27, 3) := by decide +kernel
theorem d9 : decode yB 9 = .ok (.return_, 1) := by decide +kernel
def site : List Cond := [New4.tab] ++ initW "java/lang/String" 27 New4.yN
def tab : Cond := tabOf yN yB 2 none site
def P (a : Addr) (D : Cell) (fV fC : Field) (b : Addr) (A : Cell) (z : Int32) (args : Array Value) (s : State) : Prop := args = #[.ref a, .ref b] ∧ Blank "java/lang/String" a D s ∧ Found "java/lang/String" "value" "[B" fV s ∧ Found "java/lang/String" "coder" "B" fC s ∧ Ch b A s ∧ StaticIs s "java/lang/String" "COMPACT_STRINGS" "Z" (.int z) ∧ ¬ z = 0 ∧ 0 < A.slots.size ∧ A.slots.size ≤ 536870912 ∧ ∀ i, i < A.slots.size → ¬ 255 < cv A i
def E (a : Addr) (D : Cell) (fV fC : Field) (A : Cell) (r : Option Value) (s u : State) : Prop := Got a D fV fC A 0 A.slots.size r s u
/-- new String(chars), not empty, no char above 255: a Latin-1 String of their low bytes -/
theorem law (l : Launch) (a : Addr) (D : Cell) (fV fC : Field) (b : Addr) (A : Cell) (z : Int32) : Law l yN 2 1 3 52 yB 2 none site (P a D fV fC b A z) (E a D fV fC A) [⟨a, fC.slot⟩, ⟨a, fV.slot⟩] 1 A.slots.size := by
  refine Law.of_walk (plainFor_of_name (by decide +kernel)) (by decide +kernel) (by decide +kernel) (by decide) (fun _ _ h => by rw [h.1]; rfl) (fun _ U U' hal hh h => ⟨h.1, h.2.1.mv hal hh, h.2.2.1.al hal, h.2.2.2.1.al hal, h.2.2.2.2.1.mv hal hh, h.2.2.2.2.2.1.there hal hh, h.2.2.2.2.2.2⟩) (fun r U U' V V' h1 hal h2 h => Got.mv r U U' V V' h1 hal h2 h) ?_
  intro p e s m args below meth c s₁ X0 hexec hbytes hml hret hlk hnm hown hh0 W hP
  obtain ⟨rfl, hB, f1, f2, hA, s1, hz, l0, l2, hp⟩ := hP
  have c1 : Steps p.tables e below (s₁.setTop (entryFrame m #[.ref a, .ref b] 2)) (s₁.setTop (mkF m 0 #[.val (.ref a), .val (.ref b)] [])) := entry rfl
  have c2 : Steps p.tables e below (s₁.setTop (entryFrame m #[.ref a, .ref b] 2)) (s₁.setTop (mkF m 6 #[.val (.ref a), .val (.ref b)] [.null, .int (Int32.ofNat A.slots.size), .int 0, .ref b, .ref a])) := c1.trans (by
    refine XS.aloadN X0.here hexec rfl (hb hbytes d0) rfl rfl ?_
    refine XS.aloadN X0.here hexec rfl (hb hbytes d1) rfl rfl ?_
    refine iconstV X0.here hexec rfl 0 (hb hbytes d2) (by decide) ?_
    refine XS.aloadN X0.here hexec rfl (hb hbytes d3) rfl rfl ?_
    refine X0.alen hexec (hA.1.mv X0.warmed.alike hh0) rfl rfl (hb hbytes d4) ?_
    refine XS.aconstNull X0.here hexec rfl (hb hbytes d5) ?_
    exact Steps.refl _)
  obtain ⟨v3, T3, X3, E3, g3⟩ := X0.callN hexec (New4.law l a D fV fC b A z 0 A.slots.size) rfl hown (wks W (initW "java/lang/String" 27 New4.yN)) (W New4.tab (by simp only [site, List.mem_cons, List.mem_append, true_or, or_true])) (W := 0) (Nat.le_of_ble_eq_true rfl) (Nat.le_of_ble_eq_true rfl) (Nat.le_refl _) (by show 0 + A.slots.size ≤ A.slots.size; omega) (g := (mkF m 6 #[.val (.ref a), .val (.ref b)] [.null, .int (Int32.ofNat A.slots.size), .int (Int32.ofNat 0), .ref b, .ref a])) rfl (by rw [hml]; rfl) c2 (argsL := [.ref b, .int (Int32.ofNat 0), .int (Int32.ofNat A.slots.size), .null]) (rest := []) rfl rfl (by show 2 * 0 + 0 ≤ _; decide) (hb hbytes d6) (⟨rfl, hB.mv X0.warmed.alike hh0, f1.al X0.warmed.alike, f2.al X0.warmed.alike, hA.mv X0.warmed.alike hh0, s1.there X0.warmed.alike hh0, hz, l0, by omega, l2, fun i hi => by rw [Nat.zero_add]; exact hp i hi⟩)
  have e0 := Got.mv _ s₁ s _ _ hh0.symm (Vm.Alike.refl _) rfl E3
  obtain rfl := e0.1
  have c4 : Steps p.tables e below (s₁.setTop (entryFrame m #[.ref a, .ref b] 2)) (T3.setTop (mkF m 9 #[.val (.ref a), .val (.ref b)] [])) := g3
  exact ⟨T3, none, _, _, _, X3, by simp, rfl, by omega, (fun _ => rfl), e0, fun fs hl => c4.trans (X3.returnOut hexec hret (hb hbytes d9) hl)⟩
theorem pays {l : Launch} {R : Room} {p : Program} {e : Env} {below : List Frame} {s : State} {sargs : Array Value} {len W : Nat} (a : Addr) (D : Cell) (fV fC : Field) (b : Addr) (A : Cell) (z : Int32) (htab : tab.before sargs s = true) (hfr : 4 ≤ R.frames) (hlo : W + 65 ≤ R.locals) :
    Back l R p e below s sargs yN len W (fun A₁ a₁ => A₁.cells + 1 ≤ R.cells ∧ A₁.slots + A.slots.size ≤ R.slots ∧ P a D fV fC b A z a₁ A₁.U) (fun A₁ _ v₁ B₁ => E a D fV fC A v₁ A₁.U B₁.U ∧ B₁.locs = A₁.locs ++ [⟨a, fC.slot⟩, ⟨a, fV.slot⟩] ∧ B₁.cells = A₁.cells + 1 ∧ B₁.slots = A₁.slots + A.slots.size) :=
  (law l a D fV fC b A z).pays htab hfr (by omega)
end New1
end StrChars
namespace StrChars.Road
open Jvm Sem ClassFile Op Lib Jvm.Stand Jvm.Free Jvm.Free.XT
open Jvm.Lib.Cold (StaticIs)
abbrev ST : String := "java/lang/String"
/-- every table word that New1's law asks, flat -/
abbrev words : List Jvm.Cond := [.code New1.yN New1.yB 2 none, .initialized ST, .methodLink ST 27 New4.yN, .instanceMethod New4.yN,
  .code New4.yN New4.yB 6 none, .fieldLink ST 38 ST "COMPACT_STRINGS" "Z", .laysFinal ST ST "value" "[B", .fieldLink ST 9 ST "value" "[B", .laysFinal ST ST "coder" "B", .fieldLink ST 15 ST "coder" "B",
  .methodLink ST 1 Lib.objectInit, .instanceMethod Lib.objectInit, .code Lib.objectInit ⟨#[0xb1]⟩ 1 none, .methodLink ST 177 Cmp3.yN, .static Cmp3.yN, .methodLink ST 47 CodL.yN, .static CodL.yN,
  .code Cmp3.yN Cmp3.yB 6 (some (.array .byte)), .initialized U16, .arrayClass .byte, .methodLink U16 115 Cmp5.yN, .static Cmp5.yN, .code Cmp5.yN Cmp5.yB 7 (some .int), .code CodL.yN CodL.yB 2 (some .byte)]
theorem tab_of {a : Array Value} {s : State} (h : ∀ w ∈ words, w.before a s = true) : New1.tab.before a s = true := by
  have h5 : Cmp5.tab.before a s = true := unparts (wk h (.code Cmp5.yN Cmp5.yB 7 (some .int))) (wks h (.initialized Cmp5.yN.cls :: Cmp5.site))
  have hc : CodL.tab.before a s = true := unparts (wk h (.code CodL.yN CodL.yB 2 (some .byte))) (wks h (.initialized CodL.yN.cls :: CodL.site))
  have q5 : ∀ w ∈ Cmp5.tab :: words, w.before a s = true := fun w hw => (List.mem_cons.mp hw).elim (fun e => e ▸ h5) (h w)
  have h3 : Cmp3.tab.before a s = true := unparts (wk q5 (.code Cmp3.yN Cmp3.yB 6 (some (.array .byte)))) (wks q5 (.initialized Cmp3.yN.cls :: Cmp3.site))
  have q3 : ∀ w ∈ Cmp3.tab :: CodL.tab :: words, w.before a s = true := fun w hw => (List.mem_cons.mp hw).elim (fun e => e ▸ h3) fun hw => (List.mem_cons.mp hw).elim (fun e => e ▸ hc) (h w)
  have h4 : New4.tab.before a s = true := unparts (wk q3 (.code New4.yN New4.yB 6 none)) (wks q3 (.initialized New4.yN.cls :: New4.site))
  have q4 : ∀ w ∈ New4.tab :: words, w.before a s = true := fun w hw => (List.mem_cons.mp hw).elim (fun e => e ▸ h4) (h w)
  exact unparts (wk q4 (.code New1.yN New1.yB 2 none)) (wks q4 (.initialized New1.yN.cls :: New1.site))
/-- the words ride from the start Z to the walk's own state -/
theorem moved {Z s : State} {a0 args : Array Value} (hZ : Z.Warmed39 s.vm) (hw : ∀ d ∈ words, d.before a0 Z = true) : ∀ d ∈ words, d.before args s = true := fun d hd => by
  have q := hw d hd
  have t : ∀ d ∈ words, d = .arrayClass .byte ∨ (d.onTables && d.keepsFace) = true := by decide +kernel
  rcases t d hd with rfl | t
  · exact RoadKit.mvA hZ q
  · exact RoadKit.mv hZ q t
/-- WHAT COMES BACK, over the tables of the start Z: h the heap at the call, h' behind it -/
def Q (Z : State) (x : Addr) (A : Cell) (h : Heap) (v : Option Value) (h' : Heap) (L : List Loc) : Prop := v = none ∧ (∀ y ∈ L, y.base = x) ∧ RoadKit.Keep h h' [x] ∧ h'.size = h.size + 1 ∧ RoadKit.Exa Z h' x ST ∧ RoadKit.Fld Z h' x ST "value" "[B" (.ref h.size) ∧ RoadKit.Fld Z h' x ST "coder" "B" (.int 0) ∧
  (∃ V : Cell, RoadKit.Arr Z h' h.size V .byte ∧ V.vm = .none ∧ Z.vm.findClass "[B" = some V.cls ∧ V.slots.size = A.slots.size ∧ ∀ j, j < A.slots.size → V.slots[j]? = some (.int (lo8 (cv A j)))) ∧
  ∀ (O n d : String) (w : Value), RoadKit.Fld Z h x O n d w → RoadKit.slotOf Z O n d ≠ RoadKit.slotOf Z ST "value" "[B" → RoadKit.slotOf Z O n d ≠ RoadKit.slotOf Z ST "coder" "B" → RoadKit.Fld Z h' x O n d w
/-- **new String(chars) AT A CALL, IN THE ROAD'S FORM**: for specialBack behind newO: x the fresh String, b the char[] with the cell A -/
theorem back {p : Program} {l : Launch} {e : Env} {R : Room} {s : State} {args : Array Value} {below : List Frame} {len W : Nat} {Z : State} {a0 : Array Value} {h : Heap} (hZ : Z.Warmed39 s.vm) (hw : ∀ d ∈ words, d.before a0 Z = true) {kI : Nat} (wi : (Jvm.Cond.instantiable ST kI).before a0 Z = true)
    {x b : Addr} {A : Cell} {z : Int32} {v0 c0 : Value} (E : RoadKit.Exa Z h x ST) (V : RoadKit.Fld Z h x ST "value" "[B" v0) (C : RoadKit.Fld Z h x ST "coder" "B" c0) (K : RoadKit.Arr Z h b A .char) (hty : Typed .char A) (S : RoadKit.Sta Z h ST "COMPACT_STRINGS" "Z" (.int z)) (hz : ¬ z = 0)
    (l0 : 0 < A.slots.size) (l2 : A.slots.size ≤ 536870912) (hp : ∀ i, i < A.slots.size → ¬ 255 < cv A i) (hfr : 4 ≤ R.frames) (hlo : W + 65 ≤ R.locals) :
    Back l R p e below s args New1.yN len W (fun P a => a = #[.ref x, .ref b] ∧ P.U.heap = h ∧ P.cells + 1 ≤ R.cells ∧ P.slots + A.slots.size ≤ R.slots)
      (fun P _ v B => ∃ L, Q Z x A h v B.U.heap L ∧ B.locs = P.locs ++ L ∧ B.cells = P.cells + 1 ∧ B.slots = P.slots + A.slots.size) := by
  intro m meth c P g ig mk a X hg hsize hdg hW hn hp'
  obtain ⟨rfl, rfl, r1, r2⟩ := hp'
  have al : Z.vm.Alike P.U.vm := hZ.alike.trans X.warmed.alike
  obtain ⟨D, cfV, kV, iV, fV, hD, gV, stV, knV, obV, asV, slV⟩ := id V
  obtain ⟨D', cfC, kC, iC, fC, hD', gC, stC, -, -, asC, slC⟩ := id C
  cases hD.symm.trans hD'
  obtain ⟨D2, kD, e1, e2, e3, e4, e5⟩ := id E
  cases hD.symm.trans e1
  obtain ⟨c2, k2, i1, i2, i3, -⟩ := Cond.instantiable_spec wi
  cases e2.symm.trans i1
  cases e3.symm.trans i2
  obtain ⟨kU, u1, u2⟩ := al.2.2 _ _ e3
  have hB : Blank ST x D P.U := ⟨hD, ⟨knV, fun q hq => by rw [hq] at obV; cases obV⟩, by rw [al.findClass]; exact e2, kU, u1, by rw [u2]; exact i3, by rw [u2]; exact e5 i3⟩
  have F1 : Found ST "value" "[B" fV P.U := ⟨SBG.found_only al ⟨cfV, kV, iV, gV⟩, stV⟩
  have F2 : Found ST "coder" "B" fC P.U := ⟨SBG.found_only al ⟨cfC, kC, iC, gC⟩, stC⟩
  have hA : Ch b A P.U := ⟨⟨K.1, State.isArrayOf_alike al K.2.1, K.2.2, by omega⟩, hty⟩
  have hS : StaticIs P.U ST "COMPACT_STRINGS" "Z" (.int z) := by
    obtain ⟨cfS, iS, kS, fS, st, cS, t1, t2, t3, t4, t5, t6, t7⟩ := S
    exact StaticIs.there (s := { Z with heap := P.U.heap }) ⟨cfS, iS, kS, fS, st, cS, t1, t2, t3, t4, t5, (fun q => by rw [q] at t6; cases t6), t7⟩ al rfl
  obtain ⟨v, B, X', ⟨⟨hv, E', V', q1, q2, q3, q4, q5, q6, q7, q8, q9, q10, q11⟩, hl, hc, hs⟩, st⟩ := New1.pays x D fV fC b A z (tab_of (moved hZ hw)) hfr hlo m meth c P g ig mk _ X hg hsize hdg hW hn ⟨r1, r2, rfl, hB, F1, F2, hA, hS, hz, l0, l2, hp⟩
  have al' : Z.vm.Alike B.U.vm := hZ.alike.trans X'.warmed.alike
  have hsz : E'.slots.size = D.slots.size := by
    obtain ⟨-, -, -, kB, w1, w2, w3⟩ := q1
    obtain ⟨kB', y1, y2⟩ := al'.2.2 _ _ e3
    rw [q2.2.1] at w1
    cases w1.symm.trans y1
    rw [w3, e5 i3, y2]
  refine ⟨v, B, X', ⟨_, ⟨hv, ?_, ⟨by omega, fun y cy hy hn' => q10 y cy (by simpa using hn') hy, fun y cy hy => ?_⟩, q11, ⟨E', _, q1.1, by rw [q2.2.1]; exact e2, by rw [q2.2.1]; exact e3, by rw [q2.1]; exact obV, fun _ => by rw [hsz]; exact e5 i3⟩,
    ⟨E', cfV, kV, iV, fV, q1.1, gV, stV, by rw [q2.1]; exact knV, by rw [q2.1]; exact obV, by rw [q2.2.1]; exact asV, q3⟩, ⟨E', cfC, kC, iC, fC, q1.1, gC, stC, by rw [q2.1]; exact knV, by rw [q2.1]; exact obV, by rw [q2.2.1]; exact asC, q4⟩,
    ⟨V', ⟨q5.1, State.isArrayOf_alike al'.symm q5.2.1, q5.2.2.1⟩, q6, by rw [← al'.findClass]; exact q7, q8, fun j hj => by have := q9 j hj; rwa [Nat.zero_add] at this⟩, fun O n d w F n1 n2 => ?_⟩, hl, hc, hs⟩, st⟩
  · intro y hy
    simp only [List.mem_cons, List.not_mem_nil, or_false] at hy
    rcases hy with rfl | rfl <;> rfl
  · by_cases q : y = x
    · subst q
      cases hD.symm.trans hy
      exact ⟨E', q1.1, q2.2.1, q2.1, hsz⟩
    · exact ⟨cy, q10 y cy q hy, rfl, rfl, rfl⟩
  · obtain ⟨D3, cf, k, i, f, g1, g2, g3, g4, g5, g6, g7⟩ := F
    cases hD.symm.trans g1
    simp only [RoadKit.slotOf, g2, gV, gC, Option.map_some, Option.getD_some] at n1 n2
    exact ⟨E', cf, k, i, f, q1.1, g2, g3, by rw [q2.1]; exact g4, by rw [q2.1]; exact g5, by rw [q2.2.1]; exact g6, by rw [q2.2.2 f.slot (by simp [n1, n2])]; exact g7⟩
end StrChars.Road
namespace StrChars.Road
open Jvm Sem ClassFile Op Lib Jvm.Stand Jvm.Free Jvm.Free.XT
/-- WHAT COMES BACK, the byte[] as a list of values -/
def QA (Z : State) (x : Addr) (zn : Int32) (cs : List Int32) (h : Heap) (v : Option Value) (h' : Heap) (L : List Loc) : Prop := v = none ∧ (∀ y ∈ L, y.base = x) ∧ RoadKit.Keep h h' [x] ∧ h'.size = h.size + 1 ∧ RoadKit.Exa Z h' x ST ∧ RoadKit.Fld Z h' x ST "value" "[B" (.ref h.size) ∧ RoadKit.Fld Z h' x ST "coder" "B" (.int 0) ∧
  (∃ kb, Z.vm.findClass "[B" = some kb ∧ RoadKit.Arv Z h' h.size kb .byte zn (cs.map fun c => .int (lo8 c)) (.int 0)) ∧
  ∀ (O n d : String) (w : Value), RoadKit.Fld Z h x O n d w → RoadKit.slotOf Z O n d ≠ RoadKit.slotOf Z ST "value" "[B" → RoadKit.slotOf Z O n d ≠ RoadKit.slotOf Z ST "coder" "B" → RoadKit.Fld Z h' x O n d w
/-- **new String(chars) AT A CALL, THE ARRAYS AS LISTS**: the char[] at b holds cs, not empty, no char above 255 -/
theorem backArv {p : Program} {l : Launch} {e : Env} {R : Room} {s : State} {args : Array Value} {below : List Frame} {len W : Nat} {Z : State} {a0 : Array Value} {h : Heap} (hZ : Z.Warmed39 s.vm) (hw : ∀ d ∈ words, d.before a0 Z = true) {kI : Nat} (wi : (Jvm.Cond.instantiable ST kI).before a0 Z = true)
    {x b : Addr} {k : ClassId} {zn z : Int32} {cs : List Int32} {dv v0 c0 : Value} (E : RoadKit.Exa Z h x ST) (V : RoadKit.Fld Z h x ST "value" "[B" v0) (C : RoadKit.Fld Z h x ST "coder" "B" c0) (K : RoadKit.Arv Z h b k .char zn (cs.map Value.int) dv) (S : RoadKit.Sta Z h ST "COMPACT_STRINGS" "Z" (.int z)) (hz : ¬ z = 0)
    (hlen : zn.toNatClampNeg = cs.length) (h0 : 0 < cs.length) (hbig : cs.length ≤ 536870912) (hall : ∀ c ∈ cs, ¬ 255 < c) (hfr : 4 ≤ R.frames) (hlo : W + 65 ≤ R.locals) :
    Back l R p e below s args New1.yN len W (fun P a => a = #[.ref x, .ref b] ∧ P.U.heap = h ∧ P.cells + 1 ≤ R.cells ∧ P.slots + cs.length ≤ R.slots)
      (fun P _ v B => ∃ L, QA Z x zn cs h v B.U.heap L ∧ B.locs = P.locs ++ L ∧ B.cells = P.cells + 1 ∧ B.slots = P.slots + cs.length) := by
  obtain ⟨A, K1, K2, K3, K4, K5, K6⟩ := K
  have e : A.slots.size = cs.length := K3.trans hlen
  have hat : ∀ (i : Nat) (hi : i < cs.length), A.slots[i]? = some (.int cs[i]) := fun i hi => by rw [K5 i (by omega)]; simp [List.getD_eq_getElem?_getD, hi]
  have hcv : ∀ (i : Nat) (hi : i < cs.length), cv A i = cs[i] := fun i hi => by unfold cv; rw [hat i hi]
  have hty : Typed .char A := fun i v hv => by
    have hi : i < A.slots.size := (Array.getElem?_eq_some_iff.mp hv).1
    have q := K5 i hi
    rw [hv] at q
    rw [Option.some.inj q]
    exact K6 i hi
  refine Back.mono (back hZ hw wi E V C K1 hty S hz (by omega) (by omega) (fun i hi => by rw [hcv i (by omega)]; exact hall _ (List.getElem_mem _)) hfr hlo) (fun P a hp => ⟨hp.1, hp.2.1, hp.2.2.1, by rw [e]; exact hp.2.2.2⟩) (fun P a v B hp hq => ?_)
  obtain ⟨L, ⟨q1, q2, q3, q4, q5, q6, q7, ⟨V', v1, v2, v3, v4, v5⟩, q9⟩, hl, hc, hs⟩ := hq
  refine ⟨L, ⟨q1, q2, q3, q4, q5, q6, q7, ⟨V'.cls, v3, V', v1, rfl, by rw [v4, e, hlen], K4, fun i hi => ?_, fun i hi => ?_⟩, q9⟩, hl, hc, by rw [hs, e]⟩
  · have hi' : i < cs.length := by omega
    rw [v5 i (by omega), hcv i hi']; simp [List.getD_eq_getElem?_getD, hi']
  · have hi' : i < cs.length := by omega
    simp only [List.getD_eq_getElem?_getD, List.getElem?_map, List.getElem?_eq_getElem hi', Option.map_some, Option.getD_some]
    exact fits_lo8 _
end StrChars.Road
namespace StrChars.Road
open Jvm Sem ClassFile Op Lib Jvm.Stand Jvm.Free Jvm.Free.XT
/-- WHAT COMES BACK, in the writer's own shape -/
def QV (Z : State) (x : Addr) (N : Int32) (bs : List Int32) (h : Heap) (n0 : Nat) (v : Option Value) (h' : Heap) (L : List Loc) : Prop := v = none ∧ RoadKit.Fr n0 L ∧ RoadKit.Keep h h' [x] ∧ RoadKit.Exa Z h' x ST ∧ RoadKit.Fld Z h' x ST "coder" "B" (.int 0) ∧
  ∃ (t : Addr) (kb : ClassId), n0 ≤ t ∧ h.size ≤ t ∧ ¬ t = x ∧ RoadKit.Fld Z h' x ST "value" "[B" (.ref t) ∧ RoadKit.Arv Z h' t kb .byte N (bs.map Value.int) (.int 0)
/-- **new String(chars) AT A CALL, FOR THE WRITER**: a char[] of n known ints, each 0 to 255 -/
theorem backV {p : Program} {l : Launch} {e : Env} {R : Room} {s : State} {args : Array Value} {below : List Frame} {len W : Nat} {Z : State} {a0 : Array Value} {h : Heap} (hZ : Z.Warmed39 s.vm) (hw : ∀ d ∈ words, d.before a0 Z = true) {kI : Nat} (wi : (Jvm.Cond.instantiable ST kI).before a0 Z = true)
    {x b : Addr} {kC : ClassId} {cs bs : List Int32} {d v0 c0 : Value} {z N : Int32} {n n0 : Nat} (hx0 : n0 ≤ x) (hh0 : n0 ≤ h.size) (E : RoadKit.Exa Z h x ST) (V : RoadKit.Fld Z h x ST "value" "[B" v0) (C : RoadKit.Fld Z h x ST "coder" "B" c0) (K : RoadKit.Arv Z h b kC .char N (cs.map Value.int) d) (S : RoadKit.Sta Z h ST "COMPACT_STRINGS" "Z" (.int z)) (hz : ¬ z = 0)
    (hn : cs.length = n) (hN : N = Int32.ofNat n) (l0 : 0 < n) (l2 : n ≤ 4000) (hp : ∀ c ∈ cs, ¬ c < 0 ∧ ¬ (255 : Int32) < c) (hb : bs = cs.map (fun c => c.toInt8.toInt32)) (hfr : 4 ≤ R.frames) (hlo : W + 65 ≤ R.locals) :
    Back l R p e below s args (⟨"java/lang/String", "<init>", "([C)V"⟩ : MethodName) len W (fun P a => a = #[.ref x, .ref b] ∧ P.U.heap = h ∧ P.cells + 1 ≤ R.cells ∧ P.slots + n ≤ R.slots)
      (fun P _ v B => ∃ L, QV Z x N bs h n0 v B.U.heap L ∧ B.locs = P.locs ++ L ∧ B.cells = P.cells + 1 ∧ B.slots = P.slots + n) := by
  subst hn hN hb
  refine Back.mono (backArv hZ hw wi E V C K S hz (n32 (by omega)) l0 (by omega) (fun c hc => (hp c hc).2) hfr hlo) (fun P a hp => hp) (fun P a v B hp hq => ?_)
  obtain ⟨L, ⟨q1, q2, q3, q4, q5, q6, q7, ⟨kb, v1, v2⟩, q9⟩, hl, hc, hs⟩ := hq
  exact ⟨L, ⟨q1, fun y hy => by rw [q2 y hy]; exact hx0, q3, q5, q7, h.size, kb, hh0, Nat.le_refl _, Nat.ne_of_gt E.lt, q6, by rw [List.map_map]; exact v2⟩, hl, hc, hs⟩
end StrChars.Road
namespace StrChars
open Jvm Sem ClassFile Op Lib Jvm.Stand Jvm.Free.XT Jvm.Free.ALB Jvm.Free.JM Jvm.Free
open Jvm.Lib.Cold (StaticIs)
def hi8 (x : Int32) : Int32 := lo8 (x >>> ((8 : Int32) &&& 31))
/-- what StringUTF16.getChar makes of two bytes -/
def pairCh (u v : Int32) : Int32 := (((u &&& 255) <<< ((0 : Int32) &&& 31)) ||| ((v &&& 255) <<< ((8 : Int32) &&& 31))).toUInt32.toUInt16.toUInt32.toInt32
theorem shr0 (c : Int32) : c >>> ((0 : Int32) &&& 31) = c := by
  have e : ((0 : Int32) &&& 31) = 0 := by decide
  rw [e]
  apply Int32.toBitVec_inj.mp
  rw [Int32.toBitVec_shiftRight]
  have e1 : ((0 : Int32).toBitVec.smod 32) = 0#32 := by decide
  rw [e1, BitVec.sshiftRight_eq']
  exact BitVec.sshiftRight_zero
theorem lo8_and (x : Int32) : (lo8 x &&& 255).toBitVec.toNat = x.toBitVec.toNat % 256 := by
  have h : (lo8 x).toBitVec = (x.toBitVec.signExtend 8).signExtend 32 := by rw [lo8, Int8.toBitVec_toInt32, Int32.toBitVec_toInt8]
  rw [Int32.toBitVec_and, BitVec.toNat_and, h]
  have e : ((x.toBitVec.signExtend 8).signExtend 32).toNat % 256 = x.toBitVec.toNat % 256 := by
    rw [BitVec.toNat_signExtend]
    have hlt := x.toBitVec.isLt
    simp only [BitVec.toNat_setWidth, BitVec.toNat_signExtend]
    split <;> split <;> omega
  rw [← e]
  exact Nat.and_two_pow_sub_one_eq_mod _ 8
theorem pair_says {c : Int32} (h0 : ¬ c < 0) (h1 : ¬ 65535 < c) : pairCh (lo8 c) (hi8 c) = c := by
  rw [Int32.lt_iff_toInt_lt] at h0 h1
  have e0 : (0 : Int32).toInt = 0 := rfl
  have e1 : (65535 : Int32).toInt = 65535 := rfl
  have hc : c.toInt = c.toBitVec.toNat := by
    have := c.toBitVec.isLt
    have e : c.toInt = c.toBitVec.toInt := rfl
    rw [e] at h0 h1
    rw [e]
    rw [BitVec.toInt_eq_toNat_cond] at h0 h1 ⊢
    split at h0 <;> split <;> omega
  have hn : c.toBitVec.toNat < 65536 := by omega
  have a1 := lo8_and c
  have a2 : (hi8 c &&& 255).toBitVec.toNat = c.toBitVec.toNat / 256 := by
    rw [hi8, lo8_and]
    have e : ((8 : Int32) &&& 31) = 8 := by decide
    rw [e, Int32.toBitVec_shiftRight]
    have e2 : ((8 : Int32).toBitVec.smod 32) = 8#32 := by decide
    rw [e2, BitVec.sshiftRight_eq', BitVec.toNat_sshiftRight_of_msb_false (by rw [BitVec.msb_eq_false_iff_two_mul_lt]; omega)]
    show c.toBitVec.toNat >>> 8 % 256 = _
    rw [Nat.shiftRight_eq_div_pow]
    omega
  unfold pairCh
  apply Int32.toBitVec_inj.mp
  apply BitVec.eq_of_toNat_eq
  have f0 : ((0 : Int32) &&& 31) = 0 := by decide
  have f8 : ((8 : Int32) &&& 31) = 8 := by decide
  rw [f0, f8]
  have g : (((lo8 c &&& 255) <<< (0 : Int32)) ||| ((hi8 c &&& 255) <<< (8 : Int32))).toBitVec.toNat = c.toBitVec.toNat := by
    rw [Int32.toBitVec_or, Int32.toBitVec_shiftLeft, Int32.toBitVec_shiftLeft]
    have s0 : ((0 : Int32).toBitVec.smod 32) = 0#32 := by decide
    have s8 : ((8 : Int32).toBitVec.smod 32) = 8#32 := by decide
    rw [s0, s8, BitVec.toNat_or]
    simp only [BitVec.shiftLeft_eq', BitVec.toNat_shiftLeft, a1, a2]
    show (c.toBitVec.toNat % 256) <<< 0 % 2 ^ 32 ||| (c.toBitVec.toNat / 256) <<< 8 % 2 ^ 32 = _
    rw [Nat.shiftLeft_zero, Nat.mod_eq_of_lt (show c.toBitVec.toNat % 256 < 2 ^ 32 by omega), Nat.mod_eq_of_lt (show (c.toBitVec.toNat / 256) <<< 8 < 2 ^ 32 by rw [Nat.shiftLeft_eq]; omega), Nat.or_comm, ← Nat.shiftLeft_add_eq_or_of_lt (by omega), Nat.shiftLeft_eq]
    omega
  show BitVec.toNat (((((lo8 c &&& 255) <<< (0 : Int32)) ||| ((hi8 c &&& 255) <<< (8 : Int32))).toBitVec.setWidth 16).setWidth 32) = _
  rw [BitVec.toNat_setWidth, BitVec.toNat_setWidth, g]
  omega
end StrChars
namespace StrChars
open Jvm Sem ClassFile Op Lib Jvm.Stand Jvm.Free.XT Jvm.Free.ALB Jvm.Free.JM Jvm.Free
open Jvm.Lib.Cold (StaticIs)
theorem shr1 {n : Nat} (h : 2 * n < 2 ^ 31) : Int32.ofNat (2 * n) >>> ((1 : Int32) &&& 31) = Int32.ofNat n := by
  have e : ((1 : Int32) &&& 31) = 1 := by decide
  rw [e]
  apply Int32.toBitVec_inj.mp
  rw [Int32.toBitVec_shiftRight]
  have e1 : ((1 : Int32).toBitVec.smod 32) = 1#32 := by decide
  have hm : (BitVec.ofNat 32 (2 * n)).toNat = 2 * n := by rw [BitVec.toNat_ofNat, Nat.mod_eq_of_lt (by omega)]
  rw [e1, BitVec.sshiftRight_eq']
  apply BitVec.eq_of_toNat_eq
  show ((BitVec.ofNat 32 (2 * n)).sshiftRight 1).toNat = (BitVec.ofNat 32 n).toNat
  rw [BitVec.toNat_sshiftRight_of_msb_false (by rw [BitVec.msb_eq_false_iff_two_mul_lt, hm]; omega), hm, BitVec.toNat_ofNat, Nat.shiftRight_eq_div_pow]
  omega
/-- the array's cell V codes the n chars f 0 .. f (n - 1) by the coder cd, as the JDK does: coder 1 just where some char is above 255 -/
def Cod (cd : Int32) (n : Nat) (f : Nat → Int32) (V : Cell) : Prop := (cd = 0 ∧ V.slots.size = n ∧ ∀ j, j < n → V.slots[j]? = some (.int (lo8 (f j))) ∧ ¬ 255 < f j) ∨ (cd = 1 ∧ V.slots.size = 2 * n ∧ (∀ j, j < n → V.slots[2 * j]? = some (.int (lo8 (f j))) ∧ V.slots[2 * j + 1]? = some (.int (hi8 (f j)))) ∧ ∃ j, j < n ∧ 255 < f j)
theorem Cod.cd {cd : Int32} {n : Nat} {f : Nat → Int32} {V : Cell} (h : Cod cd n f V) : cd = 0 ∨ cd = 1 := h.imp (fun q => q.1) fun q => q.1
theorem Cod.len {cd : Int32} {n : Nat} {f : Nat → Int32} {V : Cell} (h : Cod cd n f V) (hs : V.slots.size < 2 ^ 31) : Int32.ofNat V.slots.size >>> (cd &&& 31) = Int32.ofNat n := by
  rcases h with ⟨rfl, h, -⟩ | ⟨rfl, h, -⟩
  · rw [shr0, h]
  · rw [h, shr1 (by omega)]
/-- **x is a String of the n chars f 0 .. f (n - 1)**, Latin-1 or UTF-16; its array at t has the cell V -/
def Txt (x t : Addr) (V : Cell) (cd : Int32) (n : Nat) (f : Nat → Int32) (U : State) : Prop := Exact "java/lang/String" x U ∧ Has x "java/lang/String" "value" "[B" (.ref t) U ∧ Has x "java/lang/String" "coder" "B" (.int cd) U ∧ XT.Arr .byte t V U ∧ Cod cd n f V ∧ ∀ j, j < n → ¬ f j < 0 ∧ ¬ 65535 < f j
theorem Txt.mv {x t : Addr} {V : Cell} {cd : Int32} {n : Nat} {f : Nat → Int32} {U U' : State} (h : Txt x t V cd n f U) (hal : U.vm.Alike U'.vm) (hh : U'.heap = U.heap) : Txt x t V cd n f U' := ⟨h.1.mv hal hh, h.2.1.mv hal hh, h.2.2.1.mv hal hh, h.2.2.2.1.mv hal hh, h.2.2.2.2⟩
namespace Cdr
def yN : MethodName := ⟨"java/lang/String", "coder", "()B"⟩
abbrev yB : ByteArray := jdk_42_method_152_code
theorem d0 : decode yB 0 = .ok (.getstatic 38, 3) := by decide +kernel
theorem d3 : decode yB 3 = .ok (.ifCond (.eq) 10, 3) := by decide +kernel
theorem d6 : decode yB 6 = .ok (.aload_n 0, 1) := by decide +kernel
theorem d7 : decode yB 7 = .ok (.getfield 15, 3) := by decide +kernel
theorem d10 : decode yB 10 = .ok (.goto 4, 3) := by decide +kernel
theorem d14 : decode yB 14 = .ok (.ireturn, 1) := by decide +kernel
def site : List Cond := [.fieldLink "java/lang/String" 38 "java/lang/String" "COMPACT_STRINGS" "Z", .fieldLink "java/lang/String" 15 "java/lang/String" "coder" "B"]
def tab : Cond := tabOf yN yB 1 (some .byte) site
def P (x : Addr) (cd z : Int32) (args : Array Value) (s : State) : Prop := args = #[.ref x] ∧ Has x "java/lang/String" "coder" "B" (.int cd) s ∧ (cd = 0 ∨ cd = 1) ∧ StaticIs s "java/lang/String" "COMPACT_STRINGS" "Z" (.int z) ∧ ¬ z = 0
def E (cd : Int32) (r : Option Value) (s u : State) : Prop := XT.PureE (some (.int cd)) r s u
theorem law (l : Launch) (x : Addr) (cd z : Int32) : Law l yN 1 0 0 0 yB 1 (some .byte) site (P x cd z) (E cd) [] 0 0 := by
  refine Law.of_walk (plainFor_of_name (by decide +kernel)) (by decide +kernel) (by decide +kernel) (by decide) (fun _ _ h => by rw [h.1]; rfl) (fun _ U U' hal hh h => ⟨h.1, h.2.1.mv hal hh, h.2.2.1, h.2.2.2.1.there hal hh, h.2.2.2.2⟩) (fun r U U' V V' h1 hal h2 h => XT.PureE.mv r U U' V V' h1 hal h2 h) ?_
  intro p e s m args below meth c s₁ X0 hexec hbytes hml hret hlk hnm hown hh0 W hP
  obtain ⟨rfl, hx, hc, s1, hz⟩ := hP
  have c1 : Steps p.tables e below (s₁.setTop (entryFrame m #[.ref x] 1)) (s₁.setTop (mkF m 0 #[.val (.ref x)] [])) := entry rfl
  obtain ⟨T2, X2, q2, st2⟩ := X0.sget hexec hown (wk W (.fieldLink "java/lang/String" 38 "java/lang/String" "COMPACT_STRINGS" "Z")) s1 (fun _ _ h => by rw [hh0]; exact h) (g := (mkF m 0 #[.val (.ref x)] [])) rfl (hb hbytes d0)
  have hh2 := q2.trans hh0
  have c3 : Steps p.tables e below (s₁.setTop (entryFrame m #[.ref x] 1)) (T2.setTop (mkF m 7 #[.val (.ref x)] [.ref x])) := (c1.trans (st2 _ (Steps.refl _))).trans (by
    refine XS.ifNo X2.here hexec rfl (hb hbytes d3) rfl (i0_eq_f hz) ?_
    refine XS.aloadN X2.here hexec rfl (hb hbytes d6) rfl rfl ?_
    exact Steps.refl _)
  obtain ⟨T4, X4, q4, st4⟩ := X2.hget hexec hown (wk W (.fieldLink "java/lang/String" 15 "java/lang/String" "coder" "B")) (hx.mv X2.warmed.alike hh2) (g := (mkF m 7 #[.val (.ref x)] [.ref x])) rfl (rest := []) rfl (hb hbytes d7)
  have c5 : Steps p.tables e below (s₁.setTop (entryFrame m #[.ref x] 1)) (T4.setTop (mkF m 14 #[.val (.ref x)] [.int cd])) := (c3.trans (st4 _ (Steps.refl _))).trans (by
    refine XS.goto X4.here hexec rfl (pc0 := 10) rfl (hb hbytes d10) (by decide) rfl ?_
    exact Steps.refl _)
  exact ⟨T4, some (.int cd), _, _, _, X4, rfl, rfl, rfl, (fun h => by cases h), ⟨rfl, q4.trans hh2⟩, fun fs hl => c5.trans (X4.ireturnOut hexec hret (by rcases hc with rfl | rfl <;> rfl) (Or.inr (Or.inr (Or.inl rfl))) (hb hbytes d14) hl)⟩
end Cdr
namespace Len
def yN : MethodName := ⟨"java/lang/String", "length", "()I"⟩
abbrev yB : ByteArray := jdk_42_method_54_code
theorem d0 : decode yB 0 = .ok (.aload_n 0, 1) := by decide +kernel
theorem d1 : decode yB 1 = .ok (.getfield 9, 3) := by decide +kernel
theorem d4 : decode yB 4 = .ok (.arraylength, 1) := by decide +kernel
theorem d5 : decode yB 5 = .ok (.aload_n 0, 1) := by decide +kernel
theorem d6 : decode yB 6 = .ok (.invokevirtual 335, 3) := by decide +kernel
theorem d9 : decode yB 9 = .ok (.ishr, 1) := by decide +kernel
theorem d10 : decode yB 10 = .ok (.ireturn, 1) := by decide +kernel
def site : List Cond := [.fieldLink "java/lang/String" 9 "java/lang/String" "value" "[B", Cdr.tab] ++ virtW "java/lang/String" 335 "java/lang/String" Cdr.yN Cdr.yN
def tab : Cond := tabOf yN yB 1 (some .int) site
def P (x t : Addr) (V : Cell) (cd : Int32) (n : Nat) (f : Nat → Int32) (z : Int32) (args : Array Value) (s : State) : Prop := args = #[.ref x] ∧ Txt x t V cd n f s ∧ StaticIs s "java/lang/String" "COMPACT_STRINGS" "Z" (.int z) ∧ ¬ z = 0
def E (n : Nat) (r : Option Value) (s u : State) : Prop := XT.PureE (some (.int (Int32.ofNat n))) r s u
/-- length() of a String of n chars, in either coding -/
theorem law (l : Launch) (x t : Addr) (V : Cell) (cd : Int32) (n : Nat) (f : Nat → Int32) (z : Int32) : Law l yN 1 0 1 13 yB 1 (some .int) site (P x t V cd n f z) (E n) [] 0 0 := by
  refine Law.of_walk (plainFor_of_name (by decide +kernel)) (by decide +kernel) (by decide +kernel) (by decide) (fun _ _ h => by rw [h.1]; rfl) (fun _ U U' hal hh h => ⟨h.1, h.2.1.mv hal hh, h.2.2.1.there hal hh, h.2.2.2⟩) (fun r U U' V V' h1 hal h2 h => XT.PureE.mv r U U' V V' h1 hal h2 h) ?_
  intro p e s m args below meth c s₁ X0 hexec hbytes hml hret hlk hnm hown hh0 W hP
  obtain ⟨rfl, hx, s1, hz⟩ := hP
  have v31 := hx.2.2.2.1.2.2.2
  have c1 : Steps p.tables e below (s₁.setTop (entryFrame m #[.ref x] 1)) (s₁.setTop (mkF m 1 #[.val (.ref x)] [.ref x])) := Steps.trans (entry rfl) (by
    show Steps p.tables e below (s₁.setTop (mkF m 0 #[.val (.ref x)] [])) _
    refine XS.aloadN X0.here hexec rfl (hb hbytes d0) rfl rfl ?_
    exact Steps.refl _)
  obtain ⟨T2, X2, q2, st2⟩ := X0.hget hexec hown (wk W (.fieldLink "java/lang/String" 9 "java/lang/String" "value" "[B")) (hx.mv X0.warmed.alike hh0).2.1 (g := (mkF m 1 #[.val (.ref x)] [.ref x])) rfl (rest := []) rfl (hb hbytes d1)
  have hh2 := q2.trans hh0
  have hx2 := hx.mv X2.warmed.alike hh2
  have c3 : Steps p.tables e below (s₁.setTop (entryFrame m #[.ref x] 1)) (T2.setTop (mkF m 6 #[.val (.ref x)] [.ref x, .int (Int32.ofNat V.slots.size)])) := (c1.trans (st2 _ (Steps.refl _))).trans (by
    refine X2.alen hexec hx2.2.2.2.1 rfl rfl (hb hbytes d4) ?_
    refine XS.aloadN X2.here hexec rfl (hb hbytes d5) rfl rfl ?_
    exact Steps.refl _)
  obtain ⟨v4, T4, X4, E4, g4⟩ := X2.callV hexec (Cdr.law l x cd z) hown (wks W (virtW "java/lang/String" 335 "java/lang/String" Cdr.yN Cdr.yN)) rfl (by decide) (wk W Cdr.tab) (W := 1) (Nat.le_of_ble_eq_true rfl) (Nat.le_of_ble_eq_true rfl) (Nat.le_refl _) (Nat.le_refl _) (hx2.1.fc X2.warmed.alike) hx2.1.is (g := (mkF m 6 #[.val (.ref x)] [.ref x, .int (Int32.ofNat V.slots.size)])) rfl (by rw [hml]; rfl) c3 (argsL := []) (rest := [.int (Int32.ofNat V.slots.size)]) rfl rfl (by show 2 * 0 + (1 + 0) ≤ _; decide) (hb hbytes d6) (⟨rfl, hx2.2.2.1, hx.2.2.2.2.1.cd, s1.there X2.warmed.alike hh2, hz⟩)
  obtain ⟨rfl, q4⟩ := E4
  have c5 : Steps p.tables e below (s₁.setTop (entryFrame m #[.ref x] 1)) (T4.setTop (mkF m 10 #[.val (.ref x)] [.int (Int32.ofNat V.slots.size >>> (cd &&& 31))])) := Steps.trans g4 (by
    refine ishr X4.here hexec rfl (hb hbytes d9) rfl ?_
    exact Steps.refl _)
  rw [hx.2.2.2.2.1.len v31] at c5
  exact ⟨T4, some (.int (Int32.ofNat n)), _, _, _, X4, rfl, rfl, rfl, (fun h => by cases h), ⟨rfl, q4.trans hh2⟩, fun fs hl => c5.trans (X4.ireturnOut hexec hret rfl (Or.inl rfl) (hb hbytes d10) hl)⟩
theorem pays {l : Launch} {R : Room} {p : Program} {e : Env} {below : List Frame} {s : State} {sargs : Array Value} {len W : Nat} (x t : Addr) (V : Cell) (cd : Int32) (n : Nat) (f : Nat → Int32) (z : Int32) (htab : tab.before sargs s = true) (hfr : 2 ≤ R.frames) (hlo : W + 25 ≤ R.locals) :
    Back l R p e below s sargs yN len W (fun A₁ a₁ => A₁.cells + 0 ≤ R.cells ∧ A₁.slots + 0 ≤ R.slots ∧ P x t V cd n f z a₁ A₁.U) (fun A₁ _ v₁ B₁ => E n v₁ A₁.U B₁.U ∧ B₁.locs = A₁.locs ++ [] ∧ B₁.cells = A₁.cells + 0 ∧ B₁.slots = A₁.slots + 0) :=
  (law l x t V cd n f z).pays htab hfr (by omega)
end Len
end StrChars
namespace StrChars.Road
open Jvm Sem ClassFile Op Lib Jvm.Stand Jvm.Free Jvm.Free.XT
open Jvm.Lib.Cold (StaticIs)
theorem consq {a : Array Value} {s : State} {c : Jvm.Cond} {L : List Jvm.Cond} (h0 : c.before a s = true) (h : ∀ w ∈ L, w.before a s = true) : ∀ w ∈ c :: L, w.before a s = true := fun w hw => (List.mem_cons.mp hw).elim (fun e => e ▸ h0) (h w)
/-- the words of String.length(), either coding -/
abbrev wordsLen : List Jvm.Cond := [.code Len.yN Len.yB 1 (some .int), .initialized ST, .fieldLink ST 9 ST "value" "[B", .fieldLink ST 38 ST "COMPACT_STRINGS" "Z", .fieldLink ST 15 ST "coder" "B", .code Cdr.yN Cdr.yB 1 (some .byte), .methodLink ST 335 Cdr.yN, .declares Cdr.yN, .selects ST Cdr.yN Cdr.yN, .instanceMethod Cdr.yN]
theorem tabLen_of {a : Array Value} {s : State} (h : ∀ w ∈ wordsLen, w.before a s = true) : Len.tab.before a s = true := by
  have hc : Cdr.tab.before a s = true := unparts (wk h (.code Cdr.yN Cdr.yB 1 (some .byte))) (wks h (.initialized Cdr.yN.cls :: Cdr.site))
  have q := consq hc h
  exact unparts (wk q (.code Len.yN Len.yB 1 (some .int))) (wks q (.initialized Len.yN.cls :: Len.site))
theorem movedLen {Z s : State} {a0 args : Array Value} (hZ : Z.Warmed39 s.vm) (hw : ∀ d ∈ wordsLen, d.before a0 Z = true) : ∀ d ∈ wordsLen, d.before args s = true := fun d hd => by
  have q := hw d hd
  have t : ∀ d ∈ wordsLen, d = .arrayClass .byte ∨ (d.onTables && d.keepsFace) = true := by decide +kernel
  rcases t d hd with rfl | t
  · exact RoadKit.mvA hZ q
  · exact RoadKit.mv hZ q t
/-- the bytes of the chars cs, low before high -/
def wideBytes : List Int32 → List Value
  | [] => []
  | c :: cs => .int (lo8 c) :: .int (hi8 c) :: wideBytes cs
theorem wide_lo (d : Value) : ∀ (cs : List Int32) (j : Nat), j < cs.length → (wideBytes cs).getD (2 * j) d = .int (lo8 (cs.getD j 0))
  | [], j, h => absurd h (Nat.not_lt_zero j)
  | c :: cs, 0, _ => rfl
  | c :: cs, j + 1, h => by
    have q := wide_lo d cs j (by simpa using h)
    rw [show 2 * (j + 1) = 2 * j + 1 + 1 from by omega]
    simpa [wideBytes] using q
theorem wide_hi (d : Value) : ∀ (cs : List Int32) (j : Nat), j < cs.length → (wideBytes cs).getD (2 * j + 1) d = .int (hi8 (cs.getD j 0))
  | [], j, h => absurd h (Nat.not_lt_zero j)
  | c :: cs, 0, _ => rfl
  | c :: cs, j + 1, h => by
    have q := wide_hi d cs j (by simpa using h)
    rw [show 2 * (j + 1) + 1 = 2 * j + 1 + 1 + 1 from by omega]
    simpa [wideBytes] using q
theorem low_at (d : Value) (cs : List Int32) (j : Nat) (h : j < cs.length) : (cs.map fun c => Value.int (lo8 c)).getD j d = .int (lo8 (cs.getD j 0)) := by
  simp [List.getD_eq_getElem?_getD, h]
/-- an array of N2 bytes vs codes the chars cs by the coder cd -/
def CodA (cs : List Int32) (cd N2 : Int32) (vs : List Value) : Prop := (cd = 0 ∧ N2 = Int32.ofNat cs.length ∧ vs = (cs.map fun c => Value.int (lo8 c)) ∧ ∀ c ∈ cs, ¬ 255 < c) ∨ (cd = 1 ∧ N2 = Int32.ofNat (2 * cs.length) ∧ vs = wideBytes cs ∧ ∃ c ∈ cs, 255 < c)
theorem CodA.cod {cs : List Int32} {cd N2 : Int32} {vs : List Value} {V : Cell} (h : CodA cs cd N2 vs) (hn : 2 * cs.length < 2 ^ 31) (hs : V.slots.size = N2.toNatClampNeg) (hv : RoadKit.Has V vs (.int 0)) : Cod cd cs.length (fun j => cs.getD j 0) V := by
  rcases h with ⟨rfl, rfl, rfl, h⟩ | ⟨rfl, rfl, rfl, c, hc, hw⟩
  · rw [n32 (by omega)] at hs
    exact Or.inl ⟨rfl, hs, fun j hj => ⟨by rw [hv j (by omega), low_at _ _ _ hj], by
      have e : cs.getD j 0 = cs[j] := by simp [List.getD_eq_getElem?_getD, hj]
      show ¬ 255 < cs.getD j 0
      rw [e]; exact h _ (List.getElem_mem _)⟩⟩
  · rw [n32 (by omega)] at hs
    obtain ⟨j, hj, rfl⟩ := List.getElem_of_mem hc
    exact Or.inr ⟨rfl, hs, fun j hj => ⟨by rw [hv _ (by omega), wide_lo _ _ _ hj], by rw [hv _ (by omega), wide_hi _ _ _ hj]⟩, j, hj, by
      have e : cs.getD j 0 = cs[j] := by simp [List.getD_eq_getElem?_getD, hj]
      show 255 < cs.getD j 0
      rw [e]; exact hw⟩
/-- an object of exactly java/lang/String, its two fields found: as the laws ask it -/
theorem strObj {Z U : State} {a0 : Array Value} {kI : Nat} (wi : (Jvm.Cond.instantiable ST kI).before a0 Z = true) (al : Z.vm.Alike U.vm) {x : Addr} {v0 c0 : Value} (E : RoadKit.Exa Z U.heap x ST) (V : RoadKit.Fld Z U.heap x ST "value" "[B" v0) (C : RoadKit.Fld Z U.heap x ST "coder" "B" c0) :
    ∃ (D : Cell) (fV fC : Field), Blank ST x D U ∧ Found ST "value" "[B" fV U ∧ Found ST "coder" "B" fC U ∧ D.slots[fV.slot]? = some v0 ∧ D.slots[fC.slot]? = some c0 ∧ RoadKit.slotOf Z ST "value" "[B" = fV.slot ∧ RoadKit.slotOf Z ST "coder" "B" = fC.slot := by
  obtain ⟨D, cfV, kV, iV, fV, hD, gV, stV, knV, obV, asV, slV⟩ := V
  obtain ⟨D', cfC, kC, iC, fC, hD', gC, stC, -, -, asC, slC⟩ := C
  cases hD.symm.trans hD'
  obtain ⟨D2, kD, e1, e2, e3, e4, e5⟩ := E
  cases hD.symm.trans e1
  obtain ⟨c2, k2, i1, i2, i3, -⟩ := Cond.instantiable_spec wi
  cases e2.symm.trans i1
  cases e3.symm.trans i2
  obtain ⟨kU, u1, u2⟩ := al.2.2 _ _ e3
  exact ⟨D, fV, fC, ⟨hD, ⟨knV, fun q hq => by rw [hq] at obV; cases obV⟩, by rw [al.findClass]; exact e2, kU, u1, by rw [u2]; exact i3, by rw [u2]; exact e5 i3⟩, ⟨SBG.found_only al ⟨cfV, kV, iV, gV⟩, stV⟩, ⟨SBG.found_only al ⟨cfC, kC, iC, gC⟩, stC⟩, slV, slC, by simp [RoadKit.slotOf, gV], by simp [RoadKit.slotOf, gC]⟩
theorem sta_is {Z U : State} (al : Z.vm.Alike U.vm) {C n d : String} {v : Value} (S : RoadKit.Sta Z U.heap C n d v) : StaticIs U C n d v := by
  obtain ⟨cfS, iS, kS, fS, st, cS, t1, t2, t3, t4, t5, t6, t7⟩ := S
  exact StaticIs.there (s := { Z with heap := U.heap }) ⟨cfS, iS, kS, fS, st, cS, t1, t2, t3, t4, t5, (fun q => by rw [q] at t6; cases t6), t7⟩ al rfl
/-- **length() OF SUCH A STRING** -/
theorem lenW {p : Program} {l : Launch} {e : Env} {R : Room} {s : State} {args : Array Value} {below : List Frame} {len W : Nat} {Z : State} {a0 : Array Value} {h : Heap} (hZ : Z.Warmed39 s.vm) (hw : ∀ d ∈ wordsLen, d.before a0 Z = true) {kI : Nat} (wi : (Jvm.Cond.instantiable ST kI).before a0 Z = true)
    {x t : Addr} {kb : ClassId} {cs : List Int32} {cd N2 z : Int32} {vs : List Value} (E : RoadKit.Exa Z h x ST) (V : RoadKit.Fld Z h x ST "value" "[B" (.ref t)) (C : RoadKit.Fld Z h x ST "coder" "B" (.int cd)) (K : RoadKit.Arv Z h t kb .byte N2 vs (.int 0)) (hc : CodA cs cd N2 vs) (hb : ∀ c ∈ cs, ¬ c < 0 ∧ ¬ (65535 : Int32) < c)
    (S : RoadKit.Sta Z h ST "COMPACT_STRINGS" "Z" (.int z)) (hz : ¬ z = 0) (l2 : cs.length ≤ 4000) (hfr : 2 ≤ R.frames) (hlo : W + 25 ≤ R.locals) :
    Back l R p e below s args (⟨"java/lang/String", "length", "()I"⟩ : MethodName) len W (fun P a => a = #[.ref x] ∧ P.U.heap = h ∧ P.cells + 0 ≤ R.cells ∧ P.slots + 0 ≤ R.slots)
      (fun P _ v B => ∃ L, (v = some (.int (Int32.ofNat cs.length)) ∧ L = [] ∧ B.U.heap = h) ∧ B.locs = P.locs ++ L ∧ B.cells = P.cells + 0 ∧ B.slots = P.slots + 0) := by
  obtain ⟨A, K1, K2, K3, K4, K5, K6⟩ := K
  have hcod := hc.cod (by omega) K3 K5
  intro m meth c P g ig mk a X hg hsize hdg hW hn hp'
  obtain ⟨rfl, rfl, r1, r2⟩ := hp'
  have al : Z.vm.Alike P.U.vm := hZ.alike.trans X.warmed.alike
  obtain ⟨D, fV, fC, hB, F1, F2, g1, g2, -, -⟩ := strObj wi al E V C
  have hx : Txt x t A cd cs.length (fun j => cs.getD j 0) P.U := ⟨⟨_, hB.2.2.1, D, hB.1, rfl, by cases q : D.vm <;> first | rfl | exact absurd q (hB.2.1.2 _)⟩, Has.of hB F1 g1, Has.of hB F2 g2, ⟨K1.1, State.isArrayOf_alike al K1.2.1, K1.2.2, by rcases hcod with ⟨-, q, -⟩ | ⟨-, q, -⟩ <;> omega⟩, hcod, fun j hj => by
    have e : cs.getD j 0 = cs[j] := by simp [List.getD_eq_getElem?_getD, hj]
    show ¬ cs.getD j 0 < 0 ∧ ¬ 65535 < cs.getD j 0
    rw [e]; exact hb _ (List.getElem_mem _)⟩
  obtain ⟨v, B, X', ⟨⟨hv, hh⟩, hl, hk, hs⟩, st⟩ := Len.pays x t A cd cs.length (fun j => cs.getD j 0) z (tabLen_of (movedLen hZ hw)) hfr hlo m meth c P g ig mk _ X hg hsize hdg hW hn ⟨r1, r2, rfl, hx, sta_is al S, hz⟩
  exact ⟨v, B, X', ⟨[], ⟨hv, rfl, hh⟩, hl, hk, hs⟩, st⟩
end StrChars.Road
namespace StrChars
open Jvm Sem ClassFile Op Lib Jvm.Stand Jvm.Free.XT Jvm.Free.ALB Jvm.Free.JM Jvm.Free
open Jvm.Lib.Cold (StaticIs)
namespace Emp
def yN : MethodName := ⟨"java/lang/String", "isEmpty", "()Z"⟩
abbrev yB : ByteArray := jdk_42_method_55_code
theorem d0 : decode yB 0 = .ok (.aload_n 0, 1) := by decide +kernel
theorem d1 : decode yB 1 = .ok (.getfield 9, 3) := by decide +kernel
theorem d4 : decode yB 4 = .ok (.arraylength, 1) := by decide +kernel
theorem d5 : decode yB 5 = .ok (.ifCond (.ne) 7, 3) := by decide +kernel
theorem d8 : decode yB 8 = .ok (.iconst 1, 1) := by decide +kernel
theorem d9 : decode yB 9 = .ok (.goto 4, 3) := by decide +kernel
theorem d12 : decode yB 12 = .ok (.iconst 0, 1) := by decide +kernel
theorem d13 : decode yB 13 = .ok (.ireturn, 1) := by decide +kernel
def site : List Cond := [.fieldLink "java/lang/String" 9 "java/lang/String" "value" "[B"]
def tab : Cond := tabOf yN yB 1 (some .boolean) site
def P (x t : Addr) (V : Cell) (cd : Int32) (n : Nat) (f : Nat → Int32) (args : Array Value) (s : State) : Prop := args = #[.ref x] ∧ Txt x t V cd n f s
def E (n : Nat) (r : Option Value) (s u : State) : Prop := XT.PureE (some (.int (if n = 0 then 1 else 0))) r s u
/-- isEmpty() of a String of n chars -/
theorem law (l : Launch) (x t : Addr) (V : Cell) (cd : Int32) (n : Nat) (f : Nat → Int32) : Law l yN 1 0 0 0 yB 1 (some .boolean) site (P x t V cd n f) (E n) [] 0 0 := by
  refine Law.of_walk (plainFor_of_name (by decide +kernel)) (by decide +kernel) (by decide +kernel) (by decide) (fun _ _ h => by rw [h.1]; rfl) (fun _ U U' hal hh h => ⟨h.1, h.2.mv hal hh⟩) (fun r U U' V V' h1 hal h2 h => XT.PureE.mv r U U' V V' h1 hal h2 h) ?_
  intro p e s m args below meth c s₁ X0 hexec hbytes hml hret hlk hnm hown hh0 W hP
  obtain ⟨rfl, hx⟩ := hP
  have v31 := hx.2.2.2.1.2.2.2
  have c1 : Steps p.tables e below (s₁.setTop (entryFrame m #[.ref x] 1)) (s₁.setTop (mkF m 1 #[.val (.ref x)] [.ref x])) := Steps.trans (entry rfl) (by
    show Steps p.tables e below (s₁.setTop (mkF m 0 #[.val (.ref x)] [])) _
    refine XS.aloadN X0.here hexec rfl (hb hbytes d0) rfl rfl ?_
    exact Steps.refl _)
  obtain ⟨T2, X2, q2, st2⟩ := X0.hget hexec hown (wk W (.fieldLink "java/lang/String" 9 "java/lang/String" "value" "[B")) (hx.mv X0.warmed.alike hh0).2.1 (g := (mkF m 1 #[.val (.ref x)] [.ref x])) rfl (rest := []) rfl (hb hbytes d1)
  have hh2 := q2.trans hh0
  have hx2 := hx.mv X2.warmed.alike hh2
  have c3 : Steps p.tables e below (s₁.setTop (entryFrame m #[.ref x] 1)) (T2.setTop (mkF m 5 #[.val (.ref x)] [.int (Int32.ofNat V.slots.size)])) := (c1.trans (st2 _ (Steps.refl _))).trans (by
    refine X2.alen hexec hx2.2.2.2.1 rfl rfl (hb hbytes d4) ?_
    exact Steps.refl _)
  have hz : V.slots.size = 0 ↔ n = 0 := by
    rcases hx.2.2.2.2.1 with ⟨-, q, -⟩ | ⟨-, q, -⟩ <;> omega
  by_cases h0 : n = 0
  · have c4 : Steps p.tables e below (s₁.setTop (entryFrame m #[.ref x] 1)) (T2.setTop (mkF m 13 #[.val (.ref x)] [.int 1])) := c3.trans (by
      refine XS.ifNo X2.here hexec rfl (hb hbytes d5) rfl (i0_ne_f (by rw [hz.mpr h0]; rfl)) ?_
      refine iconstV X2.here hexec rfl 1 (hb hbytes d8) (by decide) ?_
      refine XS.goto X2.here hexec rfl (pc0 := 9) rfl (hb hbytes d9) (by decide) rfl ?_
      exact Steps.refl _)
    exact ⟨T2, some (.int 1), _, _, _, X2, rfl, rfl, rfl, (fun h => by cases h), ⟨by rw [if_pos h0], hh2⟩, fun fs hl => c4.trans (X2.ireturnOut hexec hret rfl (Or.inr (Or.inl rfl)) (hb hbytes d13) hl)⟩
  · have c4 : Steps p.tables e below (s₁.setTop (entryFrame m #[.ref x] 1)) (T2.setTop (mkF m 13 #[.val (.ref x)] [.int 0])) := c3.trans (by
      refine XS.ifYes X2.here hexec rfl (pc0 := 5) rfl (hb hbytes d5) rfl (i0_ne_t (nz32 v31 (by omega))) (by decide) rfl ?_
      refine iconstV X2.here hexec rfl 0 (hb hbytes d12) (by decide) ?_
      exact Steps.refl _)
    exact ⟨T2, some (.int 0), _, _, _, X2, rfl, rfl, rfl, (fun h => by cases h), ⟨by rw [if_neg h0], hh2⟩, fun fs hl => c4.trans (X2.ireturnOut hexec hret rfl (Or.inr (Or.inl rfl)) (hb hbytes d13) hl)⟩
theorem pays {l : Launch} {R : Room} {p : Program} {e : Env} {below : List Frame} {s : State} {sargs : Array Value} {len W : Nat} (x t : Addr) (V : Cell) (cd : Int32) (n : Nat) (f : Nat → Int32) (htab : tab.before sargs s = true) (hfr : 1 ≤ R.frames) (hlo : W + 12 ≤ R.locals) :
    Back l R p e below s sargs yN len W (fun A₁ a₁ => A₁.cells + 0 ≤ R.cells ∧ A₁.slots + 0 ≤ R.slots ∧ P x t V cd n f a₁ A₁.U) (fun A₁ _ v₁ B₁ => E n v₁ A₁.U B₁.U ∧ B₁.locs = A₁.locs ++ [] ∧ B₁.cells = A₁.cells + 0 ∧ B₁.slots = A₁.slots + 0) :=
  (law l x t V cd n f).pays htab hfr (by omega)
end Emp
end StrChars
namespace StrChars.Road
open Jvm Sem ClassFile Op Lib Jvm.Stand Jvm.Free Jvm.Free.XT
open Jvm.Lib.Cold (StaticIs)
/-- the words of String.isEmpty() -/
abbrev wordsEmp : List Jvm.Cond := [.code Emp.yN Emp.yB 1 (some .boolean), .initialized ST, .fieldLink ST 9 ST "value" "[B"]
theorem tabEmp_of {a : Array Value} {s : State} (h : ∀ w ∈ wordsEmp, w.before a s = true) : Emp.tab.before a s = true := unparts (wk h (.code Emp.yN Emp.yB 1 (some .boolean))) (wks h (.initialized Emp.yN.cls :: Emp.site))
theorem movedEmp {Z s : State} {a0 args : Array Value} (hZ : Z.Warmed39 s.vm) (hw : ∀ d ∈ wordsEmp, d.before a0 Z = true) : ∀ d ∈ wordsEmp, d.before args s = true := fun d hd => by
  have t : ∀ d ∈ wordsEmp, (d.onTables && d.keepsFace) = true := by decide +kernel
  exact RoadKit.mv hZ (hw d hd) (t d hd)
/-- the road's facts of a String, as the laws ask it -/
theorem txt_of {Z U : State} {a0 : Array Value} {kI : Nat} (wi : (Jvm.Cond.instantiable ST kI).before a0 Z = true) (al : Z.vm.Alike U.vm) {x t : Addr} {kb : ClassId} {cs : List Int32} {cd N2 : Int32} {vs : List Value} (E : RoadKit.Exa Z U.heap x ST) (V : RoadKit.Fld Z U.heap x ST "value" "[B" (.ref t)) (C : RoadKit.Fld Z U.heap x ST "coder" "B" (.int cd)) (K : RoadKit.Arv Z U.heap t kb .byte N2 vs (.int 0)) (hc : CodA cs cd N2 vs) (hb : ∀ c ∈ cs, ¬ c < 0 ∧ ¬ (65535 : Int32) < c) (l2 : cs.length ≤ 4000) :
    ∃ A, Txt x t A cd cs.length (fun j => cs.getD j 0) U := by
  obtain ⟨A, K1, K2, K3, K4, K5, K6⟩ := K
  have hcod := hc.cod (by omega) K3 K5
  obtain ⟨D, fV, fC, hB, F1, F2, g1, g2, -, -⟩ := strObj wi al E V C
  exact ⟨A, ⟨_, hB.2.2.1, D, hB.1, rfl, by cases q : D.vm <;> first | rfl | exact absurd q (hB.2.1.2 _)⟩, Has.of hB F1 g1, Has.of hB F2 g2, ⟨K1.1, State.isArrayOf_alike al K1.2.1, K1.2.2, by rcases hcod with ⟨-, q, -⟩ | ⟨-, q, -⟩ <;> omega⟩, hcod, fun j hj => by
    have e : cs.getD j 0 = cs[j] := by simp [List.getD_eq_getElem?_getD, hj]
    show ¬ cs.getD j 0 < 0 ∧ ¬ 65535 < cs.getD j 0
    rw [e]; exact hb _ (List.getElem_mem _)⟩
/-- **isEmpty() OF SUCH A STRING** -/
theorem empW {p : Program} {l : Launch} {e : Env} {R : Room} {s : State} {args : Array Value} {below : List Frame} {len W : Nat} {Z : State} {a0 : Array Value} {h : Heap} (hZ : Z.Warmed39 s.vm) (hw : ∀ d ∈ wordsEmp, d.before a0 Z = true) {kI : Nat} (wi : (Jvm.Cond.instantiable ST kI).before a0 Z = true)
    {x t : Addr} {kb : ClassId} {cs : List Int32} {cd N2 : Int32} {vs : List Value} (E : RoadKit.Exa Z h x ST) (V : RoadKit.Fld Z h x ST "value" "[B" (.ref t)) (C : RoadKit.Fld Z h x ST "coder" "B" (.int cd)) (K : RoadKit.Arv Z h t kb .byte N2 vs (.int 0)) (hc : CodA cs cd N2 vs) (hb : ∀ c ∈ cs, ¬ c < 0 ∧ ¬ (65535 : Int32) < c) (l2 : cs.length ≤ 4000) (hfr : 1 ≤ R.frames) (hlo : W + 12 ≤ R.locals) :
    Back l R p e below s args (⟨"java/lang/String", "isEmpty", "()Z"⟩ : MethodName) len W (fun P a => a = #[.ref x] ∧ P.U.heap = h ∧ P.cells + 0 ≤ R.cells ∧ P.slots + 0 ≤ R.slots)
      (fun P _ v B => ∃ L, (v = some (.int (if cs.length = 0 then 1 else 0)) ∧ L = [] ∧ B.U.heap = h) ∧ B.locs = P.locs ++ L ∧ B.cells = P.cells + 0 ∧ B.slots = P.slots + 0) := by
  intro m meth c P g ig mk a X hg hsize hdg hW hn hp'
  obtain ⟨rfl, rfl, r1, r2⟩ := hp'
  have al : Z.vm.Alike P.U.vm := hZ.alike.trans X.warmed.alike
  obtain ⟨A, hx⟩ := txt_of wi al E V C K hc hb l2
  obtain ⟨v, B, X', ⟨⟨hv, hh⟩, hl, hk, hs⟩, st⟩ := Emp.pays x t A cd cs.length (fun j => cs.getD j 0) (tabEmp_of (movedEmp hZ hw)) hfr hlo m meth c P g ig mk _ X hg hsize hdg hW hn ⟨r1, r2, rfl, hx⟩
  exact ⟨v, B, X', ⟨[], ⟨hv, rfl, hh⟩, hl, hk, hs⟩, st⟩
end StrChars.Road
namespace StrChars.Road
open Jvm Sem ClassFile Op Lib Jvm.Stand Jvm.Free Jvm.Free.XT
open Jvm.Lib.Cold (StaticIs)
/-- what backV says of its String, as the contracts of this text ask it: cs's low bytes, coder 0 -/
theorem codOf {cs : List Int32} {n : Nat} (hn : cs.length = n) (hb : ∀ c ∈ cs, ¬ 255 < c) : CodA cs 0 (Int32.ofNat n) ((cs.map lo8).map Value.int) := Or.inl ⟨rfl, by rw [hn], by simp [List.map_map, Function.comp_def], hb⟩
end StrChars.Road
end Jvm.Pilot.@@N@@
namespace Jvm.Pilot.@@N@@
open Jvm Jvm.ClassFile Sem Op Lib Jvm.Free Jvm.Stand Jvm.LawKit Jvm.RoadKit Bundle Jvm.Pilot.@@N@@.Jvm.D
theorem own_up (cs : List Int32) (h : ∀ c ∈ cs, ¬ c < 0 ∧ ¬ (255 : Int32) < c) : ∀ c ∈ cs, ¬ c < 0 ∧ ¬ (65535 : Int32) < c := fun c hc => ⟨(h c hc).1, fun q => (h c hc).2 (by rw [Int32.lt_iff_toInt_lt] at q ⊢; have e1 : (65535 : Int32).toInt = 65535 := rfl; have e2 : (255 : Int32).toInt = 255 := rfl; omega)⟩
theorem own_hw_backV {Z : State} {a0 : Array Value} (hw : ∀ d ∈ tables_1, d.before a0 Z = true) : ∀ d ∈ StrChars.Road.words, d.before a0 Z = true := fun d hd => hw d ((by decide +kernel : ∀ d ∈ StrChars.Road.words, d ∈ tables_1) d hd)
theorem own_hw_lenW {Z : State} {a0 : Array Value} (hw : ∀ d ∈ tables_1, d.before a0 Z = true) : ∀ d ∈ StrChars.Road.wordsLen, d.before a0 Z = true := fun d hd => hw d ((by decide +kernel : ∀ d ∈ StrChars.Road.wordsLen, d ∈ tables_1) d hd)
theorem own_hw_empW {Z : State} {a0 : Array Value} (hw : ∀ d ∈ tables_1, d.before a0 Z = true) : ∀ d ∈ StrChars.Road.wordsEmp, d.before a0 Z = true := fun d hd => hw d ((by decide +kernel : ∀ d ∈ StrChars.Road.wordsEmp, d ∈ tables_1) d hd)
theorem own_hw_str {Z : State} {a0 : Array Value} (hw : ∀ d ∈ tables_1, d.before a0 Z = true) : ∀ d ∈ Bundle.stringAtoms, d.before a0 Z = true := fun d hd => hw d ((by decide +kernel : ∀ d ∈ Bundle.stringAtoms, d ∈ tables_1) d hd)
theorem own_clamp {j : Nat} (h : j < 2 ^ 31) : (Int32.ofNat j).toNatClampNeg = j := clamp_of rfl h
theorem own_toInt {j : Nat} (h : j < 2 ^ 31) : (Int32.ofNat j).toInt = (j : Int) := toInt_of rfl h
theorem own_inb {i n : Nat} (h : i < n) (hn : n < 2 ^ 31) : ¬ (Int32.ofNat i < (0 : Int32)) ∧ Int32.ofNat i < Int32.ofNat n := by
  rw [Int32.lt_iff_toInt_lt, Int32.lt_iff_toInt_lt, own_toInt (by omega), own_toInt hn]
  have e0 : (0 : Int32).toInt = 0 := rfl
  omega
theorem own_nlt {i n : Nat} (h : n ≤ i) (hi : i < 2 ^ 31) : ¬ (Int32.ofNat i < Int32.ofNat n) := by
  rw [Int32.lt_iff_toInt_lt, own_toInt hi, own_toInt (by omega)]
  omega
theorem own_oinj {i n : Nat} (hi : i < 2 ^ 31) (hn : n < 2 ^ 31) (h : Int32.ofNat i = Int32.ofNat n) : i = n := by
  have q := congrArg Int32.toInt h
  rw [own_toInt hi, own_toInt hn] at q
  omega
theorem own_shl1 (i : Nat) : Int32.ofNat i <<< ((1 : Int32) &&& 31) = Int32.ofNat (2 * i) := by
  rw [shlm (show (1 : Int32) <<< ((1 : Int32) &&& 31) = 2 by decide), Nat.mul_comm, Int32.ofNat_mul]
  rfl
theorem own_nc {c : Int32} (h0 : ¬ c < 0) (h1 : ¬ (65535 : Int32) < c) : c.toUInt32.toUInt16.toUInt32.toInt32 = c := by
  have q := c_i2c c
  rw [Int32.lt_iff_toInt_lt] at h0 h1
  have e0 : (0 : Int32).toInt = 0 := rfl
  have e1 : (65535 : Int32).toInt = 65535 := rfl
  apply Int32.toInt_inj.mp
  omega
theorem own_i2c (x : Int32) : ¬ (x.toUInt32.toUInt16.toUInt32.toInt32) < 0 ∧ ¬ (65535 : Int32) < (x.toUInt32.toUInt16.toUInt32.toInt32) := by
  have q := c_i2c x
  rw [Int32.lt_iff_toInt_lt, Int32.lt_iff_toInt_lt]
  have e0 : (0 : Int32).toInt = 0 := rfl
  have e1 : (65535 : Int32).toInt = 65535 := rfl
  omega
theorem own_mapat {cs : List Int32} {j : Nat} {d : Value} (hj : j < cs.length) (hN : cs.length < 2 ^ 31) : (cs.map Value.int).getD (Int32.ofNat j).toNatClampNeg d = .int (cs.getD j 0) := by
  rw [own_clamp (by omega)]
  simp [List.getD_eq_getElem?_getD, hj]
theorem own_widelen : ∀ cs : List Int32, (StrChars.Road.wideBytes cs).length = 2 * cs.length
  | [] => rfl
  | c :: cs => by simp only [StrChars.Road.wideBytes, List.length_cons, own_widelen cs]; omega
theorem own_wideapp : ∀ (cs : List Int32) (c : Int32), StrChars.Road.wideBytes (cs ++ [c]) = StrChars.Road.wideBytes cs ++ [.int (StrChars.lo8 c), .int (StrChars.hi8 c)]
  | [], _ => rfl
  | d :: cs, c => by simp only [List.cons_append, StrChars.Road.wideBytes, own_wideapp cs c]
theorem own_set2 {α : Type} (A : List α) (x y a b : α) (B : List α) : ((A ++ x :: y :: B).set A.length a).set (A.length + 1) b = A ++ a :: b :: B := by
  induction A with
  | nil => rfl
  | cons z A ih => simpa using ih
theorem own_widestep {ds : List Int32} {i n : Nat} (hn : ds.length = n) (hi : i < n) (z : Value) :
    ((StrChars.Road.wideBytes (ds.take i) ++ List.replicate (2 * (n - i)) z).set (2 * i) (.int (StrChars.lo8 (ds.getD i 0)))).set (2 * i + 1) (.int (StrChars.hi8 (ds.getD i 0))) = StrChars.Road.wideBytes (ds.take (i + 1)) ++ List.replicate (2 * (n - (i + 1))) z := by
  have hl : (StrChars.Road.wideBytes (ds.take i)).length = 2 * i := by rw [own_widelen, List.length_take]; omega
  have hr : List.replicate (2 * (n - i)) z = z :: z :: List.replicate (2 * (n - (i + 1))) z := by
    rw [show 2 * (n - i) = 2 * (n - (i + 1)) + 1 + 1 by omega, List.replicate_succ, List.replicate_succ]
  have ht : ds.take (i + 1) = ds.take i ++ [ds.getD i 0] := by
    rw [List.take_add_one]
    simp [List.getD_eq_getElem?_getD, show i < ds.length by omega]
  have q := own_set2 (StrChars.Road.wideBytes (ds.take i)) z z (.int (StrChars.lo8 (ds.getD i 0))) (.int (StrChars.hi8 (ds.getD i 0))) (List.replicate (2 * (n - (i + 1))) z)
  rw [hl] at q
  rw [hr, q, ht, own_wideapp, List.append_assoc]
  rfl
theorem own_first : ∀ cs : List Int32, (∃ c ∈ cs, (255 : Int32) < c) → ∃ r, r < cs.length ∧ (∀ q, q < r → ¬ (255 : Int32) < cs.getD (0 + q) 0) ∧ (255 : Int32) < cs.getD (0 + r) 0
  | [], h => by obtain ⟨c, hc, -⟩ := h; simp at hc
  | d :: cs, h => by
    by_cases hd : (255 : Int32) < d
    · exact ⟨0, by simp, fun q hq => absurd hq (Nat.not_lt_zero q), by simpa using hd⟩
    · obtain ⟨r, h1, h2, h3⟩ := own_first cs (by
        obtain ⟨c, hc, hw⟩ := h
        rcases List.mem_cons.mp hc with rfl | hc
        · exact absurd hw hd
        · exact ⟨c, hc, hw⟩)
      refine ⟨r + 1, by simpa using h1, fun q hq => ?_, by simpa using h3⟩
      cases q with
      | zero => simpa using hd
      | succ q => simpa using h2 q (by omega)
theorem own_coder1 {n : Nat} (h0 : 0 < n) (h : 2 * n < 2 ^ 31) : (((Int32.ofNat n - Int32.ofNat (2 * n)).toUInt32 >>> ((31 : Int32) &&& 31).toUInt32).toInt32).toInt8.toInt32 = (1 : Int32) := by
  have q : ((Int32.ofNat n - Int32.ofNat (2 * n)).toUInt32 >>> ((31 : Int32) &&& 31).toUInt32).toInt32 = (1 : Int32) := by
    apply Int32.toInt_inj.mp
    rw [c_iushr _ 31 31 (by decide) (by decide)]
    have e1 := own_toInt (j := n) (by omega)
    have e2 := own_toInt (j := 2 * n) h
    have e3 := c_isub (Int32.ofNat n) (Int32.ofNat (2 * n))
    have e4 := rng32 (Int32.ofNat n - Int32.ofNat (2 * n))
    have e5 : (1 : Int32).toInt = 1 := rfl
    rw [e5]
    show _ / (2147483648 : Int) = 1
    omega
  rw [q]
  rfl
theorem d_jdk_52_method_21_code_3 : decode jdk_52_method_21_code 3 = .ok (.iload 5, 2) := by decide +kernel
theorem d_jdk_52_method_21_code_5 : decode jdk_52_method_21_code 5 = .ok (.iload 4, 2) := by decide +kernel
theorem d_jdk_52_method_21_code_7 : decode jdk_52_method_21_code 7 = .ok (.if_icmp .ge 37, 3) := by decide +kernel
theorem d_jdk_52_method_21_code_10 : decode jdk_52_method_21_code 10 = .ok (.aload_n 0, 1) := by decide +kernel
theorem d_jdk_52_method_21_code_11 : decode jdk_52_method_21_code 11 = .ok (.iload_n 1, 1) := by decide +kernel
theorem d_jdk_52_method_21_code_12 : decode jdk_52_method_21_code 12 = .ok (.caload, 1) := by decide +kernel
theorem d_jdk_52_method_21_code_13 : decode jdk_52_method_21_code 13 = .ok (.istore 6, 2) := by decide +kernel
theorem d_jdk_52_method_21_code_15 : decode jdk_52_method_21_code 15 = .ok (.iload 6, 2) := by decide +kernel
theorem d_jdk_52_method_21_code_17 : decode jdk_52_method_21_code 17 = .ok (.sipush 255, 3) := by decide +kernel
theorem d_jdk_52_method_21_code_20 : decode jdk_52_method_21_code 20 = .ok (.if_icmp .le 6, 3) := by decide +kernel
theorem d_jdk_52_method_21_code_23 : decode jdk_52_method_21_code 23 = .ok (.iload 5, 2) := by decide +kernel
theorem d_jdk_52_method_21_code_26 : decode jdk_52_method_21_code 26 = .ok (.aload_n 2, 1) := by decide +kernel
theorem d_jdk_52_method_21_code_27 : decode jdk_52_method_21_code 27 = .ok (.iload_n 3, 1) := by decide +kernel
theorem d_jdk_52_method_21_code_28 : decode jdk_52_method_21_code 28 = .ok (.iload 6, 2) := by decide +kernel
theorem d_jdk_52_method_21_code_30 : decode jdk_52_method_21_code 30 = .ok (.i2b, 1) := by decide +kernel
theorem d_jdk_52_method_21_code_31 : decode jdk_52_method_21_code 31 = .ok (.bastore, 1) := by decide +kernel
theorem d_jdk_52_method_21_code_32 : decode jdk_52_method_21_code 32 = .ok (.iinc 1 1, 3) := by decide +kernel
theorem d_jdk_52_method_21_code_35 : decode jdk_52_method_21_code 35 = .ok (.iinc 3 1, 3) := by decide +kernel
theorem d_jdk_52_method_21_code_38 : decode jdk_52_method_21_code 38 = .ok (.iinc 5 1, 3) := by decide +kernel
theorem d_jdk_52_method_21_code_41 : decode jdk_52_method_21_code 41 = .ok (.goto (-38), 3) := by decide +kernel
set_option maxRecDepth 65536 in
set_option maxHeartbeats 40000000 in
theorem lp_cmp5 {p : Program} {l : Launch} {e : Env} {R : Room} {s : State} {m : MethodId} {args : Array Value} {below : List Frame} {meth : Method} {c : Code} {cells slots : Nat} {Z : State} {a0 : Array Value} {n0 : Nat} (ca : Addr) (kc : ClassId) (cs : List Int32) (dv : Value) (dd : Addr) (kd : ClassId) (n : Nat) (rr : Nat) (rj : Nat) (hx : p.tables.exec = Jvm.exec) (hZ : Z.Warmed39 s.vm) (hw : ∀ d ∈ tables_1, d.before a0 Z = true) (hby : c.code = jdk_52_method_21_code) (hml : c.maxLocals = 7) (hown : s.vm.findClass "java/lang/StringUTF16" = some m.cls) (hcl : cells ≤ R.cells) (hsl : slots ≤ R.slots) (hfr : 0 ≤ R.frames) (hlo : 0 ≤ R.locals) (hN : cs.length < 2 ^ 31) (hy1 : n0 ≤ dd) (hy2 : ca ≠ dd) (hn31 : n < 2 ^ 31) (hrn : rr < n) (hrj : rj < cs.length) (hwide : (255 : Int32) < cs.getD rj 0) :
    ∀ (k : Nat) (i : Nat) (j : Nat) (vs : List Value) (z6 : Slot) (T0 : State) (h0 : Heap) (locs : List Loc), Stand p l e R s m args below meth c T0 locs cells slots → T0.heap = h0 → Fr n0 locs → n0 ≤ h0.size → Arv Z h0 ca kc .char (Int32.ofNat cs.length) (cs.map Value.int) dv → Arv Z h0 dd kd .byte (Int32.ofNat n) vs (.int (0 : Int32)) → (One z6) → (vs.length = n) → (i + k = rr) → (j + k = rj) → (∀ q, q < k → ¬ (255 : Int32) < cs.getD (j + q) 0) → ∃ (T' : State) (h' : Heap) (locs' : List Loc), Stand p l e R s m args below meth c T' locs' cells slots ∧ T'.heap = h' ∧ Fr n0 locs' ∧ Keep h0 h' ([dd] : List Addr) ∧ ∀ t, Steps p.tables e below (T'.setTop (mkF m 25 #[.val (.ref ca), .val (.int (Int32.ofNat rj)), .val (.ref dd), .val (.int (Int32.ofNat rr)), .val (.int (Int32.ofNat n)), .val (.int (Int32.ofNat rr)), .val (.int (cs.getD rj 0))] [(.int (Int32.ofNat rr))])) t → Steps p.tables e below (T0.setTop (mkF m 3 #[.val (.ref ca), .val (.int (Int32.ofNat j)), .val (.ref dd), .val (.int (Int32.ofNat i)), .val (.int (Int32.ofNat n)), .val (.int (Int32.ofNat i)), z6] [])) t := by
  intro k
  induction k with
  | zero =>
    intro i j vs z6 T0 h0 locs X0 e0 N0 Z0 q0 q1 hz6 hvl hik hjk hlow
    have pre0 : ∀ t, Steps p.tables e below (T0.setTop (mkF m 3 #[.val (.ref ca), .val (.int (Int32.ofNat j)), .val (.ref dd), .val (.int (Int32.ofNat i)), .val (.int (Int32.ofNat n)), .val (.int (Int32.ofNat i)), z6] [])) t → Steps p.tables e below (T0.setTop (mkF m 3 #[.val (.ref ca), .val (.int (Int32.ofNat j)), .val (.ref dd), .val (.int (Int32.ofNat i)), .val (.int (Int32.ofNat n)), .val (.int (Int32.ofNat i)), z6] [])) t := fun _ kk => kk
    have hik' : i = rr := by omega
    have hjk' : j = rj := by omega
    have hwd : (255 : Int32) < cs.getD j 0 := by rw [hjk']; exact hwide
    obtain ⟨cl301, Ar301, qq301, S301, M301, Hh301, U301⟩ := id q0
    have ib301 : ¬ ((Int32.ofNat j) < 0 ∨ cl301.slots.size ≤ ((Int32.ofNat j)).toNatClampNeg) := inb_of S301 (own_inb (by omega) hN)
    have pre302 : ∀ t, Steps p.tables e below (T0.setTop (mkF m 25 #[.val (.ref ca), .val (.int (Int32.ofNat j)), .val (.ref dd), .val (.int (Int32.ofNat i)), .val (.int (Int32.ofNat n)), .val (.int (Int32.ofNat i)), .val (.int (cs.getD j 0))] [(.int (Int32.ofNat i))])) t → Steps p.tables e below (T0.setTop (mkF m 3 #[.val (.ref ca), .val (.int (Int32.ofNat j)), .val (.ref dd), .val (.int (Int32.ofNat i)), .val (.int (Int32.ofNat n)), .val (.int (Int32.ofNat i)), z6] [])) t := fun t kk => pre0 t (by
      refine XS.iload X0.here hx rfl (hb hby d_jdk_52_method_21_code_3) rfl ?_
      show Steps p.tables e below (T0.setTop (mkF m 5 #[.val (.ref ca), .val (.int (Int32.ofNat j)), .val (.ref dd), .val (.int (Int32.ofNat i)), .val (.int (Int32.ofNat n)), .val (.int (Int32.ofNat i)), z6] [(.int (Int32.ofNat i))])) _
      refine XS.iload X0.here hx rfl (hb hby d_jdk_52_method_21_code_5) rfl ?_
      show Steps p.tables e below (T0.setTop (mkF m 7 #[.val (.ref ca), .val (.int (Int32.ofNat j)), .val (.ref dd), .val (.int (Int32.ofNat i)), .val (.int (Int32.ofNat n)), .val (.int (Int32.ofNat i)), z6] [(.int (Int32.ofNat n)), (.int (Int32.ofNat i))])) _
      refine XS.icmpNo X0.here hx rfl (hb hby d_jdk_52_method_21_code_7) rfl (tlt ((own_inb (by omega) hn31).2 : (Int32.ofNat i) < (Int32.ofNat n))).2.1 ?_
      show Steps p.tables e below (T0.setTop (mkF m 10 #[.val (.ref ca), .val (.int (Int32.ofNat j)), .val (.ref dd), .val (.int (Int32.ofNat i)), .val (.int (Int32.ofNat n)), .val (.int (Int32.ofNat i)), z6] [])) _
      refine XS.aloadN X0.here hx rfl (hb hby d_jdk_52_method_21_code_10) rfl rfl ?_
      show Steps p.tables e below (T0.setTop (mkF m 11 #[.val (.ref ca), .val (.int (Int32.ofNat j)), .val (.ref dd), .val (.int (Int32.ofNat i)), .val (.int (Int32.ofNat n)), .val (.int (Int32.ofNat i)), z6] [(.ref ca)])) _
      refine XS.iloadN X0.here hx rfl (hb hby d_jdk_52_method_21_code_11) rfl ?_
      show Steps p.tables e below (T0.setTop (mkF m 12 #[.val (.ref ca), .val (.int (Int32.ofNat j)), .val (.ref dd), .val (.int (Int32.ofNat i)), .val (.int (Int32.ofNat n)), .val (.int (Int32.ofNat i)), z6] [(.int (Int32.ofNat j)), (.ref ca)])) _
      refine X0.caload hx (j := (Int32.ofNat j)) (v := (.int (cs.getD j 0))) (by rw [e0]; exact Ar301.1) (State.isArrayOf_alike hZ.alike Ar301.2.1) Ar301.2.2 ib301 (Hh301.at ib301 (own_mapat (by omega) hN)) (g := (mkF m 12 #[.val (.ref ca), .val (.int (Int32.ofNat j)), .val (.ref dd), .val (.int (Int32.ofNat i)), .val (.int (Int32.ofNat n)), .val (.int (Int32.ofNat i)), z6] [(.int (Int32.ofNat j)), (.ref ca)])) rfl rfl (hb hby d_jdk_52_method_21_code_12) _ ?_
      show Steps p.tables e below (T0.setTop (mkF m 13 #[.val (.ref ca), .val (.int (Int32.ofNat j)), .val (.ref dd), .val (.int (Int32.ofNat i)), .val (.int (Int32.ofNat n)), .val (.int (Int32.ofNat i)), z6] [(.int (cs.getD j 0))])) _
      refine XS.istoreS X0.here hx rfl (hb hby d_jdk_52_method_21_code_13) rfl rfl hz6 ?_
      show Steps p.tables e below (T0.setTop (mkF m 15 #[.val (.ref ca), .val (.int (Int32.ofNat j)), .val (.ref dd), .val (.int (Int32.ofNat i)), .val (.int (Int32.ofNat n)), .val (.int (Int32.ofNat i)), .val (.int (cs.getD j 0))] [])) _
      refine XS.iload X0.here hx rfl (hb hby d_jdk_52_method_21_code_15) rfl ?_
      show Steps p.tables e below (T0.setTop (mkF m 17 #[.val (.ref ca), .val (.int (Int32.ofNat j)), .val (.ref dd), .val (.int (Int32.ofNat i)), .val (.int (Int32.ofNat n)), .val (.int (Int32.ofNat i)), .val (.int (cs.getD j 0))] [(.int (cs.getD j 0))])) _
      refine XS.sipush X0.here hx rfl (hb hby d_jdk_52_method_21_code_17) ?_
      show Steps p.tables e below (T0.setTop (mkF m 20 #[.val (.ref ca), .val (.int (Int32.ofNat j)), .val (.ref dd), .val (.int (Int32.ofNat i)), .val (.int (Int32.ofNat n)), .val (.int (Int32.ofNat i)), .val (.int (cs.getD j 0))] [(.int (255 : Int32)), (.int (cs.getD j 0))])) _
      refine XS.icmpNo X0.here hx rfl (hb hby d_jdk_52_method_21_code_20) rfl (tlt (hwd : (255 : Int32) < (cs.getD j 0))).2.2.2 ?_
      show Steps p.tables e below (T0.setTop (mkF m 23 #[.val (.ref ca), .val (.int (Int32.ofNat j)), .val (.ref dd), .val (.int (Int32.ofNat i)), .val (.int (Int32.ofNat n)), .val (.int (Int32.ofNat i)), .val (.int (cs.getD j 0))] [])) _
      refine XS.iload X0.here hx rfl (hb hby d_jdk_52_method_21_code_23) rfl ?_
      show Steps p.tables e below (T0.setTop (mkF m 25 #[.val (.ref ca), .val (.int (Int32.ofNat j)), .val (.ref dd), .val (.int (Int32.ofNat i)), .val (.int (Int32.ofNat n)), .val (.int (Int32.ofNat i)), .val (.int (cs.getD j 0))] [(.int (Int32.ofNat i))])) _
      exact kk)
    exact ⟨T0, h0, _, X0, e0, N0, (Keep.refl h0 ([dd] : List Addr)), (by rw [← hik', ← hjk']; exact pre302)⟩
  | succ k ih =>
    intro i j vs z6 T0 h0 locs X0 e0 N0 Z0 q0 q1 hz6 hvl hik hjk hlow
    have pre0 : ∀ t, Steps p.tables e below (T0.setTop (mkF m 3 #[.val (.ref ca), .val (.int (Int32.ofNat j)), .val (.ref dd), .val (.int (Int32.ofNat i)), .val (.int (Int32.ofNat n)), .val (.int (Int32.ofNat i)), z6] [])) t → Steps p.tables e below (T0.setTop (mkF m 3 #[.val (.ref ca), .val (.int (Int32.ofNat j)), .val (.ref dd), .val (.int (Int32.ofNat i)), .val (.int (Int32.ofNat n)), .val (.int (Int32.ofNat i)), z6] [])) t := fun _ kk => kk
    have hlw : ¬ (255 : Int32) < cs.getD j 0 := by simpa using hlow 0 (by omega)
    obtain ⟨cl301, Ar301, qq301, S301, M301, Hh301, U301⟩ := id q0
    have ib301 : ¬ ((Int32.ofNat j) < 0 ∨ cl301.slots.size ≤ ((Int32.ofNat j)).toNatClampNeg) := inb_of S301 (own_inb (by omega) hN)
    obtain ⟨cl302, Ar302, qq302, S302, M302, Hh302, U302⟩ := id q1
    obtain ⟨T302, h302, X302, e302, W302, st302⟩ := stB X0 hx hZ e0 Ar302 (j := (Int32.ofNat i)) (inb_of S302 (own_inb (by omega) hn31)) (g := (mkF m 31 #[.val (.ref ca), .val (.int (Int32.ofNat j)), .val (.ref dd), .val (.int (Int32.ofNat i)), .val (.int (Int32.ofNat n)), .val (.int (Int32.ofNat i)), .val (.int (cs.getD j 0))] [(.int ((cs.getD j 0).toInt8.toInt32)), (.int (Int32.ofNat i)), (.ref dd)])) rfl rfl (hb hby d_jdk_52_method_21_code_31)
    have N302 := Fr.snoc X302 N0 hy1
    have V302 : Arv Z h302 dd kd .byte (Int32.ofNat n) (vs.set i (.int (nar .byte ((cs.getD j 0).toInt8.toInt32)))) (.int (0 : Int32)) := Arv.set Ar302 qq302 S302 M302 Hh302 U302 (fits_nar_byte _) W302 i (own_clamp (by omega)) (by omega)
    have pre303 : ∀ t, Steps p.tables e below (T302.setTop (mkF m 3 #[.val (.ref ca), .val (.int ((Int32.ofNat j) + (1 : Int32))), .val (.ref dd), .val (.int ((Int32.ofNat i) + (1 : Int32))), .val (.int (Int32.ofNat n)), .val (.int ((Int32.ofNat i) + (1 : Int32))), .val (.int (cs.getD j 0))] [])) t → Steps p.tables e below (T0.setTop (mkF m 3 #[.val (.ref ca), .val (.int (Int32.ofNat j)), .val (.ref dd), .val (.int (Int32.ofNat i)), .val (.int (Int32.ofNat n)), .val (.int (Int32.ofNat i)), z6] [])) t := fun t kk => pre0 t (by
      refine XS.iload X0.here hx rfl (hb hby d_jdk_52_method_21_code_3) rfl ?_
      show Steps p.tables e below (T0.setTop (mkF m 5 #[.val (.ref ca), .val (.int (Int32.ofNat j)), .val (.ref dd), .val (.int (Int32.ofNat i)), .val (.int (Int32.ofNat n)), .val (.int (Int32.ofNat i)), z6] [(.int (Int32.ofNat i))])) _
      refine XS.iload X0.here hx rfl (hb hby d_jdk_52_method_21_code_5) rfl ?_
      show Steps p.tables e below (T0.setTop (mkF m 7 #[.val (.ref ca), .val (.int (Int32.ofNat j)), .val (.ref dd), .val (.int (Int32.ofNat i)), .val (.int (Int32.ofNat n)), .val (.int (Int32.ofNat i)), z6] [(.int (Int32.ofNat n)), (.int (Int32.ofNat i))])) _
      refine XS.icmpNo X0.here hx rfl (hb hby d_jdk_52_method_21_code_7) rfl (tlt ((own_inb (by omega) hn31).2 : (Int32.ofNat i) < (Int32.ofNat n))).2.1 ?_
      show Steps p.tables e below (T0.setTop (mkF m 10 #[.val (.ref ca), .val (.int (Int32.ofNat j)), .val (.ref dd), .val (.int (Int32.ofNat i)), .val (.int (Int32.ofNat n)), .val (.int (Int32.ofNat i)), z6] [])) _
      refine XS.aloadN X0.here hx rfl (hb hby d_jdk_52_method_21_code_10) rfl rfl ?_
      show Steps p.tables e below (T0.setTop (mkF m 11 #[.val (.ref ca), .val (.int (Int32.ofNat j)), .val (.ref dd), .val (.int (Int32.ofNat i)), .val (.int (Int32.ofNat n)), .val (.int (Int32.ofNat i)), z6] [(.ref ca)])) _
      refine XS.iloadN X0.here hx rfl (hb hby d_jdk_52_method_21_code_11) rfl ?_
      show Steps p.tables e below (T0.setTop (mkF m 12 #[.val (.ref ca), .val (.int (Int32.ofNat j)), .val (.ref dd), .val (.int (Int32.ofNat i)), .val (.int (Int32.ofNat n)), .val (.int (Int32.ofNat i)), z6] [(.int (Int32.ofNat j)), (.ref ca)])) _
      refine X0.caload hx (j := (Int32.ofNat j)) (v := (.int (cs.getD j 0))) (by rw [e0]; exact Ar301.1) (State.isArrayOf_alike hZ.alike Ar301.2.1) Ar301.2.2 ib301 (Hh301.at ib301 (own_mapat (by omega) hN)) (g := (mkF m 12 #[.val (.ref ca), .val (.int (Int32.ofNat j)), .val (.ref dd), .val (.int (Int32.ofNat i)), .val (.int (Int32.ofNat n)), .val (.int (Int32.ofNat i)), z6] [(.int (Int32.ofNat j)), (.ref ca)])) rfl rfl (hb hby d_jdk_52_method_21_code_12) _ ?_
      show Steps p.tables e below (T0.setTop (mkF m 13 #[.val (.ref ca), .val (.int (Int32.ofNat j)), .val (.ref dd), .val (.int (Int32.ofNat i)), .val (.int (Int32.ofNat n)), .val (.int (Int32.ofNat i)), z6] [(.int (cs.getD j 0))])) _
      refine XS.istoreS X0.here hx rfl (hb hby d_jdk_52_method_21_code_13) rfl rfl hz6 ?_
      show Steps p.tables e below (T0.setTop (mkF m 15 #[.val (.ref ca), .val (.int (Int32.ofNat j)), .val (.ref dd), .val (.int (Int32.ofNat i)), .val (.int (Int32.ofNat n)), .val (.int (Int32.ofNat i)), .val (.int (cs.getD j 0))] [])) _
      refine XS.iload X0.here hx rfl (hb hby d_jdk_52_method_21_code_15) rfl ?_
      show Steps p.tables e below (T0.setTop (mkF m 17 #[.val (.ref ca), .val (.int (Int32.ofNat j)), .val (.ref dd), .val (.int (Int32.ofNat i)), .val (.int (Int32.ofNat n)), .val (.int (Int32.ofNat i)), .val (.int (cs.getD j 0))] [(.int (cs.getD j 0))])) _
      refine XS.sipush X0.here hx rfl (hb hby d_jdk_52_method_21_code_17) ?_
      show Steps p.tables e below (T0.setTop (mkF m 20 #[.val (.ref ca), .val (.int (Int32.ofNat j)), .val (.ref dd), .val (.int (Int32.ofNat i)), .val (.int (Int32.ofNat n)), .val (.int (Int32.ofNat i)), .val (.int (cs.getD j 0))] [(.int (255 : Int32)), (.int (cs.getD j 0))])) _
      refine XS.icmpYes X0.here hx rfl (pc0 := 20) (pc' := 26) rfl (hb hby d_jdk_52_method_21_code_20) rfl (flt (hlw : ¬ ((255 : Int32) < (cs.getD j 0)))).2.2.2 (by decide) (by decide) ?_
      show Steps p.tables e below (T0.setTop (mkF m 26 #[.val (.ref ca), .val (.int (Int32.ofNat j)), .val (.ref dd), .val (.int (Int32.ofNat i)), .val (.int (Int32.ofNat n)), .val (.int (Int32.ofNat i)), .val (.int (cs.getD j 0))] [])) _
      refine XS.aloadN X0.here hx rfl (hb hby d_jdk_52_method_21_code_26) rfl rfl ?_
      show Steps p.tables e below (T0.setTop (mkF m 27 #[.val (.ref ca), .val (.int (Int32.ofNat j)), .val (.ref dd), .val (.int (Int32.ofNat i)), .val (.int (Int32.ofNat n)), .val (.int (Int32.ofNat i)), .val (.int (cs.getD j 0))] [(.ref dd)])) _
      refine XS.iloadN X0.here hx rfl (hb hby d_jdk_52_method_21_code_27) rfl ?_
      show Steps p.tables e below (T0.setTop (mkF m 28 #[.val (.ref ca), .val (.int (Int32.ofNat j)), .val (.ref dd), .val (.int (Int32.ofNat i)), .val (.int (Int32.ofNat n)), .val (.int (Int32.ofNat i)), .val (.int (cs.getD j 0))] [(.int (Int32.ofNat i)), (.ref dd)])) _
      refine XS.iload X0.here hx rfl (hb hby d_jdk_52_method_21_code_28) rfl ?_
      show Steps p.tables e below (T0.setTop (mkF m 30 #[.val (.ref ca), .val (.int (Int32.ofNat j)), .val (.ref dd), .val (.int (Int32.ofNat i)), .val (.int (Int32.ofNat n)), .val (.int (Int32.ofNat i)), .val (.int (cs.getD j 0))] [(.int (cs.getD j 0)), (.int (Int32.ofNat i)), (.ref dd)])) _
      refine XS.i2b X0.here hx rfl (hb hby d_jdk_52_method_21_code_30) rfl ?_
      show Steps p.tables e below (T0.setTop (mkF m 31 #[.val (.ref ca), .val (.int (Int32.ofNat j)), .val (.ref dd), .val (.int (Int32.ofNat i)), .val (.int (Int32.ofNat n)), .val (.int (Int32.ofNat i)), .val (.int (cs.getD j 0))] [(.int ((cs.getD j 0).toInt8.toInt32)), (.int (Int32.ofNat i)), (.ref dd)])) _
      refine st302 _ ?_
      show Steps p.tables e below (T302.setTop (mkF m 32 #[.val (.ref ca), .val (.int (Int32.ofNat j)), .val (.ref dd), .val (.int (Int32.ofNat i)), .val (.int (Int32.ofNat n)), .val (.int (Int32.ofNat i)), .val (.int (cs.getD j 0))] [])) _
      refine XS.iinc X302.here hx rfl (hb hby d_jdk_52_method_21_code_32) rfl (l' := #[.val (.ref ca), .val (.int ((Int32.ofNat j) + (1 : Int32))), .val (.ref dd), .val (.int (Int32.ofNat i)), .val (.int (Int32.ofNat n)), .val (.int (Int32.ofNat i)), .val (.int (cs.getD j 0))]) rfl ?_
      show Steps p.tables e below (T302.setTop (mkF m 35 #[.val (.ref ca), .val (.int ((Int32.ofNat j) + (1 : Int32))), .val (.ref dd), .val (.int (Int32.ofNat i)), .val (.int (Int32.ofNat n)), .val (.int (Int32.ofNat i)), .val (.int (cs.getD j 0))] [])) _
      refine XS.iinc X302.here hx rfl (hb hby d_jdk_52_method_21_code_35) rfl (l' := #[.val (.ref ca), .val (.int ((Int32.ofNat j) + (1 : Int32))), .val (.ref dd), .val (.int ((Int32.ofNat i) + (1 : Int32))), .val (.int (Int32.ofNat n)), .val (.int (Int32.ofNat i)), .val (.int (cs.getD j 0))]) rfl ?_
      show Steps p.tables e below (T302.setTop (mkF m 38 #[.val (.ref ca), .val (.int ((Int32.ofNat j) + (1 : Int32))), .val (.ref dd), .val (.int ((Int32.ofNat i) + (1 : Int32))), .val (.int (Int32.ofNat n)), .val (.int (Int32.ofNat i)), .val (.int (cs.getD j 0))] [])) _
      refine XS.iinc X302.here hx rfl (hb hby d_jdk_52_method_21_code_38) rfl (l' := #[.val (.ref ca), .val (.int ((Int32.ofNat j) + (1 : Int32))), .val (.ref dd), .val (.int ((Int32.ofNat i) + (1 : Int32))), .val (.int (Int32.ofNat n)), .val (.int ((Int32.ofNat i) + (1 : Int32))), .val (.int (cs.getD j 0))]) rfl ?_
      show Steps p.tables e below (T302.setTop (mkF m 41 #[.val (.ref ca), .val (.int ((Int32.ofNat j) + (1 : Int32))), .val (.ref dd), .val (.int ((Int32.ofNat i) + (1 : Int32))), .val (.int (Int32.ofNat n)), .val (.int ((Int32.ofNat i) + (1 : Int32))), .val (.int (cs.getD j 0))] [])) _
      refine XS.goto X302.here hx rfl (pc0 := 41) (pc' := 3) rfl (hb hby d_jdk_52_method_21_code_41) (by decide) (by decide) ?_
      show Steps p.tables e below (T302.setTop (mkF m 3 #[.val (.ref ca), .val (.int ((Int32.ofNat j) + (1 : Int32))), .val (.ref dd), .val (.int ((Int32.ofNat i) + (1 : Int32))), .val (.int (Int32.ofNat n)), .val (.int ((Int32.ofNat i) + (1 : Int32))), .val (.int (cs.getD j 0))] [])) _
      exact kk)
    have c304 : Arv Z h302 ca kc .char (Int32.ofNat cs.length) (cs.map Value.int) dv := (q0.other W302 hy2)
    have preH : ∀ t, Steps p.tables e below (T302.setTop (mkF m 3 #[.val (.ref ca), .val (.int (Int32.ofNat (j + 1))), .val (.ref dd), .val (.int (Int32.ofNat (i + 1))), .val (.int (Int32.ofNat n)), .val (.int (Int32.ofNat (i + 1))), (Slot.val (.int (cs.getD j 0)))] [])) t → Steps p.tables e below (T0.setTop (mkF m 3 #[.val (.ref ca), .val (.int (Int32.ofNat j)), .val (.ref dd), .val (.int (Int32.ofNat i)), .val (.int (Int32.ofNat n)), .val (.int (Int32.ofNat i)), z6] [])) t := by
      rw [inc_ofNat i, inc_ofNat j]
      exact pre303
    obtain ⟨T9, h9, lo9, X9, e9, N9, K9, pre9⟩ := ih ((i + 1)) ((j + 1)) ((vs.set i (.int (nar .byte ((cs.getD j 0).toInt8.toInt32))))) ((Slot.val (.int (cs.getD j 0)))) T302 h302 _ X302 e302 N302 (Nat.le_trans Z0 (Keep.of_wr W302).1) c304 V302 (One.val rfl) (by simpa using hvl) (by omega) (by omega) (fun q hq => by have z := hlow (q + 1) (by omega); rwa [show j + (q + 1) = j + 1 + q by omega] at z)
    exact ⟨T9, h9, _, X9, e9, N9, (((Keep.refl h0 ([dd] : List Addr)).wr W302 (Or.inl (by simp))).trans K9 (allS (Or.inl (by simp)) all0)), fun t kk => preH t (pre9 t kk)⟩
theorem d_jdk_52_method_21_code_0 : decode jdk_52_method_21_code 0 = .ok (.iconst 0, 1) := by decide +kernel
theorem d_jdk_52_method_21_code_1 : decode jdk_52_method_21_code 1 = .ok (.istore 5, 2) := by decide +kernel
theorem d_jdk_52_method_21_code_25 : decode jdk_52_method_21_code 25 = .ok (.ireturn, 1) := by decide +kernel
theorem ef_0 (m : MethodId) (x0 : Addr) (x1 : Int32) (x2 : Addr) (x3 : Int32) (x4 : Int32) : entryFrame m #[(.ref x0), (.int x1), (.ref x2), (.int x3), (.int x4)] 7 = mkF m 0 #[.val (.ref x0), .val (.int x1), .val (.ref x2), .val (.int x3), .val (.int x4), .unset, .unset] [] := by first | (simp [entryFrame, mkF, argsToLocals, Value.category]; done) | rfl
theorem pn_0 : plainName "java/lang/StringUTF16" = true := by first | (simp [plainName, overriddenIn]; done) | decide +kernel
def Q_cmp5w (Z : State) (ca : Addr) (kc : ClassId) (cs : List Int32) (dv : Value) (dd : Addr) (kd : ClassId) (o : Nat) (n : Nat) (rr : Nat) (vs : List Value) (h0 : Heap) (n0 : Nat) (v : Option Value) (h : Heap) (L : List Loc) : Prop := (v = some (.int (Int32.ofNat rr))) ∧ (Fr n0 L) ∧ (Keep h0 h ([dd] : List Addr))
set_option maxRecDepth 65536 in
set_option maxHeartbeats 40000000 in
theorem rm_cmp5w (l : Launch) (Z : State) (a0 : Array Value) (hw : ∀ d ∈ tables_1, d.before a0 Z = true) (ws : List Jvm.Cond) (ca : Addr) (kc : ClassId) (cs : List Int32) (dv : Value) (dd : Addr) (kd : ClassId) (o : Nat) (n : Nat) (rr : Nat) (vs : List Value) (h0 : Heap) (n0 : Nat) (Z0 : n0 ≤ h0.size) (q0 : Arv Z h0 ca kc .char (Int32.ofNat cs.length) (cs.map Value.int) dv) (hN : cs.length < 2 ^ 31) (q2 : Arv Z h0 dd kd .byte (Int32.ofNat n) vs (.int (0 : Int32))) (q3 : n0 ≤ dd) (q4 : ca ≠ dd) (hvl : vs.length = n) (hon : o + n ≤ cs.length) (hrn : rr < n) (hlow : ∀ q, q < rr → ¬ (255 : Int32) < cs.getD (o + q) 0) (hwide : (255 : Int32) < cs.getD (o + rr) 0) :
    MetFree l (⟨"java/lang/StringUTF16", "compress", "([CI[BII)I"⟩ : MethodName) (head1 (Jvm.Cond.code (⟨"java/lang/StringUTF16", "compress", "([CI[BII)I"⟩ : MethodName) jdk_52_method_21_code 7 (some .int) :: ws) ({ frames := 0, cells := 0, slots := 0, locals := 0 } : Room)) (fun a₁ U₁ => a₁ = #[(.ref ca), (.int (Int32.ofNat o)), (.ref dd), (.int (0 : Int32)), (.int (Int32.ofNat n))] ∧ Z.Warmed39 U₁.vm ∧ U₁.heap = h0) (fun _ _ _ _ _ => True) (fun _ U₁ o₁ U₂ => ∃ v₁ L₁, o₁ = .returned v₁ ∧ Q_cmp5w Z ca kc cs dv dd kd o n rr vs h0 n0 v₁ U₂.heap L₁ ∧ FrameEnd U₁ o₁ U₂ L₁ ({ frames := 0, cells := 0, slots := 0, locals := 0 } : Room).cells ({ frames := 0, cells := 0, slots := 0, locals := 0 } : Room).slots) := by
  refine MetFree.of_bodySF (plainFor_of_name pn_0) hisR ?_
  intro p e s m args below meth c s₁ Bd hml0 hP hK
  obtain ⟨rfl, hZ, hh⟩ := hP
  have hx := Bd.exec
  have hby := Bd.bytes
  have hml : c.maxLocals = 7 := hml0
  have hown : s.vm.findClass "java/lang/StringUTF16" = some m.cls := findClass_of_methodNamed Bd.named
  have hnm := (name_of_methodNamed Bd.named Bd.method).1
  have X0 : Stand p l e ({ frames := 0, cells := 0, slots := 0, locals := 0 } : Room) s m #[(.ref ca), (.int (Int32.ofNat o)), (.ref dd), (.int (0 : Int32)), (.int (Int32.ofNat n))] below meth c s₁ [] 0 0 := Stand.of_body Bd
  have e0 : s₁.heap = h0 := by rw [← hh, Bd.state]; rfl
  have N0 := Fr.nil n0
  have pre0 : ∀ t, Steps p.tables e below (s₁.setTop (mkF m 0 #[.val (.ref ca), .val (.int (Int32.ofNat o)), .val (.ref dd), .val (.int (0 : Int32)), .val (.int (Int32.ofNat n)), .unset, .unset] [])) t → Steps p.tables e below (s₁.setTop (entryFrame m #[(.ref ca), (.int (Int32.ofNat o)), (.ref dd), (.int (0 : Int32)), (.int (Int32.ofNat n))] 7)) t := fun t k => castTop (ef_0 m ca (Int32.ofNat o) dd (0 : Int32) (Int32.ofNat n)) k
  have pre301 : ∀ t, Steps p.tables e below (s₁.setTop (mkF m 3 #[.val (.ref ca), .val (.int (Int32.ofNat o)), .val (.ref dd), .val (.int (0 : Int32)), .val (.int (Int32.ofNat n)), .val (.int (0 : Int32)), .unset] [])) t → Steps p.tables e below (s₁.setTop (entryFrame m #[(.ref ca), (.int (Int32.ofNat o)), (.ref dd), (.int (0 : Int32)), (.int (Int32.ofNat n))] 7)) t := fun t kk => pre0 t (by
    refine XS.iconst X0.here hx rfl (hb hby d_jdk_52_method_21_code_0) ?_
    show Steps p.tables e below (s₁.setTop (mkF m 1 #[.val (.ref ca), .val (.int (Int32.ofNat o)), .val (.ref dd), .val (.int (0 : Int32)), .val (.int (Int32.ofNat n)), .unset, .unset] [(.int (0 : Int32))])) _
    refine XS.istore X0.here hx rfl (hb hby d_jdk_52_method_21_code_1) rfl (l' := #[.val (.ref ca), .val (.int (Int32.ofNat o)), .val (.ref dd), .val (.int (0 : Int32)), .val (.int (Int32.ofNat n)), .val (.int (0 : Int32)), .unset]) rfl ?_
    show Steps p.tables e below (s₁.setTop (mkF m 3 #[.val (.ref ca), .val (.int (Int32.ofNat o)), .val (.ref dd), .val (.int (0 : Int32)), .val (.int (Int32.ofNat n)), .val (.int (0 : Int32)), .unset] [])) _
    exact kk)
  have preh302 : ∀ t, Steps p.tables e below (s₁.setTop (mkF m 3 #[.val (.ref ca), .val (.int (Int32.ofNat o)), .val (.ref dd), .val (.int (Int32.ofNat 0)), .val (.int (Int32.ofNat n)), .val (.int (Int32.ofNat 0)), Slot.unset] [])) t → Steps p.tables e below (s₁.setTop (entryFrame m #[(.ref ca), (.int (Int32.ofNat o)), (.ref dd), (.int (0 : Int32)), (.int (Int32.ofNat n))] 7)) t := by
    exact pre301
  obtain ⟨T302, h302, lo302, X302, e302, N302, K302, st302⟩ := lp_cmp5 (ca) (kc) (cs) (dv) (dd) (kd) (n) (rr) ((o + rr)) hx hZ hw hby hml hown (by decide : 0 ≤ _) (by decide : 0 ≤ _) (by decide) (by decide) hN q3 q4 (by omega) hrn (by omega) hwide rr (0) (o) (vs) (Slot.unset) s₁ h0 _ X0 e0 N0 Z0 q0 q2 (One.u) hvl (by omega) (rfl) (by first | assumption | decide)
  obtain ⟨fs, hr, hrun, hended, hW, hsame⟩ := X302.leave (v := some (.int (Int32.ofNat rr))) (fun h => by rw [Bd.returns] at h; cases h)
  refine ⟨_, _, preh302 _ ?_, hrun, hended, _, _, rfl, ?_, ⟨_, rfl⟩, hW, hsame.mono (by decide) (by decide)⟩
  · refine st302 _ ?_
    show Steps p.tables e below (T302.setTop (mkF m 25 #[.val (.ref ca), .val (.int (Int32.ofNat (o + rr))), .val (.ref dd), .val (.int (Int32.ofNat rr)), .val (.int (Int32.ofNat n)), .val (.int (Int32.ofNat rr)), .val (.int (cs.getD (o + rr) 0))] [(.int (Int32.ofNat rr))])) _
    exact retI X302 hx Bd.returns (hb hby d_jdk_52_method_21_code_25) hr
  · show Q_cmp5w Z ca kc cs dv dd kd o n rr vs h0 n0 _ T302.heap _
    rw [e302]
    exact ⟨rfl, N302, ((Keep.refl h0 ([dd] : List Addr)).trans K302 (allS (Or.inl (by simp)) all0))⟩
theorem own_nb (x : Int32) : nar .byte (x.toInt8.toInt32) = x.toInt8.toInt32 := by
  show (x.toInt8.toInt32).toInt8.toInt32 = x.toInt8.toInt32
  rw [Int8.toInt8_toInt32]
theorem d_jdk_52_method_4_code_0 : decode jdk_52_method_4_code 0 = .ok (.getstatic 44, 3) := by decide +kernel
theorem d_jdk_52_method_4_code_3 : decode jdk_52_method_4_code 3 = .ok (.ifCond .ne 25, 3) := by decide +kernel
theorem d_jdk_52_method_4_code_28 : decode jdk_52_method_4_code 28 = .ok (.iload_n 1, 1) := by decide +kernel
theorem d_jdk_52_method_4_code_29 : decode jdk_52_method_4_code 29 = .ok (.iconst 1, 1) := by decide +kernel
theorem d_jdk_52_method_4_code_30 : decode jdk_52_method_4_code 30 = .ok (.ishl, 1) := by decide +kernel
theorem d_jdk_52_method_4_code_31 : decode jdk_52_method_4_code 31 = .ok (.istore_n 1, 1) := by decide +kernel
theorem d_jdk_52_method_4_code_32 : decode jdk_52_method_4_code 32 = .ok (.aload_n 0, 1) := by decide +kernel
theorem d_jdk_52_method_4_code_33 : decode jdk_52_method_4_code 33 = .ok (.iload_n 1, 1) := by decide +kernel
theorem d_jdk_52_method_4_code_34 : decode jdk_52_method_4_code 34 = .ok (.iinc 1 1, 3) := by decide +kernel
theorem d_jdk_52_method_4_code_37 : decode jdk_52_method_4_code 37 = .ok (.iload_n 2, 1) := by decide +kernel
theorem d_jdk_52_method_4_code_38 : decode jdk_52_method_4_code 38 = .ok (.getstatic 59, 3) := by decide +kernel
theorem d_jdk_52_method_4_code_41 : decode jdk_52_method_4_code 41 = .ok (.ishr, 1) := by decide +kernel
theorem d_jdk_52_method_4_code_42 : decode jdk_52_method_4_code 42 = .ok (.i2b, 1) := by decide +kernel
theorem d_jdk_52_method_4_code_43 : decode jdk_52_method_4_code 43 = .ok (.bastore, 1) := by decide +kernel
theorem d_jdk_52_method_4_code_44 : decode jdk_52_method_4_code 44 = .ok (.aload_n 0, 1) := by decide +kernel
theorem d_jdk_52_method_4_code_45 : decode jdk_52_method_4_code 45 = .ok (.iload_n 1, 1) := by decide +kernel
theorem d_jdk_52_method_4_code_46 : decode jdk_52_method_4_code 46 = .ok (.iload_n 2, 1) := by decide +kernel
theorem d_jdk_52_method_4_code_47 : decode jdk_52_method_4_code 47 = .ok (.getstatic 63, 3) := by decide +kernel
theorem d_jdk_52_method_4_code_50 : decode jdk_52_method_4_code 50 = .ok (.ishr, 1) := by decide +kernel
theorem d_jdk_52_method_4_code_51 : decode jdk_52_method_4_code 51 = .ok (.i2b, 1) := by decide +kernel
theorem d_jdk_52_method_4_code_52 : decode jdk_52_method_4_code 52 = .ok (.bastore, 1) := by decide +kernel
theorem d_jdk_52_method_4_code_53 : decode jdk_52_method_4_code 53 = .ok (.return_, 1) := by decide +kernel
theorem ef_1 (m : MethodId) (x0 : Addr) (x1 : Int32) (x2 : Int32) : entryFrame m #[(.ref x0), (.int x1), (.int x2)] 3 = mkF m 0 #[.val (.ref x0), .val (.int x1), .val (.int x2)] [] := by first | (simp [entryFrame, mkF, argsToLocals, Value.category]; done) | rfl
def Q_putCh (Z : State) (dd : Addr) (ii : Nat) (xc : Int32) (kd : ClassId) (n2 : Nat) (vs : List Value) (h0 : Heap) (n0 : Nat) (v : Option Value) (h : Heap) (L : List Loc) : Prop := (v = none) ∧ (Fr n0 L) ∧ (Keep h0 h ([dd] : List Addr)) ∧ (Arv Z h dd kd .byte (Int32.ofNat n2) ((vs.set (2 * ii) (.int (StrChars.lo8 xc))).set (2 * ii + 1) (.int (StrChars.hi8 xc))) (.int (0 : Int32)))
set_option maxRecDepth 65536 in
set_option maxHeartbeats 40000000 in
theorem rm_putCh (l : Launch) (Z : State) (a0 : Array Value) (hw : ∀ d ∈ tables_1, d.before a0 Z = true) (ws : List Jvm.Cond) (dd : Addr) (ii : Nat) (xc : Int32) (kd : ClassId) (n2 : Nat) (vs : List Value) (h0 : Heap) (n0 : Nat) (Z0 : n0 ≤ h0.size) (q0 : Sta Z Z.heap "java/lang/StringUTF16" "$assertionsDisabled" "Z" (.int (1 : Int32))) (q1 : Sta Z Z.heap "java/lang/StringUTF16" "HI_BYTE_SHIFT" "I" (.int (0 : Int32))) (q2 : Sta Z Z.heap "java/lang/StringUTF16" "LO_BYTE_SHIFT" "I" (.int (8 : Int32))) (q3 : Old Z n0 h0) (q4 : Arv Z h0 dd kd .byte (Int32.ofNat n2) vs (.int (0 : Int32))) (q5 : n0 ≤ dd) (hi2 : 2 * ii + 1 < n2) (hn2 : n2 < 2 ^ 31) (hvl : vs.length = n2) :
    MetFree l (⟨"java/lang/StringUTF16", "putChar", "([BII)V"⟩ : MethodName) (head1 (Jvm.Cond.code (⟨"java/lang/StringUTF16", "putChar", "([BII)V"⟩ : MethodName) jdk_52_method_4_code 3 none :: ws) ({ frames := 0, cells := 0, slots := 0, locals := 0 } : Room)) (fun a₁ U₁ => a₁ = #[(.ref dd), (.int (Int32.ofNat ii)), (.int xc)] ∧ Z.Warmed39 U₁.vm ∧ U₁.heap = h0) (fun _ _ _ _ _ => True) (fun _ U₁ o₁ U₂ => ∃ v₁ L₁, o₁ = .returned v₁ ∧ Q_putCh Z dd ii xc kd n2 vs h0 n0 v₁ U₂.heap L₁ ∧ FrameEnd U₁ o₁ U₂ L₁ ({ frames := 0, cells := 0, slots := 0, locals := 0 } : Room).cells ({ frames := 0, cells := 0, slots := 0, locals := 0 } : Room).slots) := by
  refine MetFree.of_bodySF (plainFor_of_name pn_0) hisR ?_
  intro p e s m args below meth c s₁ Bd hml0 hP hK
  obtain ⟨rfl, hZ, hh⟩ := hP
  have hx := Bd.exec
  have hby := Bd.bytes
  have hml : c.maxLocals = 3 := hml0
  have hown : s.vm.findClass "java/lang/StringUTF16" = some m.cls := findClass_of_methodNamed Bd.named
  have hnm := (name_of_methodNamed Bd.named Bd.method).1
  have X0 : Stand p l e ({ frames := 0, cells := 0, slots := 0, locals := 0 } : Room) s m #[(.ref dd), (.int (Int32.ofNat ii)), (.int xc)] below meth c s₁ [] 0 0 := Stand.of_body Bd
  have e0 : s₁.heap = h0 := by rw [← hh, Bd.state]; rfl
  have N0 := Fr.nil n0
  have pre0 : ∀ t, Steps p.tables e below (s₁.setTop (mkF m 0 #[.val (.ref dd), .val (.int (Int32.ofNat ii)), .val (.int xc)] [])) t → Steps p.tables e below (s₁.setTop (entryFrame m #[(.ref dd), (.int (Int32.ofNat ii)), (.int xc)] 3)) t := fun t k => castTop (ef_1 m dd (Int32.ofNat ii) xc) k
  obtain ⟨T301, X301, e301, st301⟩ := getS2 X0 hx hZ hown (host := "") (Or.inl (hw _ (List.mem_of_getElem? (i := 78) rfl))) Via.refl e0 (q0.ext q3.2) (g := (mkF m 0 #[.val (.ref dd), .val (.int (Int32.ofNat ii)), .val (.int xc)] [])) rfl (hb hby d_jdk_52_method_4_code_0)
  obtain ⟨T302, X302, e302, st302⟩ := getS2 X301 hx hZ hown (host := "") (Or.inl (hw _ (List.mem_of_getElem? (i := 79) rfl))) Via.refl e301 (q1.ext q3.2) (g := (mkF m 38 #[.val (.ref dd), .val (.int (Int32.ofNat (2 * ii + 1))), .val (.int xc)] [(.int xc), (.int (Int32.ofNat (2 * ii))), (.ref dd)])) rfl (hb hby d_jdk_52_method_4_code_38)
  obtain ⟨cl303, Ar303, qq303, S303, M303, Hh303, U303⟩ := id q4
  obtain ⟨T303, h303, X303, e303, W303, st303⟩ := stB X302 hx hZ e302 Ar303 (j := (Int32.ofNat (2 * ii))) (inb_of S303 (own_inb (by omega) hn2)) (g := (mkF m 43 #[.val (.ref dd), .val (.int (Int32.ofNat (2 * ii + 1))), .val (.int xc)] [(.int ((xc >>> ((0 : Int32) &&& 31)).toInt8.toInt32)), (.int (Int32.ofNat (2 * ii))), (.ref dd)])) rfl rfl (hb hby d_jdk_52_method_4_code_43)
  have N303 := Fr.snoc X303 N0 q5
  have V303 : Arv Z h303 dd kd .byte (Int32.ofNat n2) (vs.set (2 * ii) (.int (nar .byte ((xc >>> ((0 : Int32) &&& 31)).toInt8.toInt32)))) (.int (0 : Int32)) := Arv.set Ar303 qq303 S303 M303 Hh303 U303 (fits_nar_byte _) W303 (2 * ii) (own_clamp (by omega)) (by omega)
  have R304 : Arv Z h303 dd kd .byte (Int32.ofNat n2) (vs.set (2 * ii) (.int (StrChars.lo8 xc))) (.int (0 : Int32)) := by have q := V303; rw [own_nb, StrChars.shr0] at q; exact q
  have c306 : Old Z n0 h303 := (q3.wr W303 q5)
  obtain ⟨T305, X305, e305, st305⟩ := getS2 X303 hx hZ hown (host := "") (Or.inl (hw _ (List.mem_of_getElem? (i := 80) rfl))) Via.refl e303 (q2.ext c306.2) (g := (mkF m 47 #[.val (.ref dd), .val (.int (Int32.ofNat (2 * ii + 1))), .val (.int xc)] [(.int xc), (.int (Int32.ofNat (2 * ii + 1))), (.ref dd)])) rfl (hb hby d_jdk_52_method_4_code_47)
  obtain ⟨cl307, Ar307, qq307, S307, M307, Hh307, U307⟩ := id R304
  obtain ⟨T307, h307, X307, e307, W307, st307⟩ := stB X305 hx hZ e305 Ar307 (j := (Int32.ofNat (2 * ii + 1))) (inb_of S307 (own_inb hi2 hn2)) (g := (mkF m 52 #[.val (.ref dd), .val (.int (Int32.ofNat (2 * ii + 1))), .val (.int xc)] [(.int ((xc >>> ((8 : Int32) &&& 31)).toInt8.toInt32)), (.int (Int32.ofNat (2 * ii + 1))), (.ref dd)])) rfl rfl (hb hby d_jdk_52_method_4_code_52)
  have N307 := Fr.snoc X307 N303 q5
  have V307 : Arv Z h307 dd kd .byte (Int32.ofNat n2) ((vs.set (2 * ii) (.int (StrChars.lo8 xc))).set (2 * ii + 1) (.int (nar .byte ((xc >>> ((8 : Int32) &&& 31)).toInt8.toInt32)))) (.int (0 : Int32)) := Arv.set Ar307 qq307 S307 M307 Hh307 U307 (fits_nar_byte _) W307 (2 * ii + 1) (own_clamp (by omega)) (by rw [List.length_set]; omega)
  have R308 : Arv Z h307 dd kd .byte (Int32.ofNat n2) ((vs.set (2 * ii) (.int (StrChars.lo8 xc))).set (2 * ii + 1) (.int (StrChars.hi8 xc))) (.int (0 : Int32)) := by have q := V307; rw [own_nb] at q; exact q
  obtain ⟨fs, hr, hrun, hended, hW, hsame⟩ := X307.leave (v := none) (fun _ => rfl)
  refine ⟨_, _, pre0 _ ?_, hrun, hended, _, _, rfl, ?_, ⟨_, rfl⟩, hW, hsame.mono (by decide) (by decide)⟩
  · refine st301 _ ?_
    show Steps p.tables e below (T301.setTop (mkF m 3 #[.val (.ref dd), .val (.int (Int32.ofNat ii)), .val (.int xc)] [(.int (1 : Int32))])) _
    refine XS.ifYes X301.here hx rfl (pc0 := 3) (pc' := 28) rfl (hb hby d_jdk_52_method_4_code_3) rfl ((if0 _ _).trans (feq ((by decide) : ¬ ((1 : Int32) = (0 : Int32)))).2) (by decide) (by decide) ?_
    show Steps p.tables e below (T301.setTop (mkF m 28 #[.val (.ref dd), .val (.int (Int32.ofNat ii)), .val (.int xc)] [])) _
    refine XS.iloadN X301.here hx rfl (hb hby d_jdk_52_method_4_code_28) rfl ?_
    show Steps p.tables e below (T301.setTop (mkF m 29 #[.val (.ref dd), .val (.int (Int32.ofNat ii)), .val (.int xc)] [(.int (Int32.ofNat ii))])) _
    refine XS.iconst X301.here hx rfl (hb hby d_jdk_52_method_4_code_29) ?_
    show Steps p.tables e below (T301.setTop (mkF m 30 #[.val (.ref dd), .val (.int (Int32.ofNat ii)), .val (.int xc)] [(.int (1 : Int32)), (.int (Int32.ofNat ii))])) _
    refine XS.ishl X301.here hx rfl (hb hby d_jdk_52_method_4_code_30) rfl ?_
    show Steps p.tables e below (T301.setTop (mkF m 31 #[.val (.ref dd), .val (.int (Int32.ofNat ii)), .val (.int xc)] [(.int ((Int32.ofNat ii) <<< ((1 : Int32) &&& 31)))])) _
    rw [own_shl1]
    show Steps p.tables e below (T301.setTop (mkF m 31 #[.val (.ref dd), .val (.int (Int32.ofNat ii)), .val (.int xc)] [(.int (Int32.ofNat (2 * ii)))])) _
    refine XS.istoreN X301.here hx rfl (hb hby d_jdk_52_method_4_code_31) rfl (l' := #[.val (.ref dd), .val (.int (Int32.ofNat (2 * ii))), .val (.int xc)]) rfl ?_
    show Steps p.tables e below (T301.setTop (mkF m 32 #[.val (.ref dd), .val (.int (Int32.ofNat (2 * ii))), .val (.int xc)] [])) _
    refine XS.aloadN X301.here hx rfl (hb hby d_jdk_52_method_4_code_32) rfl rfl ?_
    show Steps p.tables e below (T301.setTop (mkF m 33 #[.val (.ref dd), .val (.int (Int32.ofNat (2 * ii))), .val (.int xc)] [(.ref dd)])) _
    refine XS.iloadN X301.here hx rfl (hb hby d_jdk_52_method_4_code_33) rfl ?_
    show Steps p.tables e below (T301.setTop (mkF m 34 #[.val (.ref dd), .val (.int (Int32.ofNat (2 * ii))), .val (.int xc)] [(.int (Int32.ofNat (2 * ii))), (.ref dd)])) _
    refine XS.iinc X301.here hx rfl (hb hby d_jdk_52_method_4_code_34) rfl (l' := #[.val (.ref dd), .val (.int ((Int32.ofNat (2 * ii)) + (1 : Int32))), .val (.int xc)]) rfl ?_
    show Steps p.tables e below (T301.setTop (mkF m 37 #[.val (.ref dd), .val (.int ((Int32.ofNat (2 * ii)) + (1 : Int32))), .val (.int xc)] [(.int (Int32.ofNat (2 * ii))), (.ref dd)])) _
    rw [← inc_ofNat]
    show Steps p.tables e below (T301.setTop (mkF m 37 #[.val (.ref dd), .val (.int (Int32.ofNat (2 * ii + 1))), .val (.int xc)] [(.int (Int32.ofNat (2 * ii))), (.ref dd)])) _
    refine XS.iloadN X301.here hx rfl (hb hby d_jdk_52_method_4_code_37) rfl ?_
    show Steps p.tables e below (T301.setTop (mkF m 38 #[.val (.ref dd), .val (.int (Int32.ofNat (2 * ii + 1))), .val (.int xc)] [(.int xc), (.int (Int32.ofNat (2 * ii))), (.ref dd)])) _
    refine st302 _ ?_
    show Steps p.tables e below (T302.setTop (mkF m 41 #[.val (.ref dd), .val (.int (Int32.ofNat (2 * ii + 1))), .val (.int xc)] [(.int (0 : Int32)), (.int xc), (.int (Int32.ofNat (2 * ii))), (.ref dd)])) _
    refine XS.ishr X302.here hx rfl (hb hby d_jdk_52_method_4_code_41) rfl ?_
    show Steps p.tables e below (T302.setTop (mkF m 42 #[.val (.ref dd), .val (.int (Int32.ofNat (2 * ii + 1))), .val (.int xc)] [(.int (xc >>> ((0 : Int32) &&& 31))), (.int (Int32.ofNat (2 * ii))), (.ref dd)])) _
    refine XS.i2b X302.here hx rfl (hb hby d_jdk_52_method_4_code_42) rfl ?_
    show Steps p.tables e below (T302.setTop (mkF m 43 #[.val (.ref dd), .val (.int (Int32.ofNat (2 * ii + 1))), .val (.int xc)] [(.int ((xc >>> ((0 : Int32) &&& 31)).toInt8.toInt32)), (.int (Int32.ofNat (2 * ii))), (.ref dd)])) _
    refine st303 _ ?_
    show Steps p.tables e below (T303.setTop (mkF m 44 #[.val (.ref dd), .val (.int (Int32.ofNat (2 * ii + 1))), .val (.int xc)] [])) _
    refine XS.aloadN X303.here hx rfl (hb hby d_jdk_52_method_4_code_44) rfl rfl ?_
    show Steps p.tables e below (T303.setTop (mkF m 45 #[.val (.ref dd), .val (.int (Int32.ofNat (2 * ii + 1))), .val (.int xc)] [(.ref dd)])) _
    refine XS.iloadN X303.here hx rfl (hb hby d_jdk_52_method_4_code_45) rfl ?_
    show Steps p.tables e below (T303.setTop (mkF m 46 #[.val (.ref dd), .val (.int (Int32.ofNat (2 * ii + 1))), .val (.int xc)] [(.int (Int32.ofNat (2 * ii + 1))), (.ref dd)])) _
    refine XS.iloadN X303.here hx rfl (hb hby d_jdk_52_method_4_code_46) rfl ?_
    show Steps p.tables e below (T303.setTop (mkF m 47 #[.val (.ref dd), .val (.int (Int32.ofNat (2 * ii + 1))), .val (.int xc)] [(.int xc), (.int (Int32.ofNat (2 * ii + 1))), (.ref dd)])) _
    refine st305 _ ?_
    show Steps p.tables e below (T305.setTop (mkF m 50 #[.val (.ref dd), .val (.int (Int32.ofNat (2 * ii + 1))), .val (.int xc)] [(.int (8 : Int32)), (.int xc), (.int (Int32.ofNat (2 * ii + 1))), (.ref dd)])) _
    refine XS.ishr X305.here hx rfl (hb hby d_jdk_52_method_4_code_50) rfl ?_
    show Steps p.tables e below (T305.setTop (mkF m 51 #[.val (.ref dd), .val (.int (Int32.ofNat (2 * ii + 1))), .val (.int xc)] [(.int (xc >>> ((8 : Int32) &&& 31))), (.int (Int32.ofNat (2 * ii + 1))), (.ref dd)])) _
    refine XS.i2b X305.here hx rfl (hb hby d_jdk_52_method_4_code_51) rfl ?_
    show Steps p.tables e below (T305.setTop (mkF m 52 #[.val (.ref dd), .val (.int (Int32.ofNat (2 * ii + 1))), .val (.int xc)] [(.int ((xc >>> ((8 : Int32) &&& 31)).toInt8.toInt32)), (.int (Int32.ofNat (2 * ii + 1))), (.ref dd)])) _
    refine st307 _ ?_
    show Steps p.tables e below (T307.setTop (mkF m 53 #[.val (.ref dd), .val (.int (Int32.ofNat (2 * ii + 1))), .val (.int xc)] [])) _
    exact X307.returnOut hx Bd.returns (hb hby d_jdk_52_method_4_code_53) hr
  · show Q_putCh Z dd ii xc kd n2 vs h0 n0 _ T307.heap _
    rw [e307]
    exact ⟨rfl, N307, (((Keep.refl h0 ([dd] : List Addr)).wr W303 (Or.inl (by simp))).wr W307 (Or.inl (by simp))), R308⟩
theorem d_jdk_52_method_5_code_0 : decode jdk_52_method_5_code 0 = .ok (.getstatic 44, 3) := by decide +kernel
theorem d_jdk_52_method_5_code_3 : decode jdk_52_method_5_code 3 = .ok (.ifCond .ne 25, 3) := by decide +kernel
theorem d_jdk_52_method_5_code_28 : decode jdk_52_method_5_code 28 = .ok (.iload_n 1, 1) := by decide +kernel
theorem d_jdk_52_method_5_code_29 : decode jdk_52_method_5_code 29 = .ok (.iconst 1, 1) := by decide +kernel
theorem d_jdk_52_method_5_code_30 : decode jdk_52_method_5_code 30 = .ok (.ishl, 1) := by decide +kernel
theorem d_jdk_52_method_5_code_31 : decode jdk_52_method_5_code 31 = .ok (.istore_n 1, 1) := by decide +kernel
theorem d_jdk_52_method_5_code_32 : decode jdk_52_method_5_code 32 = .ok (.aload_n 0, 1) := by decide +kernel
theorem d_jdk_52_method_5_code_33 : decode jdk_52_method_5_code 33 = .ok (.iload_n 1, 1) := by decide +kernel
theorem d_jdk_52_method_5_code_34 : decode jdk_52_method_5_code 34 = .ok (.iinc 1 1, 3) := by decide +kernel
theorem d_jdk_52_method_5_code_37 : decode jdk_52_method_5_code 37 = .ok (.baload, 1) := by decide +kernel
theorem d_jdk_52_method_5_code_38 : decode jdk_52_method_5_code 38 = .ok (.sipush 255, 3) := by decide +kernel
theorem d_jdk_52_method_5_code_41 : decode jdk_52_method_5_code 41 = .ok (.iand, 1) := by decide +kernel
theorem d_jdk_52_method_5_code_42 : decode jdk_52_method_5_code 42 = .ok (.getstatic 59, 3) := by decide +kernel
theorem d_jdk_52_method_5_code_45 : decode jdk_52_method_5_code 45 = .ok (.ishl, 1) := by decide +kernel
theorem d_jdk_52_method_5_code_46 : decode jdk_52_method_5_code 46 = .ok (.aload_n 0, 1) := by decide +kernel
theorem d_jdk_52_method_5_code_47 : decode jdk_52_method_5_code 47 = .ok (.iload_n 1, 1) := by decide +kernel
theorem d_jdk_52_method_5_code_48 : decode jdk_52_method_5_code 48 = .ok (.baload, 1) := by decide +kernel
theorem d_jdk_52_method_5_code_49 : decode jdk_52_method_5_code 49 = .ok (.sipush 255, 3) := by decide +kernel
theorem d_jdk_52_method_5_code_52 : decode jdk_52_method_5_code 52 = .ok (.iand, 1) := by decide +kernel
theorem d_jdk_52_method_5_code_53 : decode jdk_52_method_5_code 53 = .ok (.getstatic 63, 3) := by decide +kernel
theorem d_jdk_52_method_5_code_56 : decode jdk_52_method_5_code 56 = .ok (.ishl, 1) := by decide +kernel
theorem d_jdk_52_method_5_code_57 : decode jdk_52_method_5_code 57 = .ok (.ior, 1) := by decide +kernel
theorem d_jdk_52_method_5_code_58 : decode jdk_52_method_5_code 58 = .ok (.i2c, 1) := by decide +kernel
theorem d_jdk_52_method_5_code_59 : decode jdk_52_method_5_code 59 = .ok (.ireturn, 1) := by decide +kernel
theorem ef_2 (m : MethodId) (x0 : Addr) (x1 : Int32) : entryFrame m #[(.ref x0), (.int x1)] 2 = mkF m 0 #[.val (.ref x0), .val (.int x1)] [] := by first | (simp [entryFrame, mkF, argsToLocals, Value.category]; done) | rfl
def Q_getCh (Z : State) (dd : Addr) (ii : Nat) (xc : Int32) (kd : ClassId) (n2 : Nat) (vs : List Value) (h0 : Heap) (n0 : Nat) (v : Option Value) (h : Heap) (L : List Loc) : Prop := (v = some (.int xc)) ∧ (Fr n0 L) ∧ (h = h0)
set_option maxRecDepth 65536 in
set_option maxHeartbeats 40000000 in
theorem rm_getCh (l : Launch) (Z : State) (a0 : Array Value) (hw : ∀ d ∈ tables_1, d.before a0 Z = true) (ws : List Jvm.Cond) (dd : Addr) (ii : Nat) (xc : Int32) (kd : ClassId) (n2 : Nat) (vs : List Value) (h0 : Heap) (n0 : Nat) (Z0 : n0 ≤ h0.size) (q0 : Sta Z Z.heap "java/lang/StringUTF16" "$assertionsDisabled" "Z" (.int (1 : Int32))) (q1 : Sta Z Z.heap "java/lang/StringUTF16" "HI_BYTE_SHIFT" "I" (.int (0 : Int32))) (q2 : Sta Z Z.heap "java/lang/StringUTF16" "LO_BYTE_SHIFT" "I" (.int (8 : Int32))) (q3 : Old Z n0 h0) (q4 : Arv Z h0 dd kd .byte (Int32.ofNat n2) vs (.int (0 : Int32))) (hi2 : 2 * ii + 1 < n2) (hn2 : n2 < 2 ^ 31) (hlo_ : vs.getD (2 * ii) (.int (0 : Int32)) = (.int (StrChars.lo8 xc))) (hhi_ : vs.getD (2 * ii + 1) (.int (0 : Int32)) = (.int (StrChars.hi8 xc))) (hc0 : ¬ xc < 0) (hc1 : ¬ (65535 : Int32) < xc) :
    MetFree l (⟨"java/lang/StringUTF16", "getChar", "([BI)C"⟩ : MethodName) (head1 (Jvm.Cond.code (⟨"java/lang/StringUTF16", "getChar", "([BI)C"⟩ : MethodName) jdk_52_method_5_code 2 (some .char) :: ws) ({ frames := 0, cells := 0, slots := 0, locals := 0 } : Room)) (fun a₁ U₁ => a₁ = #[(.ref dd), (.int (Int32.ofNat ii))] ∧ Z.Warmed39 U₁.vm ∧ U₁.heap = h0) (fun _ _ _ _ _ => True) (fun _ U₁ o₁ U₂ => ∃ v₁ L₁, o₁ = .returned v₁ ∧ Q_getCh Z dd ii xc kd n2 vs h0 n0 v₁ U₂.heap L₁ ∧ FrameEnd U₁ o₁ U₂ L₁ ({ frames := 0, cells := 0, slots := 0, locals := 0 } : Room).cells ({ frames := 0, cells := 0, slots := 0, locals := 0 } : Room).slots) := by
  refine MetFree.of_bodySF (plainFor_of_name pn_0) hisR ?_
  intro p e s m args below meth c s₁ Bd hml0 hP hK
  obtain ⟨rfl, hZ, hh⟩ := hP
  have hx := Bd.exec
  have hby := Bd.bytes
  have hml : c.maxLocals = 2 := hml0
  have hown : s.vm.findClass "java/lang/StringUTF16" = some m.cls := findClass_of_methodNamed Bd.named
  have hnm := (name_of_methodNamed Bd.named Bd.method).1
  have X0 : Stand p l e ({ frames := 0, cells := 0, slots := 0, locals := 0 } : Room) s m #[(.ref dd), (.int (Int32.ofNat ii))] below meth c s₁ [] 0 0 := Stand.of_body Bd
  have e0 : s₁.heap = h0 := by rw [← hh, Bd.state]; rfl
  have N0 := Fr.nil n0
  have pre0 : ∀ t, Steps p.tables e below (s₁.setTop (mkF m 0 #[.val (.ref dd), .val (.int (Int32.ofNat ii))] [])) t → Steps p.tables e below (s₁.setTop (entryFrame m #[(.ref dd), (.int (Int32.ofNat ii))] 2)) t := fun t k => castTop (ef_2 m dd (Int32.ofNat ii)) k
  obtain ⟨T301, X301, e301, st301⟩ := getS2 X0 hx hZ hown (host := "") (Or.inl (hw _ (List.mem_of_getElem? (i := 78) rfl))) Via.refl e0 (q0.ext q3.2) (g := (mkF m 0 #[.val (.ref dd), .val (.int (Int32.ofNat ii))] [])) rfl (hb hby d_jdk_52_method_5_code_0)
  obtain ⟨cl302, Ar302, qq302, S302, M302, Hh302, U302⟩ := id q4
  have ib302 : ¬ ((Int32.ofNat (2 * ii)) < 0 ∨ cl302.slots.size ≤ ((Int32.ofNat (2 * ii))).toNatClampNeg) := inb_of S302 (own_inb (by omega) hn2)
  obtain ⟨T303, X303, e303, st303⟩ := getS2 X301 hx hZ hown (host := "") (Or.inl (hw _ (List.mem_of_getElem? (i := 79) rfl))) Via.refl e301 (q1.ext q3.2) (g := (mkF m 42 #[.val (.ref dd), .val (.int (Int32.ofNat (2 * ii + 1)))] [(.int ((StrChars.lo8 xc) &&& (255 : Int32)))])) rfl (hb hby d_jdk_52_method_5_code_42)
  obtain ⟨cl304, Ar304, qq304, S304, M304, Hh304, U304⟩ := id q4
  have ib304 : ¬ ((Int32.ofNat (2 * ii + 1)) < 0 ∨ cl304.slots.size ≤ ((Int32.ofNat (2 * ii + 1))).toNatClampNeg) := inb_of S304 (own_inb hi2 hn2)
  obtain ⟨T305, X305, e305, st305⟩ := getS2 X303 hx hZ hown (host := "") (Or.inl (hw _ (List.mem_of_getElem? (i := 80) rfl))) Via.refl e303 (q2.ext q3.2) (g := (mkF m 53 #[.val (.ref dd), .val (.int (Int32.ofNat (2 * ii + 1)))] [(.int ((StrChars.hi8 xc) &&& (255 : Int32))), (.int (((StrChars.lo8 xc) &&& (255 : Int32)) <<< ((0 : Int32) &&& 31)))])) rfl (hb hby d_jdk_52_method_5_code_53)
  obtain ⟨fs, hr, hrun, hended, hW, hsame⟩ := X305.leave (v := some (.int xc)) (fun h => by rw [Bd.returns] at h; cases h)
  refine ⟨_, _, pre0 _ ?_, hrun, hended, _, _, rfl, ?_, ⟨_, rfl⟩, hW, hsame.mono (by decide) (by decide)⟩
  · refine st301 _ ?_
    show Steps p.tables e below (T301.setTop (mkF m 3 #[.val (.ref dd), .val (.int (Int32.ofNat ii))] [(.int (1 : Int32))])) _
    refine XS.ifYes X301.here hx rfl (pc0 := 3) (pc' := 28) rfl (hb hby d_jdk_52_method_5_code_3) rfl ((if0 _ _).trans (feq ((by decide) : ¬ ((1 : Int32) = (0 : Int32)))).2) (by decide) (by decide) ?_
    show Steps p.tables e below (T301.setTop (mkF m 28 #[.val (.ref dd), .val (.int (Int32.ofNat ii))] [])) _
    refine XS.iloadN X301.here hx rfl (hb hby d_jdk_52_method_5_code_28) rfl ?_
    show Steps p.tables e below (T301.setTop (mkF m 29 #[.val (.ref dd), .val (.int (Int32.ofNat ii))] [(.int (Int32.ofNat ii))])) _
    refine XS.iconst X301.here hx rfl (hb hby d_jdk_52_method_5_code_29) ?_
    show Steps p.tables e below (T301.setTop (mkF m 30 #[.val (.ref dd), .val (.int (Int32.ofNat ii))] [(.int (1 : Int32)), (.int (Int32.ofNat ii))])) _
    refine XS.ishl X301.here hx rfl (hb hby d_jdk_52_method_5_code_30) rfl ?_
    show Steps p.tables e below (T301.setTop (mkF m 31 #[.val (.ref dd), .val (.int (Int32.ofNat ii))] [(.int ((Int32.ofNat ii) <<< ((1 : Int32) &&& 31)))])) _
    rw [own_shl1]
    show Steps p.tables e below (T301.setTop (mkF m 31 #[.val (.ref dd), .val (.int (Int32.ofNat ii))] [(.int (Int32.ofNat (2 * ii)))])) _
    refine XS.istoreN X301.here hx rfl (hb hby d_jdk_52_method_5_code_31) rfl (l' := #[.val (.ref dd), .val (.int (Int32.ofNat (2 * ii)))]) rfl ?_
    show Steps p.tables e below (T301.setTop (mkF m 32 #[.val (.ref dd), .val (.int (Int32.ofNat (2 * ii)))] [])) _
    refine XS.aloadN X301.here hx rfl (hb hby d_jdk_52_method_5_code_32) rfl rfl ?_
    show Steps p.tables e below (T301.setTop (mkF m 33 #[.val (.ref dd), .val (.int (Int32.ofNat (2 * ii)))] [(.ref dd)])) _
    refine XS.iloadN X301.here hx rfl (hb hby d_jdk_52_method_5_code_33) rfl ?_
    show Steps p.tables e below (T301.setTop (mkF m 34 #[.val (.ref dd), .val (.int (Int32.ofNat (2 * ii)))] [(.int (Int32.ofNat (2 * ii))), (.ref dd)])) _
    refine XS.iinc X301.here hx rfl (hb hby d_jdk_52_method_5_code_34) rfl (l' := #[.val (.ref dd), .val (.int ((Int32.ofNat (2 * ii)) + (1 : Int32)))]) rfl ?_
    show Steps p.tables e below (T301.setTop (mkF m 37 #[.val (.ref dd), .val (.int ((Int32.ofNat (2 * ii)) + (1 : Int32)))] [(.int (Int32.ofNat (2 * ii))), (.ref dd)])) _
    rw [← inc_ofNat]
    show Steps p.tables e below (T301.setTop (mkF m 37 #[.val (.ref dd), .val (.int (Int32.ofNat (2 * ii + 1)))] [(.int (Int32.ofNat (2 * ii))), (.ref dd)])) _
    refine X301.baloadBytes hx (j := (Int32.ofNat (2 * ii))) (v := (.int (StrChars.lo8 xc))) (by rw [e301]; exact Ar302.1) (State.isArrayOf_alike hZ.alike Ar302.2.1) Ar302.2.2 ib302 (Hh302.at ib302 (by rw [own_clamp (by omega)]; exact hlo_)) (g := (mkF m 37 #[.val (.ref dd), .val (.int (Int32.ofNat (2 * ii + 1)))] [(.int (Int32.ofNat (2 * ii))), (.ref dd)])) rfl rfl (hb hby d_jdk_52_method_5_code_37) _ ?_
    show Steps p.tables e below (T301.setTop (mkF m 38 #[.val (.ref dd), .val (.int (Int32.ofNat (2 * ii + 1)))] [(.int (StrChars.lo8 xc))])) _
    refine XS.sipush X301.here hx rfl (hb hby d_jdk_52_method_5_code_38) ?_
    show Steps p.tables e below (T301.setTop (mkF m 41 #[.val (.ref dd), .val (.int (Int32.ofNat (2 * ii + 1)))] [(.int (255 : Int32)), (.int (StrChars.lo8 xc))])) _
    refine XS.iand X301.here hx rfl (hb hby d_jdk_52_method_5_code_41) rfl ?_
    show Steps p.tables e below (T301.setTop (mkF m 42 #[.val (.ref dd), .val (.int (Int32.ofNat (2 * ii + 1)))] [(.int ((StrChars.lo8 xc) &&& (255 : Int32)))])) _
    refine st303 _ ?_
    show Steps p.tables e below (T303.setTop (mkF m 45 #[.val (.ref dd), .val (.int (Int32.ofNat (2 * ii + 1)))] [(.int (0 : Int32)), (.int ((StrChars.lo8 xc) &&& (255 : Int32)))])) _
    refine XS.ishl X303.here hx rfl (hb hby d_jdk_52_method_5_code_45) rfl ?_
    show Steps p.tables e below (T303.setTop (mkF m 46 #[.val (.ref dd), .val (.int (Int32.ofNat (2 * ii + 1)))] [(.int (((StrChars.lo8 xc) &&& (255 : Int32)) <<< ((0 : Int32) &&& 31)))])) _
    refine XS.aloadN X303.here hx rfl (hb hby d_jdk_52_method_5_code_46) rfl rfl ?_
    show Steps p.tables e below (T303.setTop (mkF m 47 #[.val (.ref dd), .val (.int (Int32.ofNat (2 * ii + 1)))] [(.ref dd), (.int (((StrChars.lo8 xc) &&& (255 : Int32)) <<< ((0 : Int32) &&& 31)))])) _
    refine XS.iloadN X303.here hx rfl (hb hby d_jdk_52_method_5_code_47) rfl ?_
    show Steps p.tables e below (T303.setTop (mkF m 48 #[.val (.ref dd), .val (.int (Int32.ofNat (2 * ii + 1)))] [(.int (Int32.ofNat (2 * ii + 1))), (.ref dd), (.int (((StrChars.lo8 xc) &&& (255 : Int32)) <<< ((0 : Int32) &&& 31)))])) _
    refine X303.baloadBytes hx (j := (Int32.ofNat (2 * ii + 1))) (v := (.int (StrChars.hi8 xc))) (by rw [e303]; exact Ar304.1) (State.isArrayOf_alike hZ.alike Ar304.2.1) Ar304.2.2 ib304 (Hh304.at ib304 (by rw [own_clamp (by omega)]; exact hhi_)) (g := (mkF m 48 #[.val (.ref dd), .val (.int (Int32.ofNat (2 * ii + 1)))] [(.int (Int32.ofNat (2 * ii + 1))), (.ref dd), (.int (((StrChars.lo8 xc) &&& (255 : Int32)) <<< ((0 : Int32) &&& 31)))])) rfl rfl (hb hby d_jdk_52_method_5_code_48) _ ?_
    show Steps p.tables e below (T303.setTop (mkF m 49 #[.val (.ref dd), .val (.int (Int32.ofNat (2 * ii + 1)))] [(.int (StrChars.hi8 xc)), (.int (((StrChars.lo8 xc) &&& (255 : Int32)) <<< ((0 : Int32) &&& 31)))])) _
    refine XS.sipush X303.here hx rfl (hb hby d_jdk_52_method_5_code_49) ?_
    show Steps p.tables e below (T303.setTop (mkF m 52 #[.val (.ref dd), .val (.int (Int32.ofNat (2 * ii + 1)))] [(.int (255 : Int32)), (.int (StrChars.hi8 xc)), (.int (((StrChars.lo8 xc) &&& (255 : Int32)) <<< ((0 : Int32) &&& 31)))])) _
    refine XS.iand X303.here hx rfl (hb hby d_jdk_52_method_5_code_52) rfl ?_
    show Steps p.tables e below (T303.setTop (mkF m 53 #[.val (.ref dd), .val (.int (Int32.ofNat (2 * ii + 1)))] [(.int ((StrChars.hi8 xc) &&& (255 : Int32))), (.int (((StrChars.lo8 xc) &&& (255 : Int32)) <<< ((0 : Int32) &&& 31)))])) _
    refine st305 _ ?_
    show Steps p.tables e below (T305.setTop (mkF m 56 #[.val (.ref dd), .val (.int (Int32.ofNat (2 * ii + 1)))] [(.int (8 : Int32)), (.int ((StrChars.hi8 xc) &&& (255 : Int32))), (.int (((StrChars.lo8 xc) &&& (255 : Int32)) <<< ((0 : Int32) &&& 31)))])) _
    refine XS.ishl X305.here hx rfl (hb hby d_jdk_52_method_5_code_56) rfl ?_
    show Steps p.tables e below (T305.setTop (mkF m 57 #[.val (.ref dd), .val (.int (Int32.ofNat (2 * ii + 1)))] [(.int (((StrChars.hi8 xc) &&& (255 : Int32)) <<< ((8 : Int32) &&& 31))), (.int (((StrChars.lo8 xc) &&& (255 : Int32)) <<< ((0 : Int32) &&& 31)))])) _
    refine XS.ior X305.here hx rfl (hb hby d_jdk_52_method_5_code_57) rfl ?_
    show Steps p.tables e below (T305.setTop (mkF m 58 #[.val (.ref dd), .val (.int (Int32.ofNat (2 * ii + 1)))] [(.int ((((StrChars.lo8 xc) &&& (255 : Int32)) <<< ((0 : Int32) &&& 31)) ||| (((StrChars.hi8 xc) &&& (255 : Int32)) <<< ((8 : Int32) &&& 31))))])) _
    refine XS.i2c X305.here hx rfl (hb hby d_jdk_52_method_5_code_58) rfl ?_
    show Steps p.tables e below (T305.setTop (mkF m 59 #[.val (.ref dd), .val (.int (Int32.ofNat (2 * ii + 1)))] [(.int (((((StrChars.lo8 xc) &&& (255 : Int32)) <<< ((0 : Int32) &&& 31)) ||| (((StrChars.hi8 xc) &&& (255 : Int32)) <<< ((8 : Int32) &&& 31))).toUInt32.toUInt16.toUInt32.toInt32))])) _
    rw [(show (((((StrChars.lo8 xc) &&& (255 : Int32)) <<< ((0 : Int32) &&& 31)) ||| (((StrChars.hi8 xc) &&& (255 : Int32)) <<< ((8 : Int32) &&& 31))).toUInt32.toUInt16.toUInt32.toInt32) = xc from StrChars.pair_says hc0 hc1)]
    show Steps p.tables e below (T305.setTop (mkF m 59 #[.val (.ref dd), .val (.int (Int32.ofNat (2 * ii + 1)))] [(.int xc)])) _
    exact retN X305 hx (t := .char) Bd.returns (by simp) (hb hby d_jdk_52_method_5_code_59) (by rw [(show nar .char xc = xc from own_nc hc0 hc1)]; exact hr)
  · show Q_getCh Z dd ii xc kd n2 vs h0 n0 _ T305.heap _
    rw [e305]
    exact ⟨rfl, N0, rfl⟩
theorem d_jdk_52_method_3_code_0 : decode jdk_52_method_3_code 0 = .ok (.iload_n 0, 1) := by decide +kernel
theorem d_jdk_52_method_3_code_1 : decode jdk_52_method_3_code 1 = .ok (.ifCond .ge 11, 3) := by decide +kernel
theorem d_jdk_52_method_3_code_12 : decode jdk_52_method_3_code 12 = .ok (.iload_n 0, 1) := by decide +kernel
theorem d_jdk_52_method_3_code_13 : decode jdk_52_method_3_code 13 = .ok (.ldc 20, 2) := by decide +kernel
theorem d_jdk_52_method_3_code_15 : decode jdk_52_method_3_code 15 = .ok (.if_icmp .lt 40, 3) := by decide +kernel
theorem d_jdk_52_method_3_code_55 : decode jdk_52_method_3_code 55 = .ok (.iload_n 0, 1) := by decide +kernel
theorem d_jdk_52_method_3_code_56 : decode jdk_52_method_3_code 56 = .ok (.iconst 1, 1) := by decide +kernel
theorem d_jdk_52_method_3_code_57 : decode jdk_52_method_3_code 57 = .ok (.ishl, 1) := by decide +kernel
theorem d_jdk_52_method_3_code_58 : decode jdk_52_method_3_code 58 = .ok (.ireturn, 1) := by decide +kernel
theorem ef_3 (m : MethodId) (x0 : Int32) : entryFrame m #[(.int x0)] 1 = mkF m 0 #[.val (.int x0)] [] := by first | (simp [entryFrame, mkF, argsToLocals, Value.category]; done) | rfl
def Q_nbl (Z : State) (n : Nat) (h0 : Heap) (n0 : Nat) (v : Option Value) (h : Heap) (L : List Loc) : Prop := (v = some (.int (Int32.ofNat (2 * n)))) ∧ (Fr n0 L) ∧ (h = h0)
set_option maxRecDepth 65536 in
set_option maxHeartbeats 40000000 in
theorem rm_nbl (l : Launch) (Z : State) (a0 : Array Value) (hw : ∀ d ∈ tables_1, d.before a0 Z = true) (ws : List Jvm.Cond) (n : Nat) (h0 : Heap) (n0 : Nat) (Z0 : n0 ≤ h0.size) (hcap : n ≤ 4) :
    MetFree l (⟨"java/lang/StringUTF16", "newBytesLength", "(I)I"⟩ : MethodName) (head1 (Jvm.Cond.code (⟨"java/lang/StringUTF16", "newBytesLength", "(I)I"⟩ : MethodName) jdk_52_method_3_code 1 (some .int) :: ws) ({ frames := 0, cells := 0, slots := 0, locals := 0 } : Room)) (fun a₁ U₁ => a₁ = #[(.int (Int32.ofNat n))] ∧ Z.Warmed39 U₁.vm ∧ U₁.heap = h0) (fun _ _ _ _ _ => True) (fun _ U₁ o₁ U₂ => ∃ v₁ L₁, o₁ = .returned v₁ ∧ Q_nbl Z n h0 n0 v₁ U₂.heap L₁ ∧ FrameEnd U₁ o₁ U₂ L₁ ({ frames := 0, cells := 0, slots := 0, locals := 0 } : Room).cells ({ frames := 0, cells := 0, slots := 0, locals := 0 } : Room).slots) := by
  refine MetFree.of_bodySF (plainFor_of_name pn_0) hisR ?_
  intro p e s m args below meth c s₁ Bd hml0 hP hK
  obtain ⟨rfl, hZ, hh⟩ := hP
  have hx := Bd.exec
  have hby := Bd.bytes
  have hml : c.maxLocals = 1 := hml0
  have hown : s.vm.findClass "java/lang/StringUTF16" = some m.cls := findClass_of_methodNamed Bd.named
  have hnm := (name_of_methodNamed Bd.named Bd.method).1
  have X0 : Stand p l e ({ frames := 0, cells := 0, slots := 0, locals := 0 } : Room) s m #[(.int (Int32.ofNat n))] below meth c s₁ [] 0 0 := Stand.of_body Bd
  have e0 : s₁.heap = h0 := by rw [← hh, Bd.state]; rfl
  have N0 := Fr.nil n0
  have pre0 : ∀ t, Steps p.tables e below (s₁.setTop (mkF m 0 #[.val (.int (Int32.ofNat n))] [])) t → Steps p.tables e below (s₁.setTop (entryFrame m #[(.int (Int32.ofNat n))] 1)) t := fun t k => castTop (ef_3 m (Int32.ofNat n)) k
  obtain ⟨fs, hr, hrun, hended, hW, hsame⟩ := X0.leave (v := some (.int (Int32.ofNat (2 * n)))) (fun h => by rw [Bd.returns] at h; cases h)
  refine ⟨_, _, pre0 _ ?_, hrun, hended, _, _, rfl, ?_, ⟨_, rfl⟩, hW, hsame.mono (by decide) (by decide)⟩
  · refine XS.iloadN X0.here hx rfl (hb hby d_jdk_52_method_3_code_0) rfl ?_
    show Steps p.tables e below (s₁.setTop (mkF m 1 #[.val (.int (Int32.ofNat n))] [(.int (Int32.ofNat n))])) _
    refine XS.ifYes X0.here hx rfl (pc0 := 1) (pc' := 12) rfl (hb hby d_jdk_52_method_3_code_1) rfl ((if0 _ _).trans (flt ((own_nlt (Nat.zero_le _) (by omega)) : ¬ ((Int32.ofNat n) < (0 : Int32)))).2.1) (by decide) (by decide) ?_
    show Steps p.tables e below (s₁.setTop (mkF m 12 #[.val (.int (Int32.ofNat n))] [])) _
    refine XS.iloadN X0.here hx rfl (hb hby d_jdk_52_method_3_code_12) rfl ?_
    show Steps p.tables e below (s₁.setTop (mkF m 13 #[.val (.int (Int32.ofNat n))] [(.int (Int32.ofNat n))])) _
    refine X0.ldcInt hx hown (mvT hZ (hw _ (List.mem_of_getElem? (i := 74) rfl))) (g := (mkF m 13 #[.val (.int (Int32.ofNat n))] [(.int (Int32.ofNat n))])) rfl (hb hby d_jdk_52_method_3_code_13) _ ?_
    show Steps p.tables e below (s₁.setTop (mkF m 15 #[.val (.int (Int32.ofNat n))] [(.int (1073741823 : Int32)), (.int (Int32.ofNat n))])) _
    refine XS.icmpYes X0.here hx rfl (pc0 := 15) (pc' := 55) rfl (hb hby d_jdk_52_method_3_code_15) rfl (tlt ((by rw [Int32.lt_iff_toInt_lt, own_toInt (by omega)]; have e : (1073741823 : Int32).toInt = 1073741823 := rfl; omega) : (Int32.ofNat n) < (1073741823 : Int32))).1 (by decide) (by decide) ?_
    show Steps p.tables e below (s₁.setTop (mkF m 55 #[.val (.int (Int32.ofNat n))] [])) _
    refine XS.iloadN X0.here hx rfl (hb hby d_jdk_52_method_3_code_55) rfl ?_
    show Steps p.tables e below (s₁.setTop (mkF m 56 #[.val (.int (Int32.ofNat n))] [(.int (Int32.ofNat n))])) _
    refine XS.iconst X0.here hx rfl (hb hby d_jdk_52_method_3_code_56) ?_
    show Steps p.tables e below (s₁.setTop (mkF m 57 #[.val (.int (Int32.ofNat n))] [(.int (1 : Int32)), (.int (Int32.ofNat n))])) _
    refine XS.ishl X0.here hx rfl (hb hby d_jdk_52_method_3_code_57) rfl ?_
    show Steps p.tables e below (s₁.setTop (mkF m 58 #[.val (.int (Int32.ofNat n))] [(.int ((Int32.ofNat n) <<< ((1 : Int32) &&& 31)))])) _
    rw [own_shl1]
    show Steps p.tables e below (s₁.setTop (mkF m 58 #[.val (.int (Int32.ofNat n))] [(.int (Int32.ofNat (2 * n)))])) _
    exact retI X0 hx Bd.returns (hb hby d_jdk_52_method_3_code_58) hr
  · show Q_nbl Z n h0 n0 _ s₁.heap _
    rw [e0]
    exact ⟨rfl, N0, rfl⟩
theorem d_jdk_52_method_2_code_0 : decode jdk_52_method_2_code 0 = .ok (.iload_n 0, 1) := by decide +kernel
theorem d_jdk_52_method_2_code_1 : decode jdk_52_method_2_code 1 = .ok (.invokestatic 11, 3) := by decide +kernel
theorem pd_0 : parseMethodDescriptor "(I)I" = some ⟨[.int], some .int⟩ := by decide +kernel
theorem d_jdk_52_method_2_code_4 : decode jdk_52_method_2_code 4 = .ok (.newarray .byte, 2) := by decide +kernel
theorem d_jdk_52_method_2_code_6 : decode jdk_52_method_2_code 6 = .ok (.areturn, 1) := by decide +kernel
def Q_nbf (Z : State) (n : Nat) (h0 : Heap) (n0 : Nat) (v : Option Value) (h : Heap) (L : List Loc) : Prop := ∃ (tt : Addr) (kt : ClassId), (v = some (.ref tt)) ∧ (Fr n0 L) ∧ (Keep h0 h ([] : List Addr)) ∧ (h0.size ≤ tt) ∧ (Arv Z h tt kt .byte (Int32.ofNat (2 * n)) (List.replicate (2 * n) (.int (0 : Int32))) (.int (0 : Int32)))
set_option maxRecDepth 65536 in
set_option maxHeartbeats 40000000 in
theorem rm_nbf (l : Launch) (Z : State) (a0 : Array Value) (hw : ∀ d ∈ tables_1, d.before a0 Z = true) (ws : List Jvm.Cond) (n : Nat) (h0 : Heap) (n0 : Nat) (Z0 : n0 ≤ h0.size) (hcap : n ≤ 4) :
    MetFree l (⟨"java/lang/StringUTF16", "newBytesFor", "(I)[B"⟩ : MethodName) (head1 (Jvm.Cond.code (⟨"java/lang/StringUTF16", "newBytesFor", "(I)[B"⟩ : MethodName) jdk_52_method_2_code 1 (some (.array .byte)) :: ws) ({ frames := 1, cells := 1, slots := 8, locals := 12 } : Room)) (fun a₁ U₁ => a₁ = #[(.int (Int32.ofNat n))] ∧ Z.Warmed39 U₁.vm ∧ U₁.heap = h0) (fun _ _ _ _ _ => True) (fun _ U₁ o₁ U₂ => ∃ v₁ L₁, o₁ = .returned v₁ ∧ Q_nbf Z n h0 n0 v₁ U₂.heap L₁ ∧ FrameEnd U₁ o₁ U₂ L₁ ({ frames := 1, cells := 1, slots := 8, locals := 12 } : Room).cells ({ frames := 1, cells := 1, slots := 8, locals := 12 } : Room).slots) := by
  refine MetFree.of_bodySF (plainFor_of_name pn_0) hisR ?_
  intro p e s m args below meth c s₁ Bd hml0 hP hK
  obtain ⟨rfl, hZ, hh⟩ := hP
  have hx := Bd.exec
  have hby := Bd.bytes
  have hml : c.maxLocals = 1 := hml0
  have hown : s.vm.findClass "java/lang/StringUTF16" = some m.cls := findClass_of_methodNamed Bd.named
  have hnm := (name_of_methodNamed Bd.named Bd.method).1
  have X0 : Stand p l e ({ frames := 1, cells := 1, slots := 8, locals := 12 } : Room) s m #[(.int (Int32.ofNat n))] below meth c s₁ [] 0 0 := Stand.of_body Bd
  have e0 : s₁.heap = h0 := by rw [← hh, Bd.state]; rfl
  have N0 := Fr.nil n0
  have pre0 : ∀ t, Steps p.tables e below (s₁.setTop (mkF m 0 #[.val (.int (Int32.ofNat n))] [])) t → Steps p.tables e below (s₁.setTop (entryFrame m #[(.int (Int32.ofNat n))] 1)) t := fun t k => castTop (ef_3 m (Int32.ofNat n)) k
  obtain ⟨_, _, ⟨T301, L301, k301, n301⟩, -, X301, ⟨Lc301, hQ301, l301, y301, z301⟩, st301⟩ := Jvm.LawKit.callS X0 hx (y := (⟨"java/lang/StringUTF16", "newBytesLength", "(I)I"⟩ : MethodName)) hown (mvT hZ (hw _ (List.mem_of_getElem? (i := 71) rfl))) (mvT hZ (hw _ (List.mem_of_getElem? (i := 72) rfl))) (mvT hZ (hw _ (List.mem_of_getElem? (i := 21) rfl))) (mvT hZ (hw _ (List.mem_of_getElem? (i := 73) rfl))) (by decide) (backOf (W := 0) (rm_nbl l Z a0 hw [] n h0 n0 Z0 hcap) hZ (hw _ (List.mem_of_getElem? (i := 73) rfl)) (hw _ (List.mem_of_getElem? (i := 21) rfl)) (by decide) (by decide)) (g := (mkF m 1 #[.val (.int (Int32.ofNat n))] [(.int (Int32.ofNat n))])) rfl (by rw [hml]; rfl) (argsL := [(.int (Int32.ofNat n))]) (rest := []) (lenOf pd_0 rfl) rfl (by show 2 * 0 + _ ≤ _; exact Nat.le_of_eq rfl) (hb hby d_jdk_52_method_2_code_1) (fun _ _ => ⟨rfl, e0, (by decide : 0 + 0 ≤ _), (by decide : 0 + 0 ≤ _)⟩)
  dsimp only [Pt.U, Pt.locs, Pt.cells, Pt.slots] at X301 l301 y301 z301 st301 hQ301
  subst l301 y301 z301
  obtain ⟨rfl, Nq301, e301⟩ := hQ301
  have N301 := Fr.app N0 Nq301
  obtain ⟨T302, h302, ky302, X302, e302, E302, A302, st302⟩ := newP X301 hx hZ (hw _ (List.mem_of_getElem? (i := 23) rfl)) e301 (g := (mkF m 4 #[.val (.int (Int32.ofNat n))] [(.int (Int32.ofNat (2 * n)))])) rfl (hb hby d_jdk_52_method_2_code_4) rfl ((own_nlt (Nat.zero_le _) (by omega)) : ¬ ((Int32.ofNat (2 * n)) < (0 : Int32))) (cap := 8) ((by rw [own_clamp (by omega)]; omega) : (Int32.ofNat (2 * n)).toNatClampNeg ≤ 8) (by decide) (by decide) (by decide)
  obtain ⟨b302, g302⟩ : ∃ z, z = h0.size := ⟨_, rfl⟩
  rw [← g302] at A302 st302
  have V302 : Arv Z h302 b302 ky302 .byte (Int32.ofNat (2 * n)) [] (.int (0 : Int32)) := Arv.new A302 (own_nlt (Nat.zero_le _) (by omega))
  have U302 : Arv Z h302 b302 ky302 .byte (Int32.ofNat (2 * n)) (List.replicate (2 * n) (.int (0 : Int32))) (.int (0 : Int32)) := V302.pad (pad_rep [] (.int (0 : Int32)) (2 * n))
  obtain ⟨fs, hr, hrun, hended, hW, hsame⟩ := X302.leave (v := some (.ref b302)) (fun h => by rw [Bd.returns] at h; cases h)
  refine ⟨_, _, pre0 _ ?_, hrun, hended, _, _, rfl, ?_, ⟨_, rfl⟩, hW, hsame.mono (by decide) (by decide)⟩
  · refine XS.iloadN X0.here hx rfl (hb hby d_jdk_52_method_2_code_0) rfl ?_
    show Steps p.tables e below (s₁.setTop (mkF m 1 #[.val (.int (Int32.ofNat n))] [(.int (Int32.ofNat n))])) _
    refine st301 _ ?_
    show Steps p.tables e below (T301.setTop (mkF m 4 #[.val (.int (Int32.ofNat n))] [(.int (Int32.ofNat (2 * n)))])) _
    refine st302 _ ?_
    show Steps p.tables e below (T302.setTop (mkF m 6 #[.val (.int (Int32.ofNat n))] [(.ref b302)])) _
    jvm_step X302.here [X302.here.top, hx, (hb hby d_jdk_52_method_2_code_6), X302.method', Bd.returns, Value.isRef, FieldType.isReference]
    first | (intro acts; rw [hr _ acts rfl rfl rfl]) | rw [hr _ _ rfl rfl rfl]
    exact Steps.refl _
  · show Q_nbf Z n h0 n0 _ T302.heap _
    rw [e302]
    exact ⟨b302, ky302, rfl, N301, ((Keep.refl h0 ([] : List Addr)).ext E302), (Nat.le_trans (Nat.le_refl _) (Nat.le_of_eq g302.symm)), U302⟩
theorem d_jdk_52_method_14_code_8 : decode jdk_52_method_14_code 8 = .ok (.iload 4, 2) := by decide +kernel
theorem d_jdk_52_method_14_code_10 : decode jdk_52_method_14_code 10 = .ok (.iload_n 2, 1) := by decide +kernel
theorem d_jdk_52_method_14_code_11 : decode jdk_52_method_14_code 11 = .ok (.if_icmp .ge 21, 3) := by decide +kernel
theorem d_jdk_52_method_14_code_14 : decode jdk_52_method_14_code 14 = .ok (.aload_n 3, 1) := by decide +kernel
theorem d_jdk_52_method_14_code_15 : decode jdk_52_method_14_code 15 = .ok (.iload 4, 2) := by decide +kernel
theorem d_jdk_52_method_14_code_17 : decode jdk_52_method_14_code 17 = .ok (.aload_n 0, 1) := by decide +kernel
theorem d_jdk_52_method_14_code_18 : decode jdk_52_method_14_code 18 = .ok (.iload_n 1, 1) := by decide +kernel
theorem d_jdk_52_method_14_code_19 : decode jdk_52_method_14_code 19 = .ok (.caload, 1) := by decide +kernel
theorem d_jdk_52_method_14_code_20 : decode jdk_52_method_14_code 20 = .ok (.invokestatic 111, 3) := by decide +kernel
theorem pd_1 : parseMethodDescriptor "([BII)V" = some ⟨[(.array .byte), .int, .int], none⟩ := by decide +kernel
theorem d_jdk_52_method_14_code_23 : decode jdk_52_method_14_code 23 = .ok (.iinc 1 1, 3) := by decide +kernel
theorem d_jdk_52_method_14_code_26 : decode jdk_52_method_14_code 26 = .ok (.iinc 4 1, 3) := by decide +kernel
theorem d_jdk_52_method_14_code_29 : decode jdk_52_method_14_code 29 = .ok (.goto (-21), 3) := by decide +kernel
set_option maxRecDepth 65536 in
set_option maxHeartbeats 40000000 in
theorem lp_toB {p : Program} {l : Launch} {e : Env} {R : Room} {s : State} {m : MethodId} {args : Array Value} {below : List Frame} {meth : Method} {c : Code} {cells slots : Nat} {Z : State} {a0 : Array Value} {n0 : Nat} (ca : Addr) (kc : ClassId) (cs : List Int32) (dv : Value) (dd : Addr) (kd : ClassId) (o : Nat) (n : Nat) (ds : List Int32) (ie : Nat) (je : Nat) (hx : p.tables.exec = Jvm.exec) (hZ : Z.Warmed39 s.vm) (hw : ∀ d ∈ tables_1, d.before a0 Z = true) (hby : c.code = jdk_52_method_14_code) (hml : c.maxLocals = 5) (hown : s.vm.findClass "java/lang/StringUTF16" = some m.cls) (hcl : cells ≤ R.cells) (hsl : slots ≤ R.slots) (hfr : 1 ≤ R.frames) (hlo : 14 ≤ R.locals) (hN : cs.length < 2 ^ 31) (hy1 : Sta Z Z.heap "java/lang/StringUTF16" "$assertionsDisabled" "Z" (.int (1 : Int32))) (hy2 : Sta Z Z.heap "java/lang/StringUTF16" "HI_BYTE_SHIFT" "I" (.int (0 : Int32))) (hy3 : Sta Z Z.heap "java/lang/StringUTF16" "LO_BYTE_SHIFT" "I" (.int (8 : Int32))) (hy4 : n0 ≤ dd) (hy5 : ca ≠ dd) (hcap : n ≤ 4) (hie : ie = n) (hon : o + n ≤ cs.length) (hds : ds.length = n) (hdc : ∀ q, q < n → ds.getD q 0 = cs.getD (o + q) 0) :
    ∀ (k : Nat) (i : Nat) (j : Nat) (vs : List Value) (T0 : State) (h0 : Heap) (locs : List Loc), Stand p l e R s m args below meth c T0 locs cells slots → T0.heap = h0 → Fr n0 locs → n0 ≤ h0.size → Arv Z h0 ca kc .char (Int32.ofNat cs.length) (cs.map Value.int) dv → Arv Z h0 dd kd .byte (Int32.ofNat (2 * n)) vs (.int (0 : Int32)) → Old Z n0 h0 → (i + k = ie) → (j + k = je) → (j = o + i) → (vs = StrChars.Road.wideBytes (ds.take i) ++ List.replicate (2 * (n - i)) (.int (0 : Int32))) → ∃ (T' : State) (h' : Heap) (locs' : List Loc), Stand p l e R s m args below meth c T' locs' cells slots ∧ T'.heap = h' ∧ Fr n0 locs' ∧ Keep h0 h' ([dd] : List Addr) ∧ (Arv Z h' dd kd .byte (Int32.ofNat (2 * n)) (StrChars.Road.wideBytes ds) (.int (0 : Int32))) ∧ ∀ t, Steps p.tables e below (T'.setTop (mkF m 32 #[.val (.ref ca), .val (.int (Int32.ofNat je)), .val (.int (Int32.ofNat n)), .val (.ref dd), .val (.int (Int32.ofNat ie))] [])) t → Steps p.tables e below (T0.setTop (mkF m 8 #[.val (.ref ca), .val (.int (Int32.ofNat j)), .val (.int (Int32.ofNat n)), .val (.ref dd), .val (.int (Int32.ofNat i))] [])) t := by
  intro k
  induction k with
  | zero =>
    intro i j vs T0 h0 locs X0 e0 N0 Z0 q0 q1 q2 hik hjk hjo hvs
    have pre0 : ∀ t, Steps p.tables e below (T0.setTop (mkF m 8 #[.val (.ref ca), .val (.int (Int32.ofNat j)), .val (.int (Int32.ofNat n)), .val (.ref dd), .val (.int (Int32.ofNat i))] [])) t → Steps p.tables e below (T0.setTop (mkF m 8 #[.val (.ref ca), .val (.int (Int32.ofNat j)), .val (.int (Int32.ofNat n)), .val (.ref dd), .val (.int (Int32.ofNat i))] [])) t := fun _ kk => kk
    have hi' : i = n := by omega
    have hi2 : i = ie := by omega
    have hj2 : j = je := by omega
    have hv' : vs = StrChars.Road.wideBytes ds := by rw [hvs, hi', Nat.sub_self, List.take_of_length_le (by omega)]; simp
    have R301 : Arv Z h0 dd kd .byte (Int32.ofNat (2 * n)) (StrChars.Road.wideBytes ds) (.int (0 : Int32)) := by have q := q1; rw [hv'] at q; exact q
    have pre302 : ∀ t, Steps p.tables e below (T0.setTop (mkF m 32 #[.val (.ref ca), .val (.int (Int32.ofNat j)), .val (.int (Int32.ofNat n)), .val (.ref dd), .val (.int (Int32.ofNat i))] [])) t → Steps p.tables e below (T0.setTop (mkF m 8 #[.val (.ref ca), .val (.int (Int32.ofNat j)), .val (.int (Int32.ofNat n)), .val (.ref dd), .val (.int (Int32.ofNat i))] [])) t := fun t kk => pre0 t (by
      refine XS.iload X0.here hx rfl (hb hby d_jdk_52_method_14_code_8) rfl ?_
      show Steps p.tables e below (T0.setTop (mkF m 10 #[.val (.ref ca), .val (.int (Int32.ofNat j)), .val (.int (Int32.ofNat n)), .val (.ref dd), .val (.int (Int32.ofNat i))] [(.int (Int32.ofNat i))])) _
      refine XS.iloadN X0.here hx rfl (hb hby d_jdk_52_method_14_code_10) rfl ?_
      show Steps p.tables e below (T0.setTop (mkF m 11 #[.val (.ref ca), .val (.int (Int32.ofNat j)), .val (.int (Int32.ofNat n)), .val (.ref dd), .val (.int (Int32.ofNat i))] [(.int (Int32.ofNat n)), (.int (Int32.ofNat i))])) _
      refine XS.icmpYes X0.here hx rfl (pc0 := 11) (pc' := 32) rfl (hb hby d_jdk_52_method_14_code_11) rfl (flt ((own_nlt (by omega) (by omega)) : ¬ ((Int32.ofNat i) < (Int32.ofNat n)))).2.1 (by decide) (by decide) ?_
      show Steps p.tables e below (T0.setTop (mkF m 32 #[.val (.ref ca), .val (.int (Int32.ofNat j)), .val (.int (Int32.ofNat n)), .val (.ref dd), .val (.int (Int32.ofNat i))] [])) _
      exact kk)
    exact ⟨T0, h0, _, X0, e0, N0, (Keep.refl h0 ([dd] : List Addr)), R301, (by rw [← hi2, ← hj2]; exact pre302)⟩
  | succ k ih =>
    intro i j vs T0 h0 locs X0 e0 N0 Z0 q0 q1 q2 hik hjk hjo hvs
    have pre0 : ∀ t, Steps p.tables e below (T0.setTop (mkF m 8 #[.val (.ref ca), .val (.int (Int32.ofNat j)), .val (.int (Int32.ofNat n)), .val (.ref dd), .val (.int (Int32.ofNat i))] [])) t → Steps p.tables e below (T0.setTop (mkF m 8 #[.val (.ref ca), .val (.int (Int32.ofNat j)), .val (.int (Int32.ofNat n)), .val (.ref dd), .val (.int (Int32.ofNat i))] [])) t := fun _ kk => kk
    have hj' : j < cs.length := by omega
    have hdi : ds.getD i 0 = cs.getD j 0 := by rw [hdc i (by omega), hjo]
    have hvl : vs.length = 2 * n := by rw [hvs, List.length_append, own_widelen, List.length_take, List.length_replicate]; omega
    obtain ⟨cl301, Ar301, qq301, S301, M301, Hh301, U301⟩ := id q0
    have ib301 : ¬ ((Int32.ofNat j) < 0 ∨ cl301.slots.size ≤ ((Int32.ofNat j)).toNatClampNeg) := inb_of S301 (own_inb hj' hN)
    obtain ⟨_, _, ⟨T302, L302, k302, n302⟩, -, X302, ⟨Lc302, hQ302, l302, y302, z302⟩, st302⟩ := Jvm.LawKit.callS X0 hx (y := (⟨"java/lang/StringUTF16", "putChar", "([BII)V"⟩ : MethodName)) hown (mvT hZ (hw _ (List.mem_of_getElem? (i := 75) rfl))) (mvT hZ (hw _ (List.mem_of_getElem? (i := 76) rfl))) (mvT hZ (hw _ (List.mem_of_getElem? (i := 21) rfl))) (mvT hZ (hw _ (List.mem_of_getElem? (i := 77) rfl))) (by decide) (backOf (W := 0) (rm_putCh l Z a0 hw [] dd i (cs.getD j 0) kd (2 * n) vs h0 n0 Z0 hy1 hy2 hy3 q2 q1 hy4 (by omega) (by omega) (hvl)) hZ (hw _ (List.mem_of_getElem? (i := 77) rfl)) (hw _ (List.mem_of_getElem? (i := 21) rfl)) (Nat.le_trans (by decide) hfr) (Nat.le_trans (by decide) hlo)) (g := (mkF m 20 #[.val (.ref ca), .val (.int (Int32.ofNat j)), .val (.int (Int32.ofNat n)), .val (.ref dd), .val (.int (Int32.ofNat i))] [(.int (cs.getD j 0)), (.int (Int32.ofNat i)), (.ref dd)])) rfl (by rw [hml]; rfl) (argsL := [(.ref dd), (.int (Int32.ofNat i)), (.int (cs.getD j 0))]) (rest := []) (lenOf pd_1 rfl) rfl (by show 2 * 0 + _ ≤ _; exact Nat.le_of_eq rfl) (hb hby d_jdk_52_method_14_code_20) (fun _ _ => ⟨rfl, e0, hcl, hsl⟩)
    dsimp only [Pt.U, Pt.locs, Pt.cells, Pt.slots] at X302 l302 y302 z302 st302 hQ302
    subst l302 y302 z302
    obtain ⟨rfl, Nq302, K302, f302_0⟩ := hQ302
    have N302 := Fr.app N0 Nq302
    have pre303 : ∀ t, Steps p.tables e below (T302.setTop (mkF m 8 #[.val (.ref ca), .val (.int ((Int32.ofNat j) + (1 : Int32))), .val (.int (Int32.ofNat n)), .val (.ref dd), .val (.int ((Int32.ofNat i) + (1 : Int32)))] [])) t → Steps p.tables e below (T0.setTop (mkF m 8 #[.val (.ref ca), .val (.int (Int32.ofNat j)), .val (.int (Int32.ofNat n)), .val (.ref dd), .val (.int (Int32.ofNat i))] [])) t := fun t kk => pre0 t (by
      refine XS.iload X0.here hx rfl (hb hby d_jdk_52_method_14_code_8) rfl ?_
      show Steps p.tables e below (T0.setTop (mkF m 10 #[.val (.ref ca), .val (.int (Int32.ofNat j)), .val (.int (Int32.ofNat n)), .val (.ref dd), .val (.int (Int32.ofNat i))] [(.int (Int32.ofNat i))])) _
      refine XS.iloadN X0.here hx rfl (hb hby d_jdk_52_method_14_code_10) rfl ?_
      show Steps p.tables e below (T0.setTop (mkF m 11 #[.val (.ref ca), .val (.int (Int32.ofNat j)), .val (.int (Int32.ofNat n)), .val (.ref dd), .val (.int (Int32.ofNat i))] [(.int (Int32.ofNat n)), (.int (Int32.ofNat i))])) _
      refine XS.icmpNo X0.here hx rfl (hb hby d_jdk_52_method_14_code_11) rfl (tlt ((own_inb (by omega) (by omega)).2 : (Int32.ofNat i) < (Int32.ofNat n))).2.1 ?_
      show Steps p.tables e below (T0.setTop (mkF m 14 #[.val (.ref ca), .val (.int (Int32.ofNat j)), .val (.int (Int32.ofNat n)), .val (.ref dd), .val (.int (Int32.ofNat i))] [])) _
      refine XS.aloadN X0.here hx rfl (hb hby d_jdk_52_method_14_code_14) rfl rfl ?_
      show Steps p.tables e below (T0.setTop (mkF m 15 #[.val (.ref ca), .val (.int (Int32.ofNat j)), .val (.int (Int32.ofNat n)), .val (.ref dd), .val (.int (Int32.ofNat i))] [(.ref dd)])) _
      refine XS.iload X0.here hx rfl (hb hby d_jdk_52_method_14_code_15) rfl ?_
      show Steps p.tables e below (T0.setTop (mkF m 17 #[.val (.ref ca), .val (.int (Int32.ofNat j)), .val (.int (Int32.ofNat n)), .val (.ref dd), .val (.int (Int32.ofNat i))] [(.int (Int32.ofNat i)), (.ref dd)])) _
      refine XS.aloadN X0.here hx rfl (hb hby d_jdk_52_method_14_code_17) rfl rfl ?_
      show Steps p.tables e below (T0.setTop (mkF m 18 #[.val (.ref ca), .val (.int (Int32.ofNat j)), .val (.int (Int32.ofNat n)), .val (.ref dd), .val (.int (Int32.ofNat i))] [(.ref ca), (.int (Int32.ofNat i)), (.ref dd)])) _
      refine XS.iloadN X0.here hx rfl (hb hby d_jdk_52_method_14_code_18) rfl ?_
      show Steps p.tables e below (T0.setTop (mkF m 19 #[.val (.ref ca), .val (.int (Int32.ofNat j)), .val (.int (Int32.ofNat n)), .val (.ref dd), .val (.int (Int32.ofNat i))] [(.int (Int32.ofNat j)), (.ref ca), (.int (Int32.ofNat i)), (.ref dd)])) _
      refine X0.caload hx (j := (Int32.ofNat j)) (v := (.int (cs.getD j 0))) (by rw [e0]; exact Ar301.1) (State.isArrayOf_alike hZ.alike Ar301.2.1) Ar301.2.2 ib301 (Hh301.at ib301 (own_mapat hj' hN)) (g := (mkF m 19 #[.val (.ref ca), .val (.int (Int32.ofNat j)), .val (.int (Int32.ofNat n)), .val (.ref dd), .val (.int (Int32.ofNat i))] [(.int (Int32.ofNat j)), (.ref ca), (.int (Int32.ofNat i)), (.ref dd)])) rfl rfl (hb hby d_jdk_52_method_14_code_19) _ ?_
      show Steps p.tables e below (T0.setTop (mkF m 20 #[.val (.ref ca), .val (.int (Int32.ofNat j)), .val (.int (Int32.ofNat n)), .val (.ref dd), .val (.int (Int32.ofNat i))] [(.int (cs.getD j 0)), (.int (Int32.ofNat i)), (.ref dd)])) _
      refine st302 _ ?_
      show Steps p.tables e below (T302.setTop (mkF m 23 #[.val (.ref ca), .val (.int (Int32.ofNat j)), .val (.int (Int32.ofNat n)), .val (.ref dd), .val (.int (Int32.ofNat i))] [])) _
      refine XS.iinc X302.here hx rfl (hb hby d_jdk_52_method_14_code_23) rfl (l' := #[.val (.ref ca), .val (.int ((Int32.ofNat j) + (1 : Int32))), .val (.int (Int32.ofNat n)), .val (.ref dd), .val (.int (Int32.ofNat i))]) rfl ?_
      show Steps p.tables e below (T302.setTop (mkF m 26 #[.val (.ref ca), .val (.int ((Int32.ofNat j) + (1 : Int32))), .val (.int (Int32.ofNat n)), .val (.ref dd), .val (.int (Int32.ofNat i))] [])) _
      refine XS.iinc X302.here hx rfl (hb hby d_jdk_52_method_14_code_26) rfl (l' := #[.val (.ref ca), .val (.int ((Int32.ofNat j) + (1 : Int32))), .val (.int (Int32.ofNat n)), .val (.ref dd), .val (.int ((Int32.ofNat i) + (1 : Int32)))]) rfl ?_
      show Steps p.tables e below (T302.setTop (mkF m 29 #[.val (.ref ca), .val (.int ((Int32.ofNat j) + (1 : Int32))), .val (.int (Int32.ofNat n)), .val (.ref dd), .val (.int ((Int32.ofNat i) + (1 : Int32)))] [])) _
      refine XS.goto X302.here hx rfl (pc0 := 29) (pc' := 8) rfl (hb hby d_jdk_52_method_14_code_29) (by decide) (by decide) ?_
      show Steps p.tables e below (T302.setTop (mkF m 8 #[.val (.ref ca), .val (.int ((Int32.ofNat j) + (1 : Int32))), .val (.int (Int32.ofNat n)), .val (.ref dd), .val (.int ((Int32.ofNat i) + (1 : Int32)))] [])) _
      exact kk)
    have c304 : Arv Z T302.heap ca kc .char (Int32.ofNat cs.length) (cs.map Value.int) dv := (q0.keep K302 (ninS hy5 nin0))
    have c305 : Old Z n0 T302.heap := (q2.keep K302 (allS hy4 all0))
    have preH : ∀ t, Steps p.tables e below (T302.setTop (mkF m 8 #[.val (.ref ca), .val (.int (Int32.ofNat (j + 1))), .val (.int (Int32.ofNat n)), .val (.ref dd), .val (.int (Int32.ofNat (i + 1)))] [])) t → Steps p.tables e below (T0.setTop (mkF m 8 #[.val (.ref ca), .val (.int (Int32.ofNat j)), .val (.int (Int32.ofNat n)), .val (.ref dd), .val (.int (Int32.ofNat i))] [])) t := by
      rw [inc_ofNat i, inc_ofNat j]
      exact pre303
    obtain ⟨T9, h9, lo9, X9, e9, N9, K9, g9_0, pre9⟩ := ih ((i + 1)) ((j + 1)) (((vs.set (2 * i) (.int (StrChars.lo8 (cs.getD j 0)))).set (2 * i + 1) (.int (StrChars.hi8 (cs.getD j 0))))) T302 T302.heap _ X302 rfl N302 (Nat.le_trans Z0 K302.1) c304 f302_0 c305 (by omega) (by omega) (by omega) (by rw [← hdi, hvs]; exact own_widestep hds (by omega) _)
    exact ⟨T9, h9, _, X9, e9, N9, (((Keep.refl h0 ([dd] : List Addr)).trans K302 (allS (Or.inl (by simp)) all0)).trans K9 (allS (Or.inl (by simp)) all0)), g9_0, fun t kk => preH t (pre9 t kk)⟩
theorem d_jdk_52_method_14_code_0 : decode jdk_52_method_14_code 0 = .ok (.iload_n 2, 1) := by decide +kernel
theorem d_jdk_52_method_14_code_1 : decode jdk_52_method_14_code 1 = .ok (.invokestatic 107, 3) := by decide +kernel
theorem pd_2 : parseMethodDescriptor "(I)[B" = some ⟨[.int], some (.array .byte)⟩ := by decide +kernel
theorem d_jdk_52_method_14_code_4 : decode jdk_52_method_14_code 4 = .ok (.astore_n 3, 1) := by decide +kernel
theorem d_jdk_52_method_14_code_5 : decode jdk_52_method_14_code 5 = .ok (.iconst 0, 1) := by decide +kernel
theorem d_jdk_52_method_14_code_6 : decode jdk_52_method_14_code 6 = .ok (.istore 4, 2) := by decide +kernel
theorem d_jdk_52_method_14_code_32 : decode jdk_52_method_14_code 32 = .ok (.aload_n 3, 1) := by decide +kernel
theorem d_jdk_52_method_14_code_33 : decode jdk_52_method_14_code 33 = .ok (.areturn, 1) := by decide +kernel
theorem ef_4 (m : MethodId) (x0 : Addr) (x1 : Int32) (x2 : Int32) : entryFrame m #[(.ref x0), (.int x1), (.int x2)] 5 = mkF m 0 #[.val (.ref x0), .val (.int x1), .val (.int x2), .unset, .unset] [] := by first | (simp [entryFrame, mkF, argsToLocals, Value.category]; done) | rfl
def Q_toByt (Z : State) (ca : Addr) (kc : ClassId) (cs : List Int32) (dv : Value) (o : Nat) (n : Nat) (ds : List Int32) (h0 : Heap) (n0 : Nat) (v : Option Value) (h : Heap) (L : List Loc) : Prop := ∃ (tt : Addr) (kt : ClassId), (v = some (.ref tt)) ∧ (Fr n0 L) ∧ (Keep h0 h ([] : List Addr)) ∧ (h0.size ≤ tt) ∧ (Arv Z h tt kt .byte (Int32.ofNat (2 * n)) (StrChars.Road.wideBytes ds) (.int (0 : Int32)))
set_option maxRecDepth 65536 in
set_option maxHeartbeats 40000000 in
theorem rm_toByt (l : Launch) (Z : State) (a0 : Array Value) (hw : ∀ d ∈ tables_1, d.before a0 Z = true) (ws : List Jvm.Cond) (ca : Addr) (kc : ClassId) (cs : List Int32) (dv : Value) (o : Nat) (n : Nat) (ds : List Int32) (h0 : Heap) (n0 : Nat) (Z0 : n0 ≤ h0.size) (q0 : Arv Z h0 ca kc .char (Int32.ofNat cs.length) (cs.map Value.int) dv) (hN : cs.length < 2 ^ 31) (q2 : Sta Z Z.heap "java/lang/StringUTF16" "$assertionsDisabled" "Z" (.int (1 : Int32))) (q3 : Sta Z Z.heap "java/lang/StringUTF16" "HI_BYTE_SHIFT" "I" (.int (0 : Int32))) (q4 : Sta Z Z.heap "java/lang/StringUTF16" "LO_BYTE_SHIFT" "I" (.int (8 : Int32))) (q5 : Old Z n0 h0) (hcap : n ≤ 4) (hon : o + n ≤ cs.length) (hds : ds.length = n) (hdc : ∀ q, q < n → ds.getD q 0 = cs.getD (o + q) 0) :
    MetFree l (⟨"java/lang/StringUTF16", "toBytes", "([CII)[B"⟩ : MethodName) (head1 (Jvm.Cond.code (⟨"java/lang/StringUTF16", "toBytes", "([CII)[B"⟩ : MethodName) jdk_52_method_14_code 5 (some (.array .byte)) :: ws) ({ frames := 2, cells := 1, slots := 8, locals := 24 } : Room)) (fun a₁ U₁ => a₁ = #[(.ref ca), (.int (Int32.ofNat o)), (.int (Int32.ofNat n))] ∧ Z.Warmed39 U₁.vm ∧ U₁.heap = h0) (fun _ _ _ _ _ => True) (fun _ U₁ o₁ U₂ => ∃ v₁ L₁, o₁ = .returned v₁ ∧ Q_toByt Z ca kc cs dv o n ds h0 n0 v₁ U₂.heap L₁ ∧ FrameEnd U₁ o₁ U₂ L₁ ({ frames := 2, cells := 1, slots := 8, locals := 24 } : Room).cells ({ frames := 2, cells := 1, slots := 8, locals := 24 } : Room).slots) := by
  refine MetFree.of_bodySF (plainFor_of_name pn_0) hisR ?_
  intro p e s m args below meth c s₁ Bd hml0 hP hK
  obtain ⟨rfl, hZ, hh⟩ := hP
  have hx := Bd.exec
  have hby := Bd.bytes
  have hml : c.maxLocals = 5 := hml0
  have hown : s.vm.findClass "java/lang/StringUTF16" = some m.cls := findClass_of_methodNamed Bd.named
  have hnm := (name_of_methodNamed Bd.named Bd.method).1
  have X0 : Stand p l e ({ frames := 2, cells := 1, slots := 8, locals := 24 } : Room) s m #[(.ref ca), (.int (Int32.ofNat o)), (.int (Int32.ofNat n))] below meth c s₁ [] 0 0 := Stand.of_body Bd
  have e0 : s₁.heap = h0 := by rw [← hh, Bd.state]; rfl
  have N0 := Fr.nil n0
  have pre0 : ∀ t, Steps p.tables e below (s₁.setTop (mkF m 0 #[.val (.ref ca), .val (.int (Int32.ofNat o)), .val (.int (Int32.ofNat n)), .unset, .unset] [])) t → Steps p.tables e below (s₁.setTop (entryFrame m #[(.ref ca), (.int (Int32.ofNat o)), (.int (Int32.ofNat n))] 5)) t := fun t k => castTop (ef_4 m ca (Int32.ofNat o) (Int32.ofNat n)) k
  obtain ⟨_, _, ⟨T301, L301, k301, n301⟩, -, X301, ⟨Lc301, hQ301, l301, y301, z301⟩, st301⟩ := Jvm.LawKit.callS X0 hx (y := (⟨"java/lang/StringUTF16", "newBytesFor", "(I)[B"⟩ : MethodName)) hown (mvT hZ (hw _ (List.mem_of_getElem? (i := 68) rfl))) (mvT hZ (hw _ (List.mem_of_getElem? (i := 69) rfl))) (mvT hZ (hw _ (List.mem_of_getElem? (i := 21) rfl))) (mvT hZ (hw _ (List.mem_of_getElem? (i := 70) rfl))) (by decide) (backOf (W := 0) (rm_nbf l Z a0 hw [] n h0 n0 Z0 hcap) hZ (hw _ (List.mem_of_getElem? (i := 70) rfl)) (hw _ (List.mem_of_getElem? (i := 21) rfl)) (by decide) (by decide)) (g := (mkF m 1 #[.val (.ref ca), .val (.int (Int32.ofNat o)), .val (.int (Int32.ofNat n)), .unset, .unset] [(.int (Int32.ofNat n))])) rfl (by rw [hml]; rfl) (argsL := [(.int (Int32.ofNat n))]) (rest := []) (lenOf pd_2 rfl) rfl (by show 2 * 0 + _ ≤ _; exact Nat.le_of_eq rfl) (hb hby d_jdk_52_method_14_code_1) (fun _ _ => ⟨rfl, e0, (by decide : 0 + 1 ≤ _), (by decide : 0 + 8 ≤ _)⟩)
  dsimp only [Pt.U, Pt.locs, Pt.cells, Pt.slots] at X301 l301 y301 z301 st301 hQ301
  subst l301 y301 z301
  obtain ⟨tt_301, kt_301, rfl, Nq301, K301, f301_0, f301_1⟩ := hQ301
  have N301 := Fr.app N0 Nq301
  have pre302 : ∀ t, Steps p.tables e below (T301.setTop (mkF m 8 #[.val (.ref ca), .val (.int (Int32.ofNat o)), .val (.int (Int32.ofNat n)), .val (.ref tt_301), .val (.int (0 : Int32))] [])) t → Steps p.tables e below (s₁.setTop (entryFrame m #[(.ref ca), (.int (Int32.ofNat o)), (.int (Int32.ofNat n))] 5)) t := fun t kk => pre0 t (by
    refine XS.iloadN X0.here hx rfl (hb hby d_jdk_52_method_14_code_0) rfl ?_
    show Steps p.tables e below (s₁.setTop (mkF m 1 #[.val (.ref ca), .val (.int (Int32.ofNat o)), .val (.int (Int32.ofNat n)), .unset, .unset] [(.int (Int32.ofNat n))])) _
    refine st301 _ ?_
    show Steps p.tables e below (T301.setTop (mkF m 4 #[.val (.ref ca), .val (.int (Int32.ofNat o)), .val (.int (Int32.ofNat n)), .unset, .unset] [(.ref tt_301)])) _
    refine XS.astoreN X301.here hx rfl (hb hby d_jdk_52_method_14_code_4) rfl rfl (l' := #[.val (.ref ca), .val (.int (Int32.ofNat o)), .val (.int (Int32.ofNat n)), .val (.ref tt_301), .unset]) rfl ?_
    show Steps p.tables e below (T301.setTop (mkF m 5 #[.val (.ref ca), .val (.int (Int32.ofNat o)), .val (.int (Int32.ofNat n)), .val (.ref tt_301), .unset] [])) _
    refine XS.iconst X301.here hx rfl (hb hby d_jdk_52_method_14_code_5) ?_
    show Steps p.tables e below (T301.setTop (mkF m 6 #[.val (.ref ca), .val (.int (Int32.ofNat o)), .val (.int (Int32.ofNat n)), .val (.ref tt_301), .unset] [(.int (0 : Int32))])) _
    refine XS.istore X301.here hx rfl (hb hby d_jdk_52_method_14_code_6) rfl (l' := #[.val (.ref ca), .val (.int (Int32.ofNat o)), .val (.int (Int32.ofNat n)), .val (.ref tt_301), .val (.int (0 : Int32))]) rfl ?_
    show Steps p.tables e below (T301.setTop (mkF m 8 #[.val (.ref ca), .val (.int (Int32.ofNat o)), .val (.int (Int32.ofNat n)), .val (.ref tt_301), .val (.int (0 : Int32))] [])) _
    exact kk)
  have c303 : Arv Z T301.heap ca kc .char (Int32.ofNat cs.length) (cs.map Value.int) dv := (q0.keep K301 nin0)
  have ge304 : n0 ≤ tt_301 := Nat.le_trans Z0 (Nat.le_trans (Nat.le_refl _) f301_0)
  have ne305 : ca ≠ tt_301 := Nat.ne_of_lt (Nat.lt_of_lt_of_le q0.lt f301_0)
  have c306 : Old Z n0 T301.heap := (q5.keep K301 all0)
  have preh307 : ∀ t, Steps p.tables e below (T301.setTop (mkF m 8 #[.val (.ref ca), .val (.int (Int32.ofNat o)), .val (.int (Int32.ofNat n)), .val (.ref tt_301), .val (.int (Int32.ofNat 0))] [])) t → Steps p.tables e below (s₁.setTop (entryFrame m #[(.ref ca), (.int (Int32.ofNat o)), (.int (Int32.ofNat n))] 5)) t := by
    exact pre302
  obtain ⟨T307, h307, lo307, X307, e307, N307, K307, f307_0, st307⟩ := lp_toB (ca) (kc) (cs) (dv) (tt_301) (kt_301) (o) (n) (ds) (n) ((o + n)) hx hZ hw hby hml hown (by decide : 1 ≤ _) (by decide : 8 ≤ _) (by decide) (by decide) hN q2 q3 q4 ge304 ne305 hcap (rfl) hon hds hdc n (0) (o) ((List.replicate (2 * n) (.int (0 : Int32)))) T301 T301.heap _ X301 rfl N301 (Nat.le_trans Z0 K301.1) c303 f301_1 c306 (by omega) (rfl) (rfl) (by simp [StrChars.Road.wideBytes])
  obtain ⟨fs, hr, hrun, hended, hW, hsame⟩ := X307.leave (v := some (.ref tt_301)) (fun h => by rw [Bd.returns] at h; cases h)
  refine ⟨_, _, preh307 _ ?_, hrun, hended, _, _, rfl, ?_, ⟨_, rfl⟩, hW, hsame.mono (by decide) (by decide)⟩
  · refine st307 _ ?_
    show Steps p.tables e below (T307.setTop (mkF m 32 #[.val (.ref ca), .val (.int (Int32.ofNat (o + n))), .val (.int (Int32.ofNat n)), .val (.ref tt_301), .val (.int (Int32.ofNat n))] [])) _
    refine XS.aloadN X307.here hx rfl (hb hby d_jdk_52_method_14_code_32) rfl rfl ?_
    show Steps p.tables e below (T307.setTop (mkF m 33 #[.val (.ref ca), .val (.int (Int32.ofNat (o + n))), .val (.int (Int32.ofNat n)), .val (.ref tt_301), .val (.int (Int32.ofNat n))] [(.ref tt_301)])) _
    jvm_step X307.here [X307.here.top, hx, (hb hby d_jdk_52_method_14_code_33), X307.method', Bd.returns, Value.isRef, FieldType.isReference]
    first | (intro acts; rw [hr _ acts rfl rfl rfl]) | rw [hr _ _ rfl rfl rfl]
    exact Steps.refl _
  · show Q_toByt Z ca kc cs dv o n ds h0 n0 _ T307.heap _
    rw [e307]
    exact ⟨tt_301, kt_301, rfl, N307, (((Keep.refl h0 ([] : List Addr)).trans K301 all0).trans K307 (allS (Or.inr (Nat.le_trans (Nat.le_refl _) f301_0)) all0)), (Nat.le_trans (Nat.le_refl _) f301_0), f307_0⟩
theorem d_jdk_52_method_16_code_0 : decode jdk_52_method_16_code 0 = .ok (.iload_n 2, 1) := by decide +kernel
theorem d_jdk_52_method_16_code_1 : decode jdk_52_method_16_code 1 = .ok (.newarray .byte, 2) := by decide +kernel
theorem d_jdk_52_method_16_code_3 : decode jdk_52_method_16_code 3 = .ok (.astore_n 3, 1) := by decide +kernel
theorem d_jdk_52_method_16_code_4 : decode jdk_52_method_16_code 4 = .ok (.aload_n 0, 1) := by decide +kernel
theorem d_jdk_52_method_16_code_5 : decode jdk_52_method_16_code 5 = .ok (.iload_n 1, 1) := by decide +kernel
theorem d_jdk_52_method_16_code_6 : decode jdk_52_method_16_code 6 = .ok (.aload_n 3, 1) := by decide +kernel
theorem d_jdk_52_method_16_code_7 : decode jdk_52_method_16_code 7 = .ok (.iconst 0, 1) := by decide +kernel
theorem d_jdk_52_method_16_code_8 : decode jdk_52_method_16_code 8 = .ok (.iload_n 2, 1) := by decide +kernel
theorem d_jdk_52_method_16_code_9 : decode jdk_52_method_16_code 9 = .ok (.invokestatic 115, 3) := by decide +kernel
theorem pd_3 : parseMethodDescriptor "([CI[BII)I" = some ⟨[(.array .char), .int, (.array .byte), .int, .int], some .int⟩ := by decide +kernel
theorem d_jdk_52_method_16_code_12 : decode jdk_52_method_16_code 12 = .ok (.istore 4, 2) := by decide +kernel
theorem d_jdk_52_method_16_code_14 : decode jdk_52_method_16_code 14 = .ok (.iload 4, 2) := by decide +kernel
theorem d_jdk_52_method_16_code_16 : decode jdk_52_method_16_code 16 = .ok (.iload_n 2, 1) := by decide +kernel
theorem d_jdk_52_method_16_code_17 : decode jdk_52_method_16_code 17 = .ok (.if_icmp .eq 40, 3) := by decide +kernel
theorem d_jdk_52_method_16_code_20 : decode jdk_52_method_16_code 20 = .ok (.aload_n 0, 1) := by decide +kernel
theorem d_jdk_52_method_16_code_21 : decode jdk_52_method_16_code 21 = .ok (.iload_n 1, 1) := by decide +kernel
theorem d_jdk_52_method_16_code_22 : decode jdk_52_method_16_code 22 = .ok (.iload_n 2, 1) := by decide +kernel
theorem d_jdk_52_method_16_code_23 : decode jdk_52_method_16_code 23 = .ok (.invokestatic 119, 3) := by decide +kernel
theorem pd_4 : parseMethodDescriptor "([CII)[B" = some ⟨[(.array .char), .int, .int], some (.array .byte)⟩ := by decide +kernel
theorem d_jdk_52_method_16_code_26 : decode jdk_52_method_16_code 26 = .ok (.astore 5, 2) := by decide +kernel
theorem d_jdk_52_method_16_code_28 : decode jdk_52_method_16_code 28 = .ok (.aload 5, 2) := by decide +kernel
theorem d_jdk_52_method_16_code_30 : decode jdk_52_method_16_code 30 = .ok (.iload 4, 2) := by decide +kernel
theorem d_jdk_52_method_16_code_32 : decode jdk_52_method_16_code 32 = .ok (.invokestatic 71, 3) := by decide +kernel
theorem pd_5 : parseMethodDescriptor "([BI)C" = some ⟨[(.array .byte), .int], some .char⟩ := by decide +kernel
theorem d_jdk_52_method_16_code_35 : decode jdk_52_method_16_code 35 = .ok (.sipush 255, 3) := by decide +kernel
theorem d_jdk_52_method_16_code_38 : decode jdk_52_method_16_code 38 = .ok (.if_icmp .gt 16, 3) := by decide +kernel
theorem d_jdk_52_method_16_code_54 : decode jdk_52_method_16_code 54 = .ok (.aload 5, 2) := by decide +kernel
theorem d_jdk_52_method_16_code_56 : decode jdk_52_method_16_code 56 = .ok (.areturn, 1) := by decide +kernel
theorem ef_5 (m : MethodId) (x0 : Addr) (x1 : Int32) (x2 : Int32) : entryFrame m #[(.ref x0), (.int x1), (.int x2)] 6 = mkF m 0 #[.val (.ref x0), .val (.int x1), .val (.int x2), .unset, .unset, .unset] [] := by first | (simp [entryFrame, mkF, argsToLocals, Value.category]; done) | rfl
def Q_cmp3w (Z : State) (ca : Addr) (kc : ClassId) (cs : List Int32) (dv : Value) (o : Nat) (n : Nat) (rr : Nat) (ds : List Int32) (h0 : Heap) (n0 : Nat) (v : Option Value) (h : Heap) (L : List Loc) : Prop := ∃ (tt : Addr) (kt : ClassId), (v = some (.ref tt)) ∧ (Fr n0 L) ∧ (Keep h0 h ([] : List Addr)) ∧ (h0.size ≤ tt) ∧ (Arv Z h tt kt .byte (Int32.ofNat (2 * n)) (StrChars.Road.wideBytes ds) (.int (0 : Int32)))
set_option maxRecDepth 65536 in
set_option maxHeartbeats 40000000 in
theorem rm_cmp3w (l : Launch) (Z : State) (a0 : Array Value) (hw : ∀ d ∈ tables_1, d.before a0 Z = true) (ws : List Jvm.Cond) (ca : Addr) (kc : ClassId) (cs : List Int32) (dv : Value) (o : Nat) (n : Nat) (rr : Nat) (ds : List Int32) (h0 : Heap) (n0 : Nat) (Z0 : n0 ≤ h0.size) (q0 : Arv Z h0 ca kc .char (Int32.ofNat cs.length) (cs.map Value.int) dv) (hN : cs.length < 2 ^ 31) (q2 : Sta Z Z.heap "java/lang/StringUTF16" "$assertionsDisabled" "Z" (.int (1 : Int32))) (q3 : Sta Z Z.heap "java/lang/StringUTF16" "HI_BYTE_SHIFT" "I" (.int (0 : Int32))) (q4 : Sta Z Z.heap "java/lang/StringUTF16" "LO_BYTE_SHIFT" "I" (.int (8 : Int32))) (q5 : Old Z n0 h0) (hcap : n ≤ 4) (hon : o + n ≤ cs.length) (hds : ds.length = n) (hdc : ∀ q, q < n → ds.getD q 0 = cs.getD (o + q) 0) (hrn : rr < n) (hlow : ∀ q, q < rr → ¬ (255 : Int32) < cs.getD (o + q) 0) (hwide : (255 : Int32) < cs.getD (o + rr) 0) (hc0 : ¬ cs.getD (o + rr) 0 < 0) (hc1 : ¬ (65535 : Int32) < cs.getD (o + rr) 0) :
    MetFree l (⟨"java/lang/StringUTF16", "compress", "([CII)[B"⟩ : MethodName) (head1 (Jvm.Cond.code (⟨"java/lang/StringUTF16", "compress", "([CII)[B"⟩ : MethodName) jdk_52_method_16_code 6 (some (.array .byte)) :: ws) ({ frames := 3, cells := 2, slots := 12, locals := 40 } : Room)) (fun a₁ U₁ => a₁ = #[(.ref ca), (.int (Int32.ofNat o)), (.int (Int32.ofNat n))] ∧ Z.Warmed39 U₁.vm ∧ U₁.heap = h0) (fun _ _ _ _ _ => True) (fun _ U₁ o₁ U₂ => ∃ v₁ L₁, o₁ = .returned v₁ ∧ Q_cmp3w Z ca kc cs dv o n rr ds h0 n0 v₁ U₂.heap L₁ ∧ FrameEnd U₁ o₁ U₂ L₁ ({ frames := 3, cells := 2, slots := 12, locals := 40 } : Room).cells ({ frames := 3, cells := 2, slots := 12, locals := 40 } : Room).slots) := by
  refine MetFree.of_bodySF (plainFor_of_name pn_0) hisR ?_
  intro p e s m args below meth c s₁ Bd hml0 hP hK
  obtain ⟨rfl, hZ, hh⟩ := hP
  have hx := Bd.exec
  have hby := Bd.bytes
  have hml : c.maxLocals = 6 := hml0
  have hown : s.vm.findClass "java/lang/StringUTF16" = some m.cls := findClass_of_methodNamed Bd.named
  have hnm := (name_of_methodNamed Bd.named Bd.method).1
  have X0 : Stand p l e ({ frames := 3, cells := 2, slots := 12, locals := 40 } : Room) s m #[(.ref ca), (.int (Int32.ofNat o)), (.int (Int32.ofNat n))] below meth c s₁ [] 0 0 := Stand.of_body Bd
  have e0 : s₁.heap = h0 := by rw [← hh, Bd.state]; rfl
  have N0 := Fr.nil n0
  have pre0 : ∀ t, Steps p.tables e below (s₁.setTop (mkF m 0 #[.val (.ref ca), .val (.int (Int32.ofNat o)), .val (.int (Int32.ofNat n)), .unset, .unset, .unset] [])) t → Steps p.tables e below (s₁.setTop (entryFrame m #[(.ref ca), (.int (Int32.ofNat o)), (.int (Int32.ofNat n))] 6)) t := fun t k => castTop (ef_5 m ca (Int32.ofNat o) (Int32.ofNat n)) k
  have hdr : ds.getD rr 0 = cs.getD (o + rr) 0 := hdc rr hrn
  obtain ⟨T301, h301, ky301, X301, e301, E301, A301, st301⟩ := newP X0 hx hZ (hw _ (List.mem_of_getElem? (i := 23) rfl)) e0 (g := (mkF m 1 #[.val (.ref ca), .val (.int (Int32.ofNat o)), .val (.int (Int32.ofNat n)), .unset, .unset, .unset] [(.int (Int32.ofNat n))])) rfl (hb hby d_jdk_52_method_16_code_1) rfl ((own_nlt (Nat.zero_le _) (by omega)) : ¬ ((Int32.ofNat n) < (0 : Int32))) (cap := 4) ((by rw [own_clamp (by omega)]; omega) : (Int32.ofNat n).toNatClampNeg ≤ 4) (by decide) (by decide) (by decide)
  obtain ⟨b301, g301⟩ : ∃ z, z = h0.size := ⟨_, rfl⟩
  rw [← g301] at A301 st301
  have V301 : Arv Z h301 b301 ky301 .byte (Int32.ofNat n) [] (.int (0 : Int32)) := Arv.new A301 (own_nlt (Nat.zero_le _) (by omega))
  have U301 : Arv Z h301 b301 ky301 .byte (Int32.ofNat n) (List.replicate n (.int (0 : Int32))) (.int (0 : Int32)) := V301.pad (pad_rep [] (.int (0 : Int32)) n)
  have c302 : Arv Z h301 ca kc .char (Int32.ofNat cs.length) (cs.map Value.int) dv := (q0.ext E301)
  have ge303 : n0 ≤ b301 := Nat.le_trans Z0 (Nat.le_trans (Nat.le_refl _) (Nat.le_of_eq g301.symm))
  have ne304 : ca ≠ b301 := Nat.ne_of_lt (Nat.lt_of_lt_of_le q0.lt (Nat.le_of_eq g301.symm))
  obtain ⟨_, _, ⟨T305, L305, k305, n305⟩, -, X305, ⟨Lc305, hQ305, l305, y305, z305⟩, st305⟩ := Jvm.LawKit.callS X301 hx (y := (⟨"java/lang/StringUTF16", "compress", "([CI[BII)I"⟩ : MethodName)) hown (mvT hZ (hw _ (List.mem_of_getElem? (i := 24) rfl))) (mvT hZ (hw _ (List.mem_of_getElem? (i := 25) rfl))) (mvT hZ (hw _ (List.mem_of_getElem? (i := 21) rfl))) (mvT hZ (hw _ (List.mem_of_getElem? (i := 26) rfl))) (by decide) (backOf (W := 0) (rm_cmp5w l Z a0 hw [] ca kc cs dv b301 ky301 o n rr (List.replicate n (.int (0 : Int32))) h301 n0 (Nat.le_trans Z0 E301.1) c302 hN U301 ge303 ne304 (by simp) hon hrn hlow hwide) hZ (hw _ (List.mem_of_getElem? (i := 26) rfl)) (hw _ (List.mem_of_getElem? (i := 21) rfl)) (by decide) (by decide)) (g := (mkF m 9 #[.val (.ref ca), .val (.int (Int32.ofNat o)), .val (.int (Int32.ofNat n)), .val (.ref b301), .unset, .unset] [(.int (Int32.ofNat n)), (.int (0 : Int32)), (.ref b301), (.int (Int32.ofNat o)), (.ref ca)])) rfl (by rw [hml]; rfl) (argsL := [(.ref ca), (.int (Int32.ofNat o)), (.ref b301), (.int (0 : Int32)), (.int (Int32.ofNat n))]) (rest := []) (lenOf pd_3 rfl) rfl (by show 2 * 0 + _ ≤ _; exact Nat.le_of_eq rfl) (hb hby d_jdk_52_method_16_code_9) (fun _ _ => ⟨rfl, e301, (by decide : 1 + 0 ≤ _), (by decide : 4 + 0 ≤ _)⟩)
  dsimp only [Pt.U, Pt.locs, Pt.cells, Pt.slots] at X305 l305 y305 z305 st305 hQ305
  subst l305 y305 z305
  obtain ⟨rfl, Nq305, K305⟩ := hQ305
  have N305 := Fr.app N0 Nq305
  have c306 : Arv Z T305.heap ca kc .char (Int32.ofNat cs.length) (cs.map Value.int) dv := (c302.keep K305 (ninS ne304 nin0))
  have c307 : Old Z n0 T305.heap := ((q5.ext E301).keep K305 (allS ge303 all0))
  obtain ⟨_, _, ⟨T308, L308, k308, n308⟩, -, X308, ⟨Lc308, hQ308, l308, y308, z308⟩, st308⟩ := Jvm.LawKit.callS X305 hx (y := (⟨"java/lang/StringUTF16", "toBytes", "([CII)[B"⟩ : MethodName)) hown (mvT hZ (hw _ (List.mem_of_getElem? (i := 65) rfl))) (mvT hZ (hw _ (List.mem_of_getElem? (i := 66) rfl))) (mvT hZ (hw _ (List.mem_of_getElem? (i := 21) rfl))) (mvT hZ (hw _ (List.mem_of_getElem? (i := 67) rfl))) (by decide) (backOf (W := 0) (rm_toByt l Z a0 hw [] ca kc cs dv o n ds T305.heap n0 (Nat.le_trans Z0 (Nat.le_trans E301.1 K305.1)) c306 hN q2 q3 q4 c307 hcap hon hds hdc) hZ (hw _ (List.mem_of_getElem? (i := 67) rfl)) (hw _ (List.mem_of_getElem? (i := 21) rfl)) (by decide) (by decide)) (g := (mkF m 23 #[.val (.ref ca), .val (.int (Int32.ofNat o)), .val (.int (Int32.ofNat n)), .val (.ref b301), .val (.int (Int32.ofNat rr)), .unset] [(.int (Int32.ofNat n)), (.int (Int32.ofNat o)), (.ref ca)])) rfl (by rw [hml]; rfl) (argsL := [(.ref ca), (.int (Int32.ofNat o)), (.int (Int32.ofNat n))]) (rest := []) (lenOf pd_4 rfl) rfl (by show 2 * 0 + _ ≤ _; exact Nat.le_of_eq rfl) (hb hby d_jdk_52_method_16_code_23) (fun _ _ => ⟨rfl, rfl, (by decide : 1 + 1 ≤ _), (by decide : 4 + 8 ≤ _)⟩)
  dsimp only [Pt.U, Pt.locs, Pt.cells, Pt.slots] at X308 l308 y308 z308 st308 hQ308
  subst l308 y308 z308
  obtain ⟨tt_308, kt_308, rfl, Nq308, K308, f308_0, f308_1⟩ := hQ308
  have N308 := Fr.app N305 Nq308
  have c309 : Old Z n0 T308.heap := (c307.keep K308 all0)
  obtain ⟨_, _, ⟨T310, L310, k310, n310⟩, -, X310, ⟨Lc310, hQ310, l310, y310, z310⟩, st310⟩ := Jvm.LawKit.callS X308 hx (y := (⟨"java/lang/StringUTF16", "getChar", "([BI)C"⟩ : MethodName)) hown (mvT hZ (hw _ (List.mem_of_getElem? (i := 81) rfl))) (mvT hZ (hw _ (List.mem_of_getElem? (i := 82) rfl))) (mvT hZ (hw _ (List.mem_of_getElem? (i := 21) rfl))) (mvT hZ (hw _ (List.mem_of_getElem? (i := 83) rfl))) (by decide) (backOf (W := 0) (rm_getCh l Z a0 hw [] tt_308 rr (cs.getD (o + rr) 0) kt_308 (2 * n) (StrChars.Road.wideBytes ds) T308.heap n0 (Nat.le_trans Z0 (Nat.le_trans (Nat.le_trans E301.1 K305.1) K308.1)) q2 q3 q4 c309 f308_1 (by omega) (by omega) (by rw [← hdr]; exact StrChars.Road.wide_lo _ _ _ (by omega)) (by rw [← hdr]; exact StrChars.Road.wide_hi _ _ _ (by omega)) (by first | assumption | decide) (by first | assumption | decide)) hZ (hw _ (List.mem_of_getElem? (i := 83) rfl)) (hw _ (List.mem_of_getElem? (i := 21) rfl)) (by decide) (by decide)) (g := (mkF m 32 #[.val (.ref ca), .val (.int (Int32.ofNat o)), .val (.int (Int32.ofNat n)), .val (.ref b301), .val (.int (Int32.ofNat rr)), .val (.ref tt_308)] [(.int (Int32.ofNat rr)), (.ref tt_308)])) rfl (by rw [hml]; rfl) (argsL := [(.ref tt_308), (.int (Int32.ofNat rr))]) (rest := []) (lenOf pd_5 rfl) rfl (by show 2 * 0 + _ ≤ _; exact Nat.le_of_eq rfl) (hb hby d_jdk_52_method_16_code_32) (fun _ _ => ⟨rfl, rfl, (by decide : 2 + 0 ≤ _), (by decide : 12 + 0 ≤ _)⟩)
  dsimp only [Pt.U, Pt.locs, Pt.cells, Pt.slots] at X310 l310 y310 z310 st310 hQ310
  subst l310 y310 z310
  obtain ⟨rfl, Nq310, e310⟩ := hQ310
  have N310 := Fr.app N308 Nq310
  obtain ⟨fs, hr, hrun, hended, hW, hsame⟩ := X310.leave (v := some (.ref tt_308)) (fun h => by rw [Bd.returns] at h; cases h)
  refine ⟨_, _, pre0 _ ?_, hrun, hended, _, _, rfl, ?_, ⟨_, rfl⟩, hW, hsame.mono (by decide) (by decide)⟩
  · refine XS.iloadN X0.here hx rfl (hb hby d_jdk_52_method_16_code_0) rfl ?_
    show Steps p.tables e below (s₁.setTop (mkF m 1 #[.val (.ref ca), .val (.int (Int32.ofNat o)), .val (.int (Int32.ofNat n)), .unset, .unset, .unset] [(.int (Int32.ofNat n))])) _
    refine st301 _ ?_
    show Steps p.tables e below (T301.setTop (mkF m 3 #[.val (.ref ca), .val (.int (Int32.ofNat o)), .val (.int (Int32.ofNat n)), .unset, .unset, .unset] [(.ref b301)])) _
    refine XS.astoreN X301.here hx rfl (hb hby d_jdk_52_method_16_code_3) rfl rfl (l' := #[.val (.ref ca), .val (.int (Int32.ofNat o)), .val (.int (Int32.ofNat n)), .val (.ref b301), .unset, .unset]) rfl ?_
    show Steps p.tables e below (T301.setTop (mkF m 4 #[.val (.ref ca), .val (.int (Int32.ofNat o)), .val (.int (Int32.ofNat n)), .val (.ref b301), .unset, .unset] [])) _
    refine XS.aloadN X301.here hx rfl (hb hby d_jdk_52_method_16_code_4) rfl rfl ?_
    show Steps p.tables e below (T301.setTop (mkF m 5 #[.val (.ref ca), .val (.int (Int32.ofNat o)), .val (.int (Int32.ofNat n)), .val (.ref b301), .unset, .unset] [(.ref ca)])) _
    refine XS.iloadN X301.here hx rfl (hb hby d_jdk_52_method_16_code_5) rfl ?_
    show Steps p.tables e below (T301.setTop (mkF m 6 #[.val (.ref ca), .val (.int (Int32.ofNat o)), .val (.int (Int32.ofNat n)), .val (.ref b301), .unset, .unset] [(.int (Int32.ofNat o)), (.ref ca)])) _
    refine XS.aloadN X301.here hx rfl (hb hby d_jdk_52_method_16_code_6) rfl rfl ?_
    show Steps p.tables e below (T301.setTop (mkF m 7 #[.val (.ref ca), .val (.int (Int32.ofNat o)), .val (.int (Int32.ofNat n)), .val (.ref b301), .unset, .unset] [(.ref b301), (.int (Int32.ofNat o)), (.ref ca)])) _
    refine XS.iconst X301.here hx rfl (hb hby d_jdk_52_method_16_code_7) ?_
    show Steps p.tables e below (T301.setTop (mkF m 8 #[.val (.ref ca), .val (.int (Int32.ofNat o)), .val (.int (Int32.ofNat n)), .val (.ref b301), .unset, .unset] [(.int (0 : Int32)), (.ref b301), (.int (Int32.ofNat o)), (.ref ca)])) _
    refine XS.iloadN X301.here hx rfl (hb hby d_jdk_52_method_16_code_8) rfl ?_
    show Steps p.tables e below (T301.setTop (mkF m 9 #[.val (.ref ca), .val (.int (Int32.ofNat o)), .val (.int (Int32.ofNat n)), .val (.ref b301), .unset, .unset] [(.int (Int32.ofNat n)), (.int (0 : Int32)), (.ref b301), (.int (Int32.ofNat o)), (.ref ca)])) _
    refine st305 _ ?_
    show Steps p.tables e below (T305.setTop (mkF m 12 #[.val (.ref ca), .val (.int (Int32.ofNat o)), .val (.int (Int32.ofNat n)), .val (.ref b301), .unset, .unset] [(.int (Int32.ofNat rr))])) _
    refine XS.istore X305.here hx rfl (hb hby d_jdk_52_method_16_code_12) rfl (l' := #[.val (.ref ca), .val (.int (Int32.ofNat o)), .val (.int (Int32.ofNat n)), .val (.ref b301), .val (.int (Int32.ofNat rr)), .unset]) rfl ?_
    show Steps p.tables e below (T305.setTop (mkF m 14 #[.val (.ref ca), .val (.int (Int32.ofNat o)), .val (.int (Int32.ofNat n)), .val (.ref b301), .val (.int (Int32.ofNat rr)), .unset] [])) _
    refine XS.iload X305.here hx rfl (hb hby d_jdk_52_method_16_code_14) rfl ?_
    show Steps p.tables e below (T305.setTop (mkF m 16 #[.val (.ref ca), .val (.int (Int32.ofNat o)), .val (.int (Int32.ofNat n)), .val (.ref b301), .val (.int (Int32.ofNat rr)), .unset] [(.int (Int32.ofNat rr))])) _
    refine XS.iloadN X305.here hx rfl (hb hby d_jdk_52_method_16_code_16) rfl ?_
    show Steps p.tables e below (T305.setTop (mkF m 17 #[.val (.ref ca), .val (.int (Int32.ofNat o)), .val (.int (Int32.ofNat n)), .val (.ref b301), .val (.int (Int32.ofNat rr)), .unset] [(.int (Int32.ofNat n)), (.int (Int32.ofNat rr))])) _
    refine XS.icmpNo X305.here hx rfl (hb hby d_jdk_52_method_16_code_17) rfl (feq ((fun q => absurd (own_oinj (by omega) (by omega) q) (by omega)) : ¬ ((Int32.ofNat rr) = (Int32.ofNat n)))).1 ?_
    show Steps p.tables e below (T305.setTop (mkF m 20 #[.val (.ref ca), .val (.int (Int32.ofNat o)), .val (.int (Int32.ofNat n)), .val (.ref b301), .val (.int (Int32.ofNat rr)), .unset] [])) _
    refine XS.aloadN X305.here hx rfl (hb hby d_jdk_52_method_16_code_20) rfl rfl ?_
    show Steps p.tables e below (T305.setTop (mkF m 21 #[.val (.ref ca), .val (.int (Int32.ofNat o)), .val (.int (Int32.ofNat n)), .val (.ref b301), .val (.int (Int32.ofNat rr)), .unset] [(.ref ca)])) _
    refine XS.iloadN X305.here hx rfl (hb hby d_jdk_52_method_16_code_21) rfl ?_
    show Steps p.tables e below (T305.setTop (mkF m 22 #[.val (.ref ca), .val (.int (Int32.ofNat o)), .val (.int (Int32.ofNat n)), .val (.ref b301), .val (.int (Int32.ofNat rr)), .unset] [(.int (Int32.ofNat o)), (.ref ca)])) _
    refine XS.iloadN X305.here hx rfl (hb hby d_jdk_52_method_16_code_22) rfl ?_
    show Steps p.tables e below (T305.setTop (mkF m 23 #[.val (.ref ca), .val (.int (Int32.ofNat o)), .val (.int (Int32.ofNat n)), .val (.ref b301), .val (.int (Int32.ofNat rr)), .unset] [(.int (Int32.ofNat n)), (.int (Int32.ofNat o)), (.ref ca)])) _
    refine st308 _ ?_
    show Steps p.tables e below (T308.setTop (mkF m 26 #[.val (.ref ca), .val (.int (Int32.ofNat o)), .val (.int (Int32.ofNat n)), .val (.ref b301), .val (.int (Int32.ofNat rr)), .unset] [(.ref tt_308)])) _
    refine XS.astore X308.here hx rfl (hb hby d_jdk_52_method_16_code_26) rfl rfl (l' := #[.val (.ref ca), .val (.int (Int32.ofNat o)), .val (.int (Int32.ofNat n)), .val (.ref b301), .val (.int (Int32.ofNat rr)), .val (.ref tt_308)]) rfl ?_
    show Steps p.tables e below (T308.setTop (mkF m 28 #[.val (.ref ca), .val (.int (Int32.ofNat o)), .val (.int (Int32.ofNat n)), .val (.ref b301), .val (.int (Int32.ofNat rr)), .val (.ref tt_308)] [])) _
    refine XS.aload X308.here hx rfl (hb hby d_jdk_52_method_16_code_28) rfl rfl ?_
    show Steps p.tables e below (T308.setTop (mkF m 30 #[.val (.ref ca), .val (.int (Int32.ofNat o)), .val (.int (Int32.ofNat n)), .val (.ref b301), .val (.int (Int32.ofNat rr)), .val (.ref tt_308)] [(.ref tt_308)])) _
    refine XS.iload X308.here hx rfl (hb hby d_jdk_52_method_16_code_30) rfl ?_
    show Steps p.tables e below (T308.setTop (mkF m 32 #[.val (.ref ca), .val (.int (Int32.ofNat o)), .val (.int (Int32.ofNat n)), .val (.ref b301), .val (.int (Int32.ofNat rr)), .val (.ref tt_308)] [(.int (Int32.ofNat rr)), (.ref tt_308)])) _
    refine st310 _ ?_
    show Steps p.tables e below (T310.setTop (mkF m 35 #[.val (.ref ca), .val (.int (Int32.ofNat o)), .val (.int (Int32.ofNat n)), .val (.ref b301), .val (.int (Int32.ofNat rr)), .val (.ref tt_308)] [(.int (cs.getD (o + rr) 0))])) _
    refine XS.sipush X310.here hx rfl (hb hby d_jdk_52_method_16_code_35) ?_
    show Steps p.tables e below (T310.setTop (mkF m 38 #[.val (.ref ca), .val (.int (Int32.ofNat o)), .val (.int (Int32.ofNat n)), .val (.ref b301), .val (.int (Int32.ofNat rr)), .val (.ref tt_308)] [(.int (255 : Int32)), (.int (cs.getD (o + rr) 0))])) _
    refine XS.icmpYes X310.here hx rfl (pc0 := 38) (pc' := 54) rfl (hb hby d_jdk_52_method_16_code_38) rfl (tlt (hwide : (255 : Int32) < (cs.getD (o + rr) 0))).2.2.1 (by decide) (by decide) ?_
    show Steps p.tables e below (T310.setTop (mkF m 54 #[.val (.ref ca), .val (.int (Int32.ofNat o)), .val (.int (Int32.ofNat n)), .val (.ref b301), .val (.int (Int32.ofNat rr)), .val (.ref tt_308)] [])) _
    refine XS.aload X310.here hx rfl (hb hby d_jdk_52_method_16_code_54) rfl rfl ?_
    show Steps p.tables e below (T310.setTop (mkF m 56 #[.val (.ref ca), .val (.int (Int32.ofNat o)), .val (.int (Int32.ofNat n)), .val (.ref b301), .val (.int (Int32.ofNat rr)), .val (.ref tt_308)] [(.ref tt_308)])) _
    jvm_step X310.here [X310.here.top, hx, (hb hby d_jdk_52_method_16_code_56), X310.method', Bd.returns, Value.isRef, FieldType.isReference]
    first | (intro acts; rw [hr _ acts rfl rfl rfl]) | rw [hr _ _ rfl rfl rfl]
    exact Steps.refl _
  · show Q_cmp3w Z ca kc cs dv o n rr ds h0 n0 _ T310.heap _
    rw [e310]
    exact ⟨tt_308, kt_308, rfl, N310, ((((Keep.refl h0 ([] : List Addr)).ext E301).trans K305 (allS (Or.inr (Nat.le_trans (Nat.le_refl _) (Nat.le_of_eq g301.symm))) all0)).trans K308 all0), (Nat.le_trans (Nat.le_trans E301.1 K305.1) f308_0), f308_1⟩
theorem d_jdk_52_method_15_code_0 : decode jdk_52_method_15_code 0 = .ok (.iload_n 1, 1) := by decide +kernel
theorem d_jdk_52_method_15_code_1 : decode jdk_52_method_15_code 1 = .ok (.aload_n 0, 1) := by decide +kernel
theorem d_jdk_52_method_15_code_2 : decode jdk_52_method_15_code 2 = .ok (.arraylength, 1) := by decide +kernel
theorem d_jdk_52_method_15_code_3 : decode jdk_52_method_15_code 3 = .ok (.isub, 1) := by decide +kernel
theorem d_jdk_52_method_15_code_4 : decode jdk_52_method_15_code 4 = .ok (.bipush 31, 2) := by decide +kernel
theorem d_jdk_52_method_15_code_6 : decode jdk_52_method_15_code 6 = .ok (.iushr, 1) := by decide +kernel
theorem d_jdk_52_method_15_code_7 : decode jdk_52_method_15_code 7 = .ok (.i2b, 1) := by decide +kernel
theorem d_jdk_52_method_15_code_8 : decode jdk_52_method_15_code 8 = .ok (.ireturn, 1) := by decide +kernel
def Q_codL1 (Z : State) (dd : Addr) (n : Nat) (kd : ClassId) (vs : List Value) (h0 : Heap) (n0 : Nat) (v : Option Value) (h : Heap) (L : List Loc) : Prop := (v = some (.int (1 : Int32))) ∧ (Fr n0 L) ∧ (h = h0)
set_option maxRecDepth 65536 in
set_option maxHeartbeats 40000000 in
theorem rm_codL1 (l : Launch) (Z : State) (a0 : Array Value) (hw : ∀ d ∈ tables_1, d.before a0 Z = true) (ws : List Jvm.Cond) (dd : Addr) (n : Nat) (kd : ClassId) (vs : List Value) (h0 : Heap) (n0 : Nat) (Z0 : n0 ≤ h0.size) (q0 : Arv Z h0 dd kd .byte (Int32.ofNat (2 * n)) vs (.int (0 : Int32))) (hn1 : 0 < n) (hcap : n ≤ 4) :
    MetFree l (⟨"java/lang/StringUTF16", "coderFromArrayLen", "([BI)B"⟩ : MethodName) (head1 (Jvm.Cond.code (⟨"java/lang/StringUTF16", "coderFromArrayLen", "([BI)B"⟩ : MethodName) jdk_52_method_15_code 2 (some .byte) :: ws) ({ frames := 0, cells := 0, slots := 0, locals := 0 } : Room)) (fun a₁ U₁ => a₁ = #[(.ref dd), (.int (Int32.ofNat n))] ∧ Z.Warmed39 U₁.vm ∧ U₁.heap = h0) (fun _ _ _ _ _ => True) (fun _ U₁ o₁ U₂ => ∃ v₁ L₁, o₁ = .returned v₁ ∧ Q_codL1 Z dd n kd vs h0 n0 v₁ U₂.heap L₁ ∧ FrameEnd U₁ o₁ U₂ L₁ ({ frames := 0, cells := 0, slots := 0, locals := 0 } : Room).cells ({ frames := 0, cells := 0, slots := 0, locals := 0 } : Room).slots) := by
  refine MetFree.of_bodySF (plainFor_of_name pn_0) hisR ?_
  intro p e s m args below meth c s₁ Bd hml0 hP hK
  obtain ⟨rfl, hZ, hh⟩ := hP
  have hx := Bd.exec
  have hby := Bd.bytes
  have hml : c.maxLocals = 2 := hml0
  have hown : s.vm.findClass "java/lang/StringUTF16" = some m.cls := findClass_of_methodNamed Bd.named
  have hnm := (name_of_methodNamed Bd.named Bd.method).1
  have X0 : Stand p l e ({ frames := 0, cells := 0, slots := 0, locals := 0 } : Room) s m #[(.ref dd), (.int (Int32.ofNat n))] below meth c s₁ [] 0 0 := Stand.of_body Bd
  have e0 : s₁.heap = h0 := by rw [← hh, Bd.state]; rfl
  have N0 := Fr.nil n0
  have pre0 : ∀ t, Steps p.tables e below (s₁.setTop (mkF m 0 #[.val (.ref dd), .val (.int (Int32.ofNat n))] [])) t → Steps p.tables e below (s₁.setTop (entryFrame m #[(.ref dd), (.int (Int32.ofNat n))] 2)) t := fun t k => castTop (ef_2 m dd (Int32.ofNat n)) k
  obtain ⟨cl301, Ar301, -, S301, M301, -, -⟩ := id q0
  obtain ⟨fs, hr, hrun, hended, hW, hsame⟩ := X0.leave (v := some (.int (1 : Int32))) (fun h => by rw [Bd.returns] at h; cases h)
  refine ⟨_, _, pre0 _ ?_, hrun, hended, _, _, rfl, ?_, ⟨_, rfl⟩, hW, hsame.mono (by decide) (by decide)⟩
  · refine XS.iloadN X0.here hx rfl (hb hby d_jdk_52_method_15_code_0) rfl ?_
    show Steps p.tables e below (s₁.setTop (mkF m 1 #[.val (.ref dd), .val (.int (Int32.ofNat n))] [(.int (Int32.ofNat n))])) _
    refine XS.aloadN X0.here hx rfl (hb hby d_jdk_52_method_15_code_1) rfl rfl ?_
    show Steps p.tables e below (s₁.setTop (mkF m 2 #[.val (.ref dd), .val (.int (Int32.ofNat n))] [(.ref dd), (.int (Int32.ofNat n))])) _
    refine X0.arraylength hx (by rw [e0]; exact Ar301.1) (State.isArrayOf_alike hZ.alike Ar301.2.1) (g := (mkF m 2 #[.val (.ref dd), .val (.int (Int32.ofNat n))] [(.ref dd), (.int (Int32.ofNat n))])) rfl rfl (hb hby d_jdk_52_method_15_code_2) _ ?_
    rw [len_of S301 M301]
    show Steps p.tables e below (s₁.setTop (mkF m 3 #[.val (.ref dd), .val (.int (Int32.ofNat n))] [(.int (Int32.ofNat (2 * n))), (.int (Int32.ofNat n))])) _
    refine XS.isub X0.here hx rfl (hb hby d_jdk_52_method_15_code_3) rfl ?_
    show Steps p.tables e below (s₁.setTop (mkF m 4 #[.val (.ref dd), .val (.int (Int32.ofNat n))] [(.int ((Int32.ofNat n) - (Int32.ofNat (2 * n))))])) _
    refine XS.bipush X0.here hx rfl (hb hby d_jdk_52_method_15_code_4) ?_
    show Steps p.tables e below (s₁.setTop (mkF m 6 #[.val (.ref dd), .val (.int (Int32.ofNat n))] [(.int (31 : Int32)), (.int ((Int32.ofNat n) - (Int32.ofNat (2 * n))))])) _
    refine XS.iushr X0.here hx rfl (hb hby d_jdk_52_method_15_code_6) rfl ?_
    show Steps p.tables e below (s₁.setTop (mkF m 7 #[.val (.ref dd), .val (.int (Int32.ofNat n))] [(.int ((((Int32.ofNat n) - (Int32.ofNat (2 * n))).toUInt32 >>> ((31 : Int32) &&& 31).toUInt32).toInt32))])) _
    refine XS.i2b X0.here hx rfl (hb hby d_jdk_52_method_15_code_7) rfl ?_
    show Steps p.tables e below (s₁.setTop (mkF m 8 #[.val (.ref dd), .val (.int (Int32.ofNat n))] [(.int (((((Int32.ofNat n) - (Int32.ofNat (2 * n))).toUInt32 >>> ((31 : Int32) &&& 31).toUInt32).toInt32).toInt8.toInt32))])) _
    rw [own_coder1 hn1 (by omega)]
    show Steps p.tables e below (s₁.setTop (mkF m 8 #[.val (.ref dd), .val (.int (Int32.ofNat n))] [(.int (1 : Int32))])) _
    exact retN X0 hx (t := .byte) Bd.returns (by simp) (hb hby d_jdk_52_method_15_code_8) hr
  · show Q_codL1 Z dd n kd vs h0 n0 _ s₁.heap _
    rw [e0]
    exact ⟨rfl, N0, rfl⟩
theorem d_jdk_42_method_149_code_0 : decode jdk_42_method_149_code 0 = .ok (.aload_n 0, 1) := by decide +kernel
theorem d_jdk_42_method_149_code_1 : decode jdk_42_method_149_code 1 = .ok (.invokespecial 1, 3) := by decide +kernel
theorem d_jdk_42_method_149_code_4 : decode jdk_42_method_149_code 4 = .ok (.iload_n 3, 1) := by decide +kernel
theorem d_jdk_42_method_149_code_5 : decode jdk_42_method_149_code 5 = .ok (.ifCond .ne 22, 3) := by decide +kernel
theorem d_jdk_42_method_149_code_27 : decode jdk_42_method_149_code 27 = .ok (.getstatic 38, 3) := by decide +kernel
theorem d_jdk_42_method_149_code_30 : decode jdk_42_method_149_code 30 = .ok (.ifCond .eq 28, 3) := by decide +kernel
theorem d_jdk_42_method_149_code_33 : decode jdk_42_method_149_code 33 = .ok (.aload_n 1, 1) := by decide +kernel
theorem d_jdk_42_method_149_code_34 : decode jdk_42_method_149_code 34 = .ok (.iload_n 2, 1) := by decide +kernel
theorem d_jdk_42_method_149_code_35 : decode jdk_42_method_149_code 35 = .ok (.iload_n 3, 1) := by decide +kernel
theorem d_jdk_42_method_149_code_36 : decode jdk_42_method_149_code 36 = .ok (.invokestatic 177, 3) := by decide +kernel
theorem d_jdk_42_method_149_code_39 : decode jdk_42_method_149_code 39 = .ok (.astore 5, 2) := by decide +kernel
theorem d_jdk_42_method_149_code_41 : decode jdk_42_method_149_code 41 = .ok (.aload_n 0, 1) := by decide +kernel
theorem d_jdk_42_method_149_code_42 : decode jdk_42_method_149_code 42 = .ok (.aload 5, 2) := by decide +kernel
theorem d_jdk_42_method_149_code_44 : decode jdk_42_method_149_code 44 = .ok (.iload_n 3, 1) := by decide +kernel
theorem d_jdk_42_method_149_code_45 : decode jdk_42_method_149_code 45 = .ok (.invokestatic 47, 3) := by decide +kernel
theorem pd_6 : parseMethodDescriptor "([BI)B" = some ⟨[(.array .byte), .int], some .byte⟩ := by decide +kernel
theorem d_jdk_42_method_149_code_48 : decode jdk_42_method_149_code 48 = .ok (.putfield 15, 3) := by decide +kernel
theorem d_jdk_42_method_149_code_51 : decode jdk_42_method_149_code 51 = .ok (.aload_n 0, 1) := by decide +kernel
theorem d_jdk_42_method_149_code_52 : decode jdk_42_method_149_code 52 = .ok (.aload 5, 2) := by decide +kernel
theorem d_jdk_42_method_149_code_54 : decode jdk_42_method_149_code 54 = .ok (.putfield 9, 3) := by decide +kernel
theorem d_jdk_42_method_149_code_57 : decode jdk_42_method_149_code 57 = .ok (.return_, 1) := by decide +kernel
theorem ef_6 (m : MethodId) (x0 : Addr) (x1 : Addr) (x2 : Int32) (x3 : Int32) : entryFrame m #[(.ref x0), (.ref x1), (.int x2), (.int x3), .null] 6 = mkF m 0 #[.val (.ref x0), .val (.ref x1), .val (.int x2), .val (.int x3), .val .null, .unset] [] := by first | (simp [entryFrame, mkF, argsToLocals, Value.category]; done) | rfl
theorem pn_1 : plainName "java/lang/String" = true := by first | (simp [plainName, overriddenIn]; done) | decide +kernel
def Q_new4w (Z : State) (xs : Addr) (ca : Addr) (kc : ClassId) (cs : List Int32) (dv : Value) (o : Nat) (n : Nat) (rr : Nat) (ds : List Int32) (G : Int32) (h0 : Heap) (n0 : Nat) (v : Option Value) (h : Heap) (L : List Loc) : Prop := ∃ (tt : Addr) (kt : ClassId), (v = none) ∧ (Fr n0 L) ∧ (Keep h0 h ([xs] : List Addr)) ∧ (Fld Z h xs "java/lang/String" "value" "[B" (.ref tt)) ∧ (Fld Z h xs "java/lang/String" "coder" "B" (.int (1 : Int32))) ∧ (h0.size ≤ tt) ∧ (Arv Z h tt kt .byte (Int32.ofNat (2 * n)) (StrChars.Road.wideBytes ds) (.int (0 : Int32)))
set_option maxRecDepth 65536 in
set_option maxHeartbeats 40000000 in
theorem rm_new4w (l : Launch) (Z : State) (a0 : Array Value) (hw : ∀ d ∈ tables_1, d.before a0 Z = true) (ws : List Jvm.Cond) (xs : Addr) (ca : Addr) (kc : ClassId) (cs : List Int32) (dv : Value) (o : Nat) (n : Nat) (rr : Nat) (ds : List Int32) (G : Int32) (h0 : Heap) (n0 : Nat) (Z0 : n0 ≤ h0.size) (q0 : Sta Z Z.heap "java/lang/String" "COMPACT_STRINGS" "Z" (.int G)) (hCS : ¬ (G = (0 : Int32))) (q2 : Sta Z Z.heap "java/lang/StringUTF16" "$assertionsDisabled" "Z" (.int (1 : Int32))) (q3 : Sta Z Z.heap "java/lang/StringUTF16" "HI_BYTE_SHIFT" "I" (.int (0 : Int32))) (q4 : Sta Z Z.heap "java/lang/StringUTF16" "LO_BYTE_SHIFT" "I" (.int (8 : Int32))) (q5 : Old Z n0 h0) (hcap : n ≤ 4) (hds : ds.length = n) (hrn : rr < n) (q9 : Arv Z h0 ca kc .char (Int32.ofNat cs.length) (cs.map Value.int) dv) (hN : cs.length < 2 ^ 31) (hon : o + n ≤ cs.length) (hdc : ∀ q, q < n → ds.getD q 0 = cs.getD (o + q) 0) (hlow : ∀ q, q < rr → ¬ (255 : Int32) < cs.getD (o + q) 0) (hwide : (255 : Int32) < cs.getD (o + rr) 0) (hc0 : ¬ cs.getD (o + rr) 0 < 0) (hc1 : ¬ (65535 : Int32) < cs.getD (o + rr) 0) (q17 : Exa Z h0 xs "java/lang/String") (q18 : Fld Z h0 xs "java/lang/String" "value" "[B" .null) (q19 : Fld Z h0 xs "java/lang/String" "coder" "B" (.int (0 : Int32))) (q20 : n0 ≤ xs) :
    MetFree l (⟨"java/lang/String", "<init>", "([CIILjava/lang/Void;)V"⟩ : MethodName) (head1 (Jvm.Cond.code (⟨"java/lang/String", "<init>", "([CIILjava/lang/Void;)V"⟩ : MethodName) jdk_42_method_149_code 6 none :: ws) ({ frames := 4, cells := 2, slots := 12, locals := 57 } : Room)) (fun a₁ U₁ => a₁ = #[(.ref xs), (.ref ca), (.int (Int32.ofNat o)), (.int (Int32.ofNat n)), .null] ∧ Z.Warmed39 U₁.vm ∧ U₁.heap = h0) (fun _ _ _ _ _ => True) (fun _ U₁ o₁ U₂ => ∃ v₁ L₁, o₁ = .returned v₁ ∧ Q_new4w Z xs ca kc cs dv o n rr ds G h0 n0 v₁ U₂.heap L₁ ∧ FrameEnd U₁ o₁ U₂ L₁ ({ frames := 4, cells := 2, slots := 12, locals := 57 } : Room).cells ({ frames := 4, cells := 2, slots := 12, locals := 57 } : Room).slots) := by
  refine MetFree.of_bodySF (plainFor_of_name pn_1) hisR ?_
  intro p e s m args below meth c s₁ Bd hml0 hP hK
  obtain ⟨rfl, hZ, hh⟩ := hP
  have hx := Bd.exec
  have hby := Bd.bytes
  have hml : c.maxLocals = 6 := hml0
  have hown : s.vm.findClass "java/lang/String" = some m.cls := findClass_of_methodNamed Bd.named
  have hnm := (name_of_methodNamed Bd.named Bd.method).1
  have X0 : Stand p l e ({ frames := 4, cells := 2, slots := 12, locals := 57 } : Room) s m #[(.ref xs), (.ref ca), (.int (Int32.ofNat o)), (.int (Int32.ofNat n)), .null] below meth c s₁ [] 0 0 := Stand.of_body Bd
  have e0 : s₁.heap = h0 := by rw [← hh, Bd.state]; rfl
  have N0 := Fr.nil n0
  have pre0 : ∀ t, Steps p.tables e below (s₁.setTop (mkF m 0 #[.val (.ref xs), .val (.ref ca), .val (.int (Int32.ofNat o)), .val (.int (Int32.ofNat n)), .val .null, .unset] [])) t → Steps p.tables e below (s₁.setTop (entryFrame m #[(.ref xs), (.ref ca), (.int (Int32.ofNat o)), (.int (Int32.ofNat n)), .null] 6)) t := fun t k => castTop (ef_6 m xs ca (Int32.ofNat o) (Int32.ofNat n)) k
  obtain ⟨T301, X301, e301, st301⟩ := initO X0 hx hZ hown (hw _ (List.mem_of_getElem? (i := 15) rfl)) (hw _ (List.mem_of_getElem? (i := 16) rfl)) (hw _ (List.mem_of_getElem? (i := 17) rfl)) e0 (g := (mkF m 1 #[.val (.ref xs), .val (.ref ca), .val (.int (Int32.ofNat o)), .val (.int (Int32.ofNat n)), .val .null, .unset] [(.ref xs)])) rfl (by rw [hml]; rfl) rfl (hb hby d_jdk_42_method_149_code_1) (by decide) (W := 0) (by show 2 * 0 + _ ≤ _; exact Nat.le_of_eq rfl) (by decide)
  obtain ⟨T302, X302, e302, st302⟩ := getS2 X301 hx hZ hown (host := "") (Or.inl (hw _ (List.mem_of_getElem? (i := 18) rfl))) Via.refl e301 (q0.ext q5.2) (g := (mkF m 27 #[.val (.ref xs), .val (.ref ca), .val (.int (Int32.ofNat o)), .val (.int (Int32.ofNat n)), .val .null, .unset] [])) rfl (hb hby d_jdk_42_method_149_code_27)
  obtain ⟨_, _, ⟨T303, L303, k303, n303⟩, -, X303, ⟨Lc303, hQ303, l303, y303, z303⟩, st303⟩ := Jvm.LawKit.callS X302 hx (y := (⟨"java/lang/StringUTF16", "compress", "([CII)[B"⟩ : MethodName)) hown (mvT hZ (hw _ (List.mem_of_getElem? (i := 19) rfl))) (mvT hZ (hw _ (List.mem_of_getElem? (i := 20) rfl))) (mvT hZ (hw _ (List.mem_of_getElem? (i := 21) rfl))) (mvT hZ (hw _ (List.mem_of_getElem? (i := 22) rfl))) (by decide) (backOf (W := 0) (rm_cmp3w l Z a0 hw [] ca kc cs dv o n rr ds h0 n0 Z0 q9 hN q2 q3 q4 q5 hcap hon hds hdc hrn hlow hwide hc0 hc1) hZ (hw _ (List.mem_of_getElem? (i := 22) rfl)) (hw _ (List.mem_of_getElem? (i := 21) rfl)) (by decide) (by decide)) (g := (mkF m 36 #[.val (.ref xs), .val (.ref ca), .val (.int (Int32.ofNat o)), .val (.int (Int32.ofNat n)), .val .null, .unset] [(.int (Int32.ofNat n)), (.int (Int32.ofNat o)), (.ref ca)])) rfl (by rw [hml]; rfl) (argsL := [(.ref ca), (.int (Int32.ofNat o)), (.int (Int32.ofNat n))]) (rest := []) (lenOf pd_4 rfl) rfl (by show 2 * 0 + _ ≤ _; exact Nat.le_of_eq rfl) (hb hby d_jdk_42_method_149_code_36) (fun _ _ => ⟨rfl, e302, (by decide : 0 + 2 ≤ _), (by decide : 0 + 12 ≤ _)⟩)
  dsimp only [Pt.U, Pt.locs, Pt.cells, Pt.slots] at X303 l303 y303 z303 st303 hQ303
  subst l303 y303 z303
  obtain ⟨tt_303, kt_303, rfl, Nq303, K303, f303_0, f303_1⟩ := hQ303
  have N303 := Fr.app N0 Nq303
  obtain ⟨_, _, ⟨T304, L304, k304, n304⟩, -, X304, ⟨Lc304, hQ304, l304, y304, z304⟩, st304⟩ := Jvm.LawKit.callS X303 hx (y := (⟨"java/lang/StringUTF16", "coderFromArrayLen", "([BI)B"⟩ : MethodName)) hown (mvT hZ (hw _ (List.mem_of_getElem? (i := 27) rfl))) (mvT hZ (hw _ (List.mem_of_getElem? (i := 28) rfl))) (mvT hZ (hw _ (List.mem_of_getElem? (i := 21) rfl))) (mvT hZ (hw _ (List.mem_of_getElem? (i := 29) rfl))) (by decide) (backOf (W := 1) (rm_codL1 l Z a0 hw [] tt_303 n kt_303 (StrChars.Road.wideBytes ds) T303.heap n0 (Nat.le_trans Z0 K303.1) f303_1 (by omega) hcap) hZ (hw _ (List.mem_of_getElem? (i := 29) rfl)) (hw _ (List.mem_of_getElem? (i := 21) rfl)) (by decide) (by decide)) (g := (mkF m 45 #[.val (.ref xs), .val (.ref ca), .val (.int (Int32.ofNat o)), .val (.int (Int32.ofNat n)), .val .null, .val (.ref tt_303)] [(.int (Int32.ofNat n)), (.ref tt_303), (.ref xs)])) rfl (by rw [hml]; rfl) (argsL := [(.ref tt_303), (.int (Int32.ofNat n))]) (rest := [(.ref xs)]) (lenOf pd_6 rfl) rfl (by show 2 * 0 + _ ≤ _; exact Nat.le_of_eq rfl) (hb hby d_jdk_42_method_149_code_45) (fun _ _ => ⟨rfl, rfl, (by decide : 2 + 0 ≤ _), (by decide : 12 + 0 ≤ _)⟩)
  dsimp only [Pt.U, Pt.locs, Pt.cells, Pt.slots] at X304 l304 y304 z304 st304 hQ304
  subst l304 y304 z304
  obtain ⟨rfl, Nq304, e304⟩ := hQ304
  have N304 := Fr.app N303 Nq304
  have c305 : Fld Z T303.heap xs "java/lang/String" "coder" "B" (.int (0 : Int32)) := (q19.keep K303 nin0)
  have c306 : Exa Z T303.heap xs "java/lang/String" := (q17.keep K303)
  obtain ⟨T307, h307, X307, e307, W307, st307⟩ := putFN X304 hx hZ hown (hw _ (List.mem_of_getElem? (i := 30) rfl)) Via.refl e304 c305 c306 (Or.inr ⟨(hw _ (List.mem_of_getElem? (i := 31) rfl)), rfl, hnm⟩) (hw _ (List.mem_of_getElem? (i := 1) rfl)) (ty := .byte) (v' := (.int (1 : Int32))) (by decide) rfl rfl (g := (mkF m 48 #[.val (.ref xs), .val (.ref ca), .val (.int (Int32.ofNat o)), .val (.int (Int32.ofNat n)), .val .null, .val (.ref tt_303)] [(.int (1 : Int32)), (.ref xs)])) rfl rfl (hb hby d_jdk_42_method_149_code_48)
  have N307 := Fr.snoc X307 N304 q20
  have F307 : Fld Z h307 xs "java/lang/String" "coder" "B" (.int (1 : Int32)) := c305.same W307
  have c308 : Fld Z h307 xs "java/lang/String" "value" "[B" .null := ((q18.keep K303 nin0).other W307 (Or.inr (slot_ne (Or.inr (hw _ (List.mem_of_getElem? (i := 33) rfl))) (Or.inr (hw _ (List.mem_of_getElem? (i := 31) rfl))) (by decide) (t := (.array .byte)) (t' := .byte) (by decide) (by decide))))
  have c309 : Exa Z h307 xs "java/lang/String" := (c306.wr W307)
  obtain ⟨T310, h310, X310, e310, W310, st310⟩ := putF X307 hx hZ hown (host := "") (Or.inl (hw _ (List.mem_of_getElem? (i := 32) rfl))) Via.refl e307 c308 c309 (Or.inr ⟨(hw _ (List.mem_of_getElem? (i := 33) rfl)), rfl, hnm⟩) (hw _ (List.mem_of_getElem? (i := 1) rfl)) (ty := (.array .byte)) (by decide) rfl rfl (g := (mkF m 54 #[.val (.ref xs), .val (.ref ca), .val (.int (Int32.ofNat o)), .val (.int (Int32.ofNat n)), .val .null, .val (.ref tt_303)] [(.ref tt_303), (.ref xs)])) rfl rfl (hb hby d_jdk_42_method_149_code_54)
  have N310 := Fr.snoc X310 N307 q20
  have F310 : Fld Z h310 xs "java/lang/String" "value" "[B" (.ref tt_303) := c308.same W310
  have ne311 : xs ≠ tt_303 := Nat.ne_of_lt (Nat.lt_of_lt_of_le q19.lt f303_0)
  have c312 : Arv Z h310 tt_303 kt_303 .byte (Int32.ofNat (2 * n)) (StrChars.Road.wideBytes ds) (.int (0 : Int32)) := ((f303_1.other W307 (Ne.symm ne311)).other W310 (Ne.symm ne311))
  have c313 : Fld Z h310 xs "java/lang/String" "coder" "B" (.int (1 : Int32)) := (F307.other W310 (Or.inr (slot_ne (Or.inr (hw _ (List.mem_of_getElem? (i := 31) rfl))) (Or.inr (hw _ (List.mem_of_getElem? (i := 33) rfl))) (by decide) (t := .byte) (t' := (.array .byte)) (by decide) (by decide))))
  obtain ⟨fs, hr, hrun, hended, hW, hsame⟩ := X310.leave (v := none) (fun _ => rfl)
  refine ⟨_, _, pre0 _ ?_, hrun, hended, _, _, rfl, ?_, ⟨_, rfl⟩, hW, hsame.mono (by decide) (by decide)⟩
  · refine XS.aloadN X0.here hx rfl (hb hby d_jdk_42_method_149_code_0) rfl rfl ?_
    show Steps p.tables e below (s₁.setTop (mkF m 1 #[.val (.ref xs), .val (.ref ca), .val (.int (Int32.ofNat o)), .val (.int (Int32.ofNat n)), .val .null, .unset] [(.ref xs)])) _
    refine st301 _ ?_
    show Steps p.tables e below (T301.setTop (mkF m 4 #[.val (.ref xs), .val (.ref ca), .val (.int (Int32.ofNat o)), .val (.int (Int32.ofNat n)), .val .null, .unset] [])) _
    refine XS.iloadN X301.here hx rfl (hb hby d_jdk_42_method_149_code_4) rfl ?_
    show Steps p.tables e below (T301.setTop (mkF m 5 #[.val (.ref xs), .val (.ref ca), .val (.int (Int32.ofNat o)), .val (.int (Int32.ofNat n)), .val .null, .unset] [(.int (Int32.ofNat n))])) _
    refine XS.ifYes X301.here hx rfl (pc0 := 5) (pc' := 27) rfl (hb hby d_jdk_42_method_149_code_5) rfl ((if0 _ _).trans (feq ((fun q => absurd (own_oinj (i := n) (n := 0) (by omega) (by omega) q) (by omega)) : ¬ ((Int32.ofNat n) = (0 : Int32)))).2) (by decide) (by decide) ?_
    show Steps p.tables e below (T301.setTop (mkF m 27 #[.val (.ref xs), .val (.ref ca), .val (.int (Int32.ofNat o)), .val (.int (Int32.ofNat n)), .val .null, .unset] [])) _
    refine st302 _ ?_
    show Steps p.tables e below (T302.setTop (mkF m 30 #[.val (.ref xs), .val (.ref ca), .val (.int (Int32.ofNat o)), .val (.int (Int32.ofNat n)), .val .null, .unset] [(.int G)])) _
    refine XS.ifNo X302.here hx rfl (hb hby d_jdk_42_method_149_code_30) rfl ((if0 _ _).trans (feq (hCS : ¬ (G = (0 : Int32)))).1) ?_
    show Steps p.tables e below (T302.setTop (mkF m 33 #[.val (.ref xs), .val (.ref ca), .val (.int (Int32.ofNat o)), .val (.int (Int32.ofNat n)), .val .null, .unset] [])) _
    refine XS.aloadN X302.here hx rfl (hb hby d_jdk_42_method_149_code_33) rfl rfl ?_
    show Steps p.tables e below (T302.setTop (mkF m 34 #[.val (.ref xs), .val (.ref ca), .val (.int (Int32.ofNat o)), .val (.int (Int32.ofNat n)), .val .null, .unset] [(.ref ca)])) _
    refine XS.iloadN X302.here hx rfl (hb hby d_jdk_42_method_149_code_34) rfl ?_
    show Steps p.tables e below (T302.setTop (mkF m 35 #[.val (.ref xs), .val (.ref ca), .val (.int (Int32.ofNat o)), .val (.int (Int32.ofNat n)), .val .null, .unset] [(.int (Int32.ofNat o)), (.ref ca)])) _
    refine XS.iloadN X302.here hx rfl (hb hby d_jdk_42_method_149_code_35) rfl ?_
    show Steps p.tables e below (T302.setTop (mkF m 36 #[.val (.ref xs), .val (.ref ca), .val (.int (Int32.ofNat o)), .val (.int (Int32.ofNat n)), .val .null, .unset] [(.int (Int32.ofNat n)), (.int (Int32.ofNat o)), (.ref ca)])) _
    refine st303 _ ?_
    show Steps p.tables e below (T303.setTop (mkF m 39 #[.val (.ref xs), .val (.ref ca), .val (.int (Int32.ofNat o)), .val (.int (Int32.ofNat n)), .val .null, .unset] [(.ref tt_303)])) _
    refine XS.astore X303.here hx rfl (hb hby d_jdk_42_method_149_code_39) rfl rfl (l' := #[.val (.ref xs), .val (.ref ca), .val (.int (Int32.ofNat o)), .val (.int (Int32.ofNat n)), .val .null, .val (.ref tt_303)]) rfl ?_
    show Steps p.tables e below (T303.setTop (mkF m 41 #[.val (.ref xs), .val (.ref ca), .val (.int (Int32.ofNat o)), .val (.int (Int32.ofNat n)), .val .null, .val (.ref tt_303)] [])) _
    refine XS.aloadN X303.here hx rfl (hb hby d_jdk_42_method_149_code_41) rfl rfl ?_
    show Steps p.tables e below (T303.setTop (mkF m 42 #[.val (.ref xs), .val (.ref ca), .val (.int (Int32.ofNat o)), .val (.int (Int32.ofNat n)), .val .null, .val (.ref tt_303)] [(.ref xs)])) _
    refine XS.aload X303.here hx rfl (hb hby d_jdk_42_method_149_code_42) rfl rfl ?_
    show Steps p.tables e below (T303.setTop (mkF m 44 #[.val (.ref xs), .val (.ref ca), .val (.int (Int32.ofNat o)), .val (.int (Int32.ofNat n)), .val .null, .val (.ref tt_303)] [(.ref tt_303), (.ref xs)])) _
    refine XS.iloadN X303.here hx rfl (hb hby d_jdk_42_method_149_code_44) rfl ?_
    show Steps p.tables e below (T303.setTop (mkF m 45 #[.val (.ref xs), .val (.ref ca), .val (.int (Int32.ofNat o)), .val (.int (Int32.ofNat n)), .val .null, .val (.ref tt_303)] [(.int (Int32.ofNat n)), (.ref tt_303), (.ref xs)])) _
    refine st304 _ ?_
    show Steps p.tables e below (T304.setTop (mkF m 48 #[.val (.ref xs), .val (.ref ca), .val (.int (Int32.ofNat o)), .val (.int (Int32.ofNat n)), .val .null, .val (.ref tt_303)] [(.int (1 : Int32)), (.ref xs)])) _
    refine st307 _ ?_
    show Steps p.tables e below (T307.setTop (mkF m 51 #[.val (.ref xs), .val (.ref ca), .val (.int (Int32.ofNat o)), .val (.int (Int32.ofNat n)), .val .null, .val (.ref tt_303)] [])) _
    refine XS.aloadN X307.here hx rfl (hb hby d_jdk_42_method_149_code_51) rfl rfl ?_
    show Steps p.tables e below (T307.setTop (mkF m 52 #[.val (.ref xs), .val (.ref ca), .val (.int (Int32.ofNat o)), .val (.int (Int32.ofNat n)), .val .null, .val (.ref tt_303)] [(.ref xs)])) _
    refine XS.aload X307.here hx rfl (hb hby d_jdk_42_method_149_code_52) rfl rfl ?_
    show Steps p.tables e below (T307.setTop (mkF m 54 #[.val (.ref xs), .val (.ref ca), .val (.int (Int32.ofNat o)), .val (.int (Int32.ofNat n)), .val .null, .val (.ref tt_303)] [(.ref tt_303), (.ref xs)])) _
    refine st310 _ ?_
    show Steps p.tables e below (T310.setTop (mkF m 57 #[.val (.ref xs), .val (.ref ca), .val (.int (Int32.ofNat o)), .val (.int (Int32.ofNat n)), .val .null, .val (.ref tt_303)] [])) _
    exact X310.returnOut hx Bd.returns (hb hby d_jdk_42_method_149_code_57) hr
  · show Q_new4w Z xs ca kc cs dv o n rr ds G h0 n0 _ T310.heap _
    rw [e310]
    exact ⟨tt_303, kt_303, rfl, N310, ((((Keep.refl h0 ([xs] : List Addr)).trans K303 all0).wr W307 (Or.inl (by simp))).wr W310 (Or.inl (by simp))), F310, c313, (Nat.le_trans (Nat.le_refl _) f303_0), c312⟩
theorem d_jdk_42_method_3_code_0 : decode jdk_42_method_3_code 0 = .ok (.aload_n 0, 1) := by decide +kernel
theorem d_jdk_42_method_3_code_1 : decode jdk_42_method_3_code 1 = .ok (.aload_n 1, 1) := by decide +kernel
theorem d_jdk_42_method_3_code_2 : decode jdk_42_method_3_code 2 = .ok (.iconst 0, 1) := by decide +kernel
theorem d_jdk_42_method_3_code_3 : decode jdk_42_method_3_code 3 = .ok (.aload_n 1, 1) := by decide +kernel
theorem d_jdk_42_method_3_code_4 : decode jdk_42_method_3_code 4 = .ok (.arraylength, 1) := by decide +kernel
theorem d_jdk_42_method_3_code_5 : decode jdk_42_method_3_code 5 = .ok (.aconst_null, 1) := by decide +kernel
theorem d_jdk_42_method_3_code_6 : decode jdk_42_method_3_code 6 = .ok (.invokespecial 27, 3) := by decide +kernel
theorem pd_7 : parseMethodDescriptor "([CIILjava/lang/Void;)V" = some ⟨[(.array .char), .int, .int, (.object "java/lang/Void")], none⟩ := by decide +kernel
theorem d_jdk_42_method_3_code_9 : decode jdk_42_method_3_code 9 = .ok (.return_, 1) := by decide +kernel
theorem ef_7 (m : MethodId) (x0 : Addr) (x1 : Addr) : entryFrame m #[(.ref x0), (.ref x1)] 2 = mkF m 0 #[.val (.ref x0), .val (.ref x1)] [] := by first | (simp [entryFrame, mkF, argsToLocals, Value.category]; done) | rfl
def Q_new1w (Z : State) (xs : Addr) (ca : Addr) (kc : ClassId) (cs : List Int32) (dv : Value) (rr : Nat) (G : Int32) (h0 : Heap) (n0 : Nat) (v : Option Value) (h : Heap) (L : List Loc) : Prop := ∃ (tt : Addr) (kt : ClassId), (v = none) ∧ (Fr n0 L) ∧ (Keep h0 h ([xs] : List Addr)) ∧ (Fld Z h xs "java/lang/String" "value" "[B" (.ref tt)) ∧ (Fld Z h xs "java/lang/String" "coder" "B" (.int (1 : Int32))) ∧ (h0.size ≤ tt) ∧ (Arv Z h tt kt .byte (Int32.ofNat (2 * cs.length)) (StrChars.Road.wideBytes cs) (.int (0 : Int32)))
set_option maxRecDepth 65536 in
set_option maxHeartbeats 40000000 in
theorem rm_new1w (l : Launch) (Z : State) (a0 : Array Value) (hw : ∀ d ∈ tables_1, d.before a0 Z = true) (ws : List Jvm.Cond) (xs : Addr) (ca : Addr) (kc : ClassId) (cs : List Int32) (dv : Value) (rr : Nat) (G : Int32) (h0 : Heap) (n0 : Nat) (Z0 : n0 ≤ h0.size) (q0 : Sta Z Z.heap "java/lang/String" "COMPACT_STRINGS" "Z" (.int G)) (hCS : ¬ (G = (0 : Int32))) (q2 : Sta Z Z.heap "java/lang/StringUTF16" "$assertionsDisabled" "Z" (.int (1 : Int32))) (q3 : Sta Z Z.heap "java/lang/StringUTF16" "HI_BYTE_SHIFT" "I" (.int (0 : Int32))) (q4 : Sta Z Z.heap "java/lang/StringUTF16" "LO_BYTE_SHIFT" "I" (.int (8 : Int32))) (q5 : Old Z n0 h0) (q6 : Arv Z h0 ca kc .char (Int32.ofNat cs.length) (cs.map Value.int) dv) (hcap : cs.length ≤ 4) (hrn : rr < cs.length) (hlow : ∀ q, q < rr → ¬ (255 : Int32) < cs.getD (0 + q) 0) (hwide : (255 : Int32) < cs.getD (0 + rr) 0) (hc0 : ¬ cs.getD (0 + rr) 0 < 0) (hc1 : ¬ (65535 : Int32) < cs.getD (0 + rr) 0) (q13 : Exa Z h0 xs "java/lang/String") (q14 : Fld Z h0 xs "java/lang/String" "value" "[B" .null) (q15 : Fld Z h0 xs "java/lang/String" "coder" "B" (.int (0 : Int32))) (q16 : n0 ≤ xs) :
    MetFree l (⟨"java/lang/String", "<init>", "([C)V"⟩ : MethodName) (head1 (Jvm.Cond.code (⟨"java/lang/String", "<init>", "([C)V"⟩ : MethodName) jdk_42_method_3_code 2 none :: ws) ({ frames := 5, cells := 2, slots := 12, locals := 74 } : Room)) (fun a₁ U₁ => a₁ = #[(.ref xs), (.ref ca)] ∧ Z.Warmed39 U₁.vm ∧ U₁.heap = h0) (fun _ _ _ _ _ => True) (fun _ U₁ o₁ U₂ => ∃ v₁ L₁, o₁ = .returned v₁ ∧ Q_new1w Z xs ca kc cs dv rr G h0 n0 v₁ U₂.heap L₁ ∧ FrameEnd U₁ o₁ U₂ L₁ ({ frames := 5, cells := 2, slots := 12, locals := 74 } : Room).cells ({ frames := 5, cells := 2, slots := 12, locals := 74 } : Room).slots) := by
  refine MetFree.of_bodySF (plainFor_of_name pn_1) hisR ?_
  intro p e s m args below meth c s₁ Bd hml0 hP hK
  obtain ⟨rfl, hZ, hh⟩ := hP
  have hx := Bd.exec
  have hby := Bd.bytes
  have hml : c.maxLocals = 2 := hml0
  have hown : s.vm.findClass "java/lang/String" = some m.cls := findClass_of_methodNamed Bd.named
  have hnm := (name_of_methodNamed Bd.named Bd.method).1
  have X0 : Stand p l e ({ frames := 5, cells := 2, slots := 12, locals := 74 } : Room) s m #[(.ref xs), (.ref ca)] below meth c s₁ [] 0 0 := Stand.of_body Bd
  have e0 : s₁.heap = h0 := by rw [← hh, Bd.state]; rfl
  have N0 := Fr.nil n0
  have pre0 : ∀ t, Steps p.tables e below (s₁.setTop (mkF m 0 #[.val (.ref xs), .val (.ref ca)] [])) t → Steps p.tables e below (s₁.setTop (entryFrame m #[(.ref xs), (.ref ca)] 2)) t := fun t k => castTop (ef_7 m xs ca) k
  obtain ⟨cl301, Ar301, -, S301, M301, -, -⟩ := id q6
  obtain ⟨_, _, ⟨T302, L302, k302, n302⟩, -, X302, ⟨Lc302, hQ302, l302, y302, z302⟩, st302⟩ := X0.specialBack hx (y := (⟨"java/lang/String", "<init>", "([CIILjava/lang/Void;)V"⟩ : MethodName)) rfl hown (mvT hZ (hw _ (List.mem_of_getElem? (i := 11) rfl))) (mvT hZ (hw _ (List.mem_of_getElem? (i := 12) rfl))) (mvT hZ (hw _ (List.mem_of_getElem? (i := 14) rfl))) (by decide) (backOf (W := 0) (rm_new4w l Z a0 hw [] xs ca kc cs dv 0 cs.length rr cs G h0 n0 Z0 q0 hCS q2 q3 q4 q5 hcap (rfl) hrn q6 (by omega) (by omega) (fun q _ => by rw [Nat.zero_add]) hlow hwide hc0 hc1 q13 q14 q15 q16) hZ (hw _ (List.mem_of_getElem? (i := 14) rfl)) (hw _ (List.mem_of_getElem? (i := 2) rfl)) (by decide) (by decide)) (g := (mkF m 6 #[.val (.ref xs), .val (.ref ca)] [.null, (.int (Int32.ofNat cs.length)), (.int (0 : Int32)), (.ref ca), (.ref xs)])) rfl (by rw [hml]; rfl) (Steps.refl _) (a := xs) (argsL := [(.ref ca), (.int (0 : Int32)), (.int (Int32.ofNat cs.length)), .null]) (rest := []) (lenOf pd_7 rfl) rfl (by show 2 * 0 + _ ≤ _; exact Nat.le_of_eq rfl) (hb hby d_jdk_42_method_3_code_6) (fun _ _ => ⟨rfl, e0, (by decide : 0 + 2 ≤ _), (by decide : 0 + 12 ≤ _)⟩)
  dsimp only [Pt.U, Pt.locs, Pt.cells, Pt.slots] at X302 l302 y302 z302 st302 hQ302
  subst l302 y302 z302
  obtain ⟨tt_302, kt_302, rfl, Nq302, K302, f302_0, f302_1, f302_2, f302_3⟩ := hQ302
  have N302 := Fr.app N0 Nq302
  obtain ⟨fs, hr, hrun, hended, hW, hsame⟩ := X302.leave (v := none) (fun _ => rfl)
  refine ⟨_, _, pre0 _ ?_, hrun, hended, _, _, rfl, ?_, ⟨_, rfl⟩, hW, hsame.mono (by decide) (by decide)⟩
  · refine XS.aloadN X0.here hx rfl (hb hby d_jdk_42_method_3_code_0) rfl rfl ?_
    show Steps p.tables e below (s₁.setTop (mkF m 1 #[.val (.ref xs), .val (.ref ca)] [(.ref xs)])) _
    refine XS.aloadN X0.here hx rfl (hb hby d_jdk_42_method_3_code_1) rfl rfl ?_
    show Steps p.tables e below (s₁.setTop (mkF m 2 #[.val (.ref xs), .val (.ref ca)] [(.ref ca), (.ref xs)])) _
    refine XS.iconst X0.here hx rfl (hb hby d_jdk_42_method_3_code_2) ?_
    show Steps p.tables e below (s₁.setTop (mkF m 3 #[.val (.ref xs), .val (.ref ca)] [(.int (0 : Int32)), (.ref ca), (.ref xs)])) _
    refine XS.aloadN X0.here hx rfl (hb hby d_jdk_42_method_3_code_3) rfl rfl ?_
    show Steps p.tables e below (s₁.setTop (mkF m 4 #[.val (.ref xs), .val (.ref ca)] [(.ref ca), (.int (0 : Int32)), (.ref ca), (.ref xs)])) _
    refine X0.arraylength hx (by rw [e0]; exact Ar301.1) (State.isArrayOf_alike hZ.alike Ar301.2.1) (g := (mkF m 4 #[.val (.ref xs), .val (.ref ca)] [(.ref ca), (.int (0 : Int32)), (.ref ca), (.ref xs)])) rfl rfl (hb hby d_jdk_42_method_3_code_4) _ ?_
    rw [len_of S301 M301]
    show Steps p.tables e below (s₁.setTop (mkF m 5 #[.val (.ref xs), .val (.ref ca)] [(.int (Int32.ofNat cs.length)), (.int (0 : Int32)), (.ref ca), (.ref xs)])) _
    refine XS.aconstNull X0.here hx rfl (hb hby d_jdk_42_method_3_code_5) ?_
    show Steps p.tables e below (s₁.setTop (mkF m 6 #[.val (.ref xs), .val (.ref ca)] [.null, (.int (Int32.ofNat cs.length)), (.int (0 : Int32)), (.ref ca), (.ref xs)])) _
    refine st302.trans ?_
    show Steps p.tables e below (T302.setTop (mkF m 9 #[.val (.ref xs), .val (.ref ca)] [])) _
    exact X302.returnOut hx Bd.returns (hb hby d_jdk_42_method_3_code_9) hr
  · show Q_new1w Z xs ca kc cs dv rr G h0 n0 _ T302.heap _
    exact ⟨tt_302, kt_302, rfl, N302, ((Keep.refl h0 ([xs] : List Addr)).trans K302 (allS (Or.inl (by simp)) all0)), f302_0, f302_1, (Nat.le_trans (Nat.le_refl _) f302_2), f302_3⟩
theorem own_getmem {cs : List Int32} {i : Nat} (h : i < cs.length) : cs.getD i 0 ∈ cs := by
  have e : cs.getD i 0 = cs[i] := by simp [List.getD_eq_getElem?_getD, h]
  rw [e]; exact List.getElem_mem _
theorem own_n4 (x : Int32) : ((x &&& (3 : Int32)) + (1 : Int32)) = (1 : Int32) ∨ ((x &&& (3 : Int32)) + (1 : Int32)) = (2 : Int32) ∨ ((x &&& (3 : Int32)) + (1 : Int32)) = (3 : Int32) ∨ ((x &&& (3 : Int32)) + (1 : Int32)) = (4 : Int32) := by
  have h := c_and x 3 (by decide)
  have e3 : (3 : Int32).toInt = 3 := rfl
  have own_i : ∀ (y : Int32) (k : Int), y.toInt = k → (x &&& (3 : Int32)).toInt = k → (x &&& (3 : Int32)) = y := fun y k hy hx => Int32.toInt_inj.mp (hx.trans hy.symm)
  have hh : (x &&& (3 : Int32)).toInt = 0 ∨ (x &&& (3 : Int32)).toInt = 1 ∨ (x &&& (3 : Int32)).toInt = 2 ∨ (x &&& (3 : Int32)).toInt = 3 := by omega
  rcases hh with q | q | q | q
  · rw [own_i 0 0 rfl q]; exact Or.inl rfl
  · rw [own_i 1 1 rfl q]; exact Or.inr (Or.inl rfl)
  · rw [own_i 2 2 rfl q]; exact Or.inr (Or.inr (Or.inl rfl))
  · rw [own_i 3 3 rfl q]; exact Or.inr (Or.inr (Or.inr rfl))
def own_W (c : Int32) : Prop := ¬ c < 0 ∧ ¬ (65535 : Int32) < c
theorem own_codw {cs : List Int32} (h : ∃ c ∈ cs, (255 : Int32) < c) : StrChars.Road.CodA cs 1 (Int32.ofNat (2 * cs.length)) (StrChars.Road.wideBytes cs) := Or.inr ⟨rfl, rfl, rfl, h⟩
theorem d_method_2_code_0 : decode method_2_code 0 = .ok (.iload_n 1, 1) := by decide +kernel
theorem d_method_2_code_1 : decode method_2_code 1 = .ok (.i2c, 1) := by decide +kernel
theorem d_method_2_code_2 : decode method_2_code 2 = .ok (.istore 5, 2) := by decide +kernel
theorem d_method_2_code_4 : decode method_2_code 4 = .ok (.iload_n 2, 1) := by decide +kernel
theorem d_method_2_code_5 : decode method_2_code 5 = .ok (.i2c, 1) := by decide +kernel
theorem d_method_2_code_6 : decode method_2_code 6 = .ok (.istore 6, 2) := by decide +kernel
theorem d_method_2_code_8 : decode method_2_code 8 = .ok (.iload_n 3, 1) := by decide +kernel
theorem d_method_2_code_9 : decode method_2_code 9 = .ok (.i2c, 1) := by decide +kernel
theorem d_method_2_code_10 : decode method_2_code 10 = .ok (.istore 7, 2) := by decide +kernel
theorem d_method_2_code_12 : decode method_2_code 12 = .ok (.iload 4, 2) := by decide +kernel
theorem d_method_2_code_14 : decode method_2_code 14 = .ok (.i2c, 1) := by decide +kernel
theorem d_method_2_code_15 : decode method_2_code 15 = .ok (.istore 8, 2) := by decide +kernel
theorem d_method_2_code_17 : decode method_2_code 17 = .ok (.iload_n 0, 1) := by decide +kernel
theorem d_method_2_code_18 : decode method_2_code 18 = .ok (.iconst 1, 1) := by decide +kernel
theorem d_method_2_code_19 : decode method_2_code 19 = .ok (.if_icmp .ne 12, 3) := by decide +kernel
theorem d_method_2_code_22 : decode method_2_code 22 = .ok (.iconst 1, 1) := by decide +kernel
theorem d_method_2_code_23 : decode method_2_code 23 = .ok (.newarray .char, 2) := by decide +kernel
theorem d_method_2_code_25 : decode method_2_code 25 = .ok (.dup, 1) := by decide +kernel
theorem d_method_2_code_26 : decode method_2_code 26 = .ok (.iconst 0, 1) := by decide +kernel
theorem d_method_2_code_27 : decode method_2_code 27 = .ok (.iload 5, 2) := by decide +kernel
theorem d_method_2_code_29 : decode method_2_code 29 = .ok (.castore, 1) := by decide +kernel
theorem d_method_2_code_30 : decode method_2_code 30 = .ok (.areturn, 1) := by decide +kernel
theorem d_method_2_code_31 : decode method_2_code 31 = .ok (.iload_n 0, 1) := by decide +kernel
theorem d_method_2_code_32 : decode method_2_code 32 = .ok (.iconst 2, 1) := by decide +kernel
theorem d_method_2_code_33 : decode method_2_code 33 = .ok (.if_icmp .ne 17, 3) := by decide +kernel
theorem d_method_2_code_36 : decode method_2_code 36 = .ok (.iconst 2, 1) := by decide +kernel
theorem d_method_2_code_37 : decode method_2_code 37 = .ok (.newarray .char, 2) := by decide +kernel
theorem d_method_2_code_39 : decode method_2_code 39 = .ok (.dup, 1) := by decide +kernel
theorem d_method_2_code_40 : decode method_2_code 40 = .ok (.iconst 0, 1) := by decide +kernel
theorem d_method_2_code_41 : decode method_2_code 41 = .ok (.iload 5, 2) := by decide +kernel
theorem d_method_2_code_43 : decode method_2_code 43 = .ok (.castore, 1) := by decide +kernel
theorem d_method_2_code_44 : decode method_2_code 44 = .ok (.dup, 1) := by decide +kernel
theorem d_method_2_code_45 : decode method_2_code 45 = .ok (.iconst 1, 1) := by decide +kernel
theorem d_method_2_code_46 : decode method_2_code 46 = .ok (.iload 6, 2) := by decide +kernel
theorem d_method_2_code_48 : decode method_2_code 48 = .ok (.castore, 1) := by decide +kernel
theorem d_method_2_code_49 : decode method_2_code 49 = .ok (.areturn, 1) := by decide +kernel
theorem d_method_2_code_50 : decode method_2_code 50 = .ok (.iload_n 0, 1) := by decide +kernel
theorem d_method_2_code_51 : decode method_2_code 51 = .ok (.iconst 3, 1) := by decide +kernel
theorem d_method_2_code_52 : decode method_2_code 52 = .ok (.if_icmp .ne 22, 3) := by decide +kernel
theorem d_method_2_code_55 : decode method_2_code 55 = .ok (.iconst 3, 1) := by decide +kernel
theorem d_method_2_code_56 : decode method_2_code 56 = .ok (.newarray .char, 2) := by decide +kernel
theorem d_method_2_code_58 : decode method_2_code 58 = .ok (.dup, 1) := by decide +kernel
theorem d_method_2_code_59 : decode method_2_code 59 = .ok (.iconst 0, 1) := by decide +kernel
theorem d_method_2_code_60 : decode method_2_code 60 = .ok (.iload 5, 2) := by decide +kernel
theorem d_method_2_code_62 : decode method_2_code 62 = .ok (.castore, 1) := by decide +kernel
theorem d_method_2_code_63 : decode method_2_code 63 = .ok (.dup, 1) := by decide +kernel
theorem d_method_2_code_64 : decode method_2_code 64 = .ok (.iconst 1, 1) := by decide +kernel
theorem d_method_2_code_65 : decode method_2_code 65 = .ok (.iload 6, 2) := by decide +kernel
theorem d_method_2_code_67 : decode method_2_code 67 = .ok (.castore, 1) := by decide +kernel
theorem d_method_2_code_68 : decode method_2_code 68 = .ok (.dup, 1) := by decide +kernel
theorem d_method_2_code_69 : decode method_2_code 69 = .ok (.iconst 2, 1) := by decide +kernel
theorem d_method_2_code_70 : decode method_2_code 70 = .ok (.iload 7, 2) := by decide +kernel
theorem d_method_2_code_72 : decode method_2_code 72 = .ok (.castore, 1) := by decide +kernel
theorem d_method_2_code_73 : decode method_2_code 73 = .ok (.areturn, 1) := by decide +kernel
theorem d_method_2_code_74 : decode method_2_code 74 = .ok (.iconst 4, 1) := by decide +kernel
theorem d_method_2_code_75 : decode method_2_code 75 = .ok (.newarray .char, 2) := by decide +kernel
theorem d_method_2_code_77 : decode method_2_code 77 = .ok (.dup, 1) := by decide +kernel
theorem d_method_2_code_78 : decode method_2_code 78 = .ok (.iconst 0, 1) := by decide +kernel
theorem d_method_2_code_79 : decode method_2_code 79 = .ok (.iload 5, 2) := by decide +kernel
theorem d_method_2_code_81 : decode method_2_code 81 = .ok (.castore, 1) := by decide +kernel
theorem d_method_2_code_82 : decode method_2_code 82 = .ok (.dup, 1) := by decide +kernel
theorem d_method_2_code_83 : decode method_2_code 83 = .ok (.iconst 1, 1) := by decide +kernel
theorem d_method_2_code_84 : decode method_2_code 84 = .ok (.iload 6, 2) := by decide +kernel
theorem d_method_2_code_86 : decode method_2_code 86 = .ok (.castore, 1) := by decide +kernel
theorem d_method_2_code_87 : decode method_2_code 87 = .ok (.dup, 1) := by decide +kernel
theorem d_method_2_code_88 : decode method_2_code 88 = .ok (.iconst 2, 1) := by decide +kernel
theorem d_method_2_code_89 : decode method_2_code 89 = .ok (.iload 7, 2) := by decide +kernel
theorem d_method_2_code_91 : decode method_2_code 91 = .ok (.castore, 1) := by decide +kernel
theorem d_method_2_code_92 : decode method_2_code 92 = .ok (.dup, 1) := by decide +kernel
theorem d_method_2_code_93 : decode method_2_code 93 = .ok (.iconst 3, 1) := by decide +kernel
theorem d_method_2_code_94 : decode method_2_code 94 = .ok (.iload 8, 2) := by decide +kernel
theorem d_method_2_code_96 : decode method_2_code 96 = .ok (.castore, 1) := by decide +kernel
theorem d_method_2_code_97 : decode method_2_code 97 = .ok (.areturn, 1) := by decide +kernel
theorem ef_8 (m : MethodId) (x0 : Int32) (x1 : Int32) (x2 : Int32) (x3 : Int32) (x4 : Int32) : entryFrame m #[(.int x0), (.int x1), (.int x2), (.int x3), (.int x4)] 9 = mkF m 0 #[.val (.int x0), .val (.int x1), .val (.int x2), .val (.int x3), .val (.int x4), .unset, .unset, .unset, .unset] [] := by first | (simp [entryFrame, mkF, argsToLocals, Value.category]; done) | rfl
theorem pn_2 : plainName "com/example/data_to_domain/datatodomain/NamesFieldNamePinLaw" = true := by first | (simp [plainName, overriddenIn]; done) | decide +kernel
def Q_draw (Z : State) (nq : Int32) (i1 : Int32) (i2 : Int32) (i3 : Int32) (i4 : Int32) (h0 : Heap) (n0 : Nat) (v : Option Value) (h : Heap) (L : List Loc) : Prop := ∃ (ca : Addr) (kc : ClassId) (cs : List Int32), (v = some (.ref ca)) ∧ (Fr n0 L) ∧ (Keep h0 h ([] : List Addr)) ∧ (h0.size ≤ ca) ∧ (Arv Z h ca kc .char nq (cs.map Value.int) (.int (0 : Int32))) ∧ (nq = Int32.ofNat cs.length ∧ cs.length = nq.toNatClampNeg ∧ ∀ c ∈ cs, own_W c)
set_option maxRecDepth 65536 in
set_option maxHeartbeats 40000000 in
theorem rm_draw (l : Launch) (Z : State) (a0 : Array Value) (hw : ∀ d ∈ tables_1, d.before a0 Z = true) (ws : List Jvm.Cond) (nq : Int32) (i1 : Int32) (i2 : Int32) (i3 : Int32) (i4 : Int32) (h0 : Heap) (n0 : Nat) (Z0 : n0 ≤ h0.size) (hq : nq = (1 : Int32) ∨ nq = (2 : Int32) ∨ nq = (3 : Int32) ∨ nq = (4 : Int32)) :
    MetFree l (⟨"com/example/data_to_domain/datatodomain/NamesFieldNamePinLaw", "draw", "(IIIII)[C"⟩ : MethodName) (head1 (Jvm.Cond.code (⟨"com/example/data_to_domain/datatodomain/NamesFieldNamePinLaw", "draw", "(IIIII)[C"⟩ : MethodName) method_2_code 9 (some (.array .char)) :: ws) ({ frames := 0, cells := 1, slots := 4, locals := 0 } : Room)) (fun a₁ U₁ => a₁ = #[(.int nq), (.int i1), (.int i2), (.int i3), (.int i4)] ∧ Z.Warmed39 U₁.vm ∧ U₁.heap = h0) (fun _ _ _ _ _ => True) (fun _ U₁ o₁ U₂ => ∃ v₁ L₁, o₁ = .returned v₁ ∧ Q_draw Z nq i1 i2 i3 i4 h0 n0 v₁ U₂.heap L₁ ∧ FrameEnd U₁ o₁ U₂ L₁ ({ frames := 0, cells := 1, slots := 4, locals := 0 } : Room).cells ({ frames := 0, cells := 1, slots := 4, locals := 0 } : Room).slots) := by
  refine MetFree.of_bodySF (plainFor_of_name pn_2) hisR ?_
  intro p e s m args below meth c s₁ Bd hml0 hP hK
  obtain ⟨rfl, hZ, hh⟩ := hP
  have hx := Bd.exec
  have hby := Bd.bytes
  have hml : c.maxLocals = 9 := hml0
  have hown : s.vm.findClass "com/example/data_to_domain/datatodomain/NamesFieldNamePinLaw" = some m.cls := findClass_of_methodNamed Bd.named
  have hnm := (name_of_methodNamed Bd.named Bd.method).1
  have X0 : Stand p l e ({ frames := 0, cells := 1, slots := 4, locals := 0 } : Room) s m #[(.int nq), (.int i1), (.int i2), (.int i3), (.int i4)] below meth c s₁ [] 0 0 := Stand.of_body Bd
  have e0 : s₁.heap = h0 := by rw [← hh, Bd.state]; rfl
  have N0 := Fr.nil n0
  have pre0 : ∀ t, Steps p.tables e below (s₁.setTop (mkF m 0 #[.val (.int nq), .val (.int i1), .val (.int i2), .val (.int i3), .val (.int i4), .unset, .unset, .unset, .unset] [])) t → Steps p.tables e below (s₁.setTop (entryFrame m #[(.int nq), (.int i1), (.int i2), (.int i3), (.int i4)] 9)) t := fun t k => castTop (ef_8 m nq i1 i2 i3 i4) k
  have pre301 : ∀ t, Steps p.tables e below (s₁.setTop (mkF m 17 #[.val (.int nq), .val (.int i1), .val (.int i2), .val (.int i3), .val (.int i4), .val (.int (i1.toUInt32.toUInt16.toUInt32.toInt32)), .val (.int (i2.toUInt32.toUInt16.toUInt32.toInt32)), .val (.int (i3.toUInt32.toUInt16.toUInt32.toInt32)), .val (.int (i4.toUInt32.toUInt16.toUInt32.toInt32))] [])) t → Steps p.tables e below (s₁.setTop (entryFrame m #[(.int nq), (.int i1), (.int i2), (.int i3), (.int i4)] 9)) t := fun t kk => pre0 t (by
    refine XS.iloadN X0.here hx rfl (hb hby d_method_2_code_0) rfl ?_
    show Steps p.tables e below (s₁.setTop (mkF m 1 #[.val (.int nq), .val (.int i1), .val (.int i2), .val (.int i3), .val (.int i4), .unset, .unset, .unset, .unset] [(.int i1)])) _
    refine XS.i2c X0.here hx rfl (hb hby d_method_2_code_1) rfl ?_
    show Steps p.tables e below (s₁.setTop (mkF m 2 #[.val (.int nq), .val (.int i1), .val (.int i2), .val (.int i3), .val (.int i4), .unset, .unset, .unset, .unset] [(.int (i1.toUInt32.toUInt16.toUInt32.toInt32))])) _
    refine XS.istore X0.here hx rfl (hb hby d_method_2_code_2) rfl (l' := #[.val (.int nq), .val (.int i1), .val (.int i2), .val (.int i3), .val (.int i4), .val (.int (i1.toUInt32.toUInt16.toUInt32.toInt32)), .unset, .unset, .unset]) rfl ?_
    show Steps p.tables e below (s₁.setTop (mkF m 4 #[.val (.int nq), .val (.int i1), .val (.int i2), .val (.int i3), .val (.int i4), .val (.int (i1.toUInt32.toUInt16.toUInt32.toInt32)), .unset, .unset, .unset] [])) _
    refine XS.iloadN X0.here hx rfl (hb hby d_method_2_code_4) rfl ?_
    show Steps p.tables e below (s₁.setTop (mkF m 5 #[.val (.int nq), .val (.int i1), .val (.int i2), .val (.int i3), .val (.int i4), .val (.int (i1.toUInt32.toUInt16.toUInt32.toInt32)), .unset, .unset, .unset] [(.int i2)])) _
    refine XS.i2c X0.here hx rfl (hb hby d_method_2_code_5) rfl ?_
    show Steps p.tables e below (s₁.setTop (mkF m 6 #[.val (.int nq), .val (.int i1), .val (.int i2), .val (.int i3), .val (.int i4), .val (.int (i1.toUInt32.toUInt16.toUInt32.toInt32)), .unset, .unset, .unset] [(.int (i2.toUInt32.toUInt16.toUInt32.toInt32))])) _
    refine XS.istore X0.here hx rfl (hb hby d_method_2_code_6) rfl (l' := #[.val (.int nq), .val (.int i1), .val (.int i2), .val (.int i3), .val (.int i4), .val (.int (i1.toUInt32.toUInt16.toUInt32.toInt32)), .val (.int (i2.toUInt32.toUInt16.toUInt32.toInt32)), .unset, .unset]) rfl ?_
    show Steps p.tables e below (s₁.setTop (mkF m 8 #[.val (.int nq), .val (.int i1), .val (.int i2), .val (.int i3), .val (.int i4), .val (.int (i1.toUInt32.toUInt16.toUInt32.toInt32)), .val (.int (i2.toUInt32.toUInt16.toUInt32.toInt32)), .unset, .unset] [])) _
    refine XS.iloadN X0.here hx rfl (hb hby d_method_2_code_8) rfl ?_
    show Steps p.tables e below (s₁.setTop (mkF m 9 #[.val (.int nq), .val (.int i1), .val (.int i2), .val (.int i3), .val (.int i4), .val (.int (i1.toUInt32.toUInt16.toUInt32.toInt32)), .val (.int (i2.toUInt32.toUInt16.toUInt32.toInt32)), .unset, .unset] [(.int i3)])) _
    refine XS.i2c X0.here hx rfl (hb hby d_method_2_code_9) rfl ?_
    show Steps p.tables e below (s₁.setTop (mkF m 10 #[.val (.int nq), .val (.int i1), .val (.int i2), .val (.int i3), .val (.int i4), .val (.int (i1.toUInt32.toUInt16.toUInt32.toInt32)), .val (.int (i2.toUInt32.toUInt16.toUInt32.toInt32)), .unset, .unset] [(.int (i3.toUInt32.toUInt16.toUInt32.toInt32))])) _
    refine XS.istore X0.here hx rfl (hb hby d_method_2_code_10) rfl (l' := #[.val (.int nq), .val (.int i1), .val (.int i2), .val (.int i3), .val (.int i4), .val (.int (i1.toUInt32.toUInt16.toUInt32.toInt32)), .val (.int (i2.toUInt32.toUInt16.toUInt32.toInt32)), .val (.int (i3.toUInt32.toUInt16.toUInt32.toInt32)), .unset]) rfl ?_
    show Steps p.tables e below (s₁.setTop (mkF m 12 #[.val (.int nq), .val (.int i1), .val (.int i2), .val (.int i3), .val (.int i4), .val (.int (i1.toUInt32.toUInt16.toUInt32.toInt32)), .val (.int (i2.toUInt32.toUInt16.toUInt32.toInt32)), .val (.int (i3.toUInt32.toUInt16.toUInt32.toInt32)), .unset] [])) _
    refine XS.iload X0.here hx rfl (hb hby d_method_2_code_12) rfl ?_
    show Steps p.tables e below (s₁.setTop (mkF m 14 #[.val (.int nq), .val (.int i1), .val (.int i2), .val (.int i3), .val (.int i4), .val (.int (i1.toUInt32.toUInt16.toUInt32.toInt32)), .val (.int (i2.toUInt32.toUInt16.toUInt32.toInt32)), .val (.int (i3.toUInt32.toUInt16.toUInt32.toInt32)), .unset] [(.int i4)])) _
    refine XS.i2c X0.here hx rfl (hb hby d_method_2_code_14) rfl ?_
    show Steps p.tables e below (s₁.setTop (mkF m 15 #[.val (.int nq), .val (.int i1), .val (.int i2), .val (.int i3), .val (.int i4), .val (.int (i1.toUInt32.toUInt16.toUInt32.toInt32)), .val (.int (i2.toUInt32.toUInt16.toUInt32.toInt32)), .val (.int (i3.toUInt32.toUInt16.toUInt32.toInt32)), .unset] [(.int (i4.toUInt32.toUInt16.toUInt32.toInt32))])) _
    refine XS.istore X0.here hx rfl (hb hby d_method_2_code_15) rfl (l' := #[.val (.int nq), .val (.int i1), .val (.int i2), .val (.int i3), .val (.int i4), .val (.int (i1.toUInt32.toUInt16.toUInt32.toInt32)), .val (.int (i2.toUInt32.toUInt16.toUInt32.toInt32)), .val (.int (i3.toUInt32.toUInt16.toUInt32.toInt32)), .val (.int (i4.toUInt32.toUInt16.toUInt32.toInt32))]) rfl ?_
    show Steps p.tables e below (s₁.setTop (mkF m 17 #[.val (.int nq), .val (.int i1), .val (.int i2), .val (.int i3), .val (.int i4), .val (.int (i1.toUInt32.toUInt16.toUInt32.toInt32)), .val (.int (i2.toUInt32.toUInt16.toUInt32.toInt32)), .val (.int (i3.toUInt32.toUInt16.toUInt32.toInt32)), .val (.int (i4.toUInt32.toUInt16.toUInt32.toInt32))] [])) _
    exact kk)
  obtain ⟨x0, h_x0⟩ : ∃ z, z = (i1.toUInt32.toUInt16.toUInt32.toInt32) := ⟨_, rfl⟩
  rw [← h_x0] at pre301
  have hx0 : own_W x0 := by rw [h_x0]; exact own_i2c _
  obtain ⟨x1, h_x1⟩ : ∃ z, z = (i2.toUInt32.toUInt16.toUInt32.toInt32) := ⟨_, rfl⟩
  rw [← h_x1] at pre301
  have hx1 : own_W x1 := by rw [h_x1]; exact own_i2c _
  obtain ⟨x2, h_x2⟩ : ∃ z, z = (i3.toUInt32.toUInt16.toUInt32.toInt32) := ⟨_, rfl⟩
  rw [← h_x2] at pre301
  have hx2 : own_W x2 := by rw [h_x2]; exact own_i2c _
  obtain ⟨x3, h_x3⟩ : ∃ z, z = (i4.toUInt32.toUInt16.toUInt32.toInt32) := ⟨_, rfl⟩
  rw [← h_x3] at pre301
  have hx3 : own_W x3 := by rw [h_x3]; exact own_i2c _
  rcases hq with hq | hq | hq | hq
  · subst hq
    obtain ⟨T302, h302, ky302, X302, e302, E302, A302, st302⟩ := newP X0 hx hZ (hw _ (List.mem_of_getElem? (i := 7) rfl)) e0 (g := (mkF m 23 #[.val (.int (1 : Int32)), .val (.int i1), .val (.int i2), .val (.int i3), .val (.int i4), .val (.int x0), .val (.int x1), .val (.int x2), .val (.int x3)] [(.int (1 : Int32))])) rfl (hb hby d_method_2_code_23) rfl ((by decide) : ¬ ((1 : Int32) < (0 : Int32))) (cap := 1) ((by decide) : (1 : Int32).toNatClampNeg ≤ 1) (by decide) (by decide) (by decide)
    obtain ⟨b302, g302⟩ : ∃ z, z = h0.size := ⟨_, rfl⟩
    rw [← g302] at A302 st302
    have V302 : Arv Z h302 b302 ky302 .char (1 : Int32) [] (.int (0 : Int32)) := Arv.new A302 (by decide)
    have U302 : Arv Z h302 b302 ky302 .char (1 : Int32) [(.int (0 : Int32))] (.int (0 : Int32)) := V302.pad (pad_rep [] (.int (0 : Int32)) 1)
    have ge304 : n0 ≤ b302 := Nat.le_trans Z0 (Nat.le_trans (Nat.le_refl _) (Nat.le_of_eq g302.symm))
    obtain ⟨cl303, Ar303, qq303, S303, M303, Hh303, U303⟩ := id U302
    obtain ⟨T303, h303, X303, e303, W303, st303⟩ := stC X302 hx hZ e302 Ar303 (j := (0 : Int32)) (inb_of S303 ⟨(by decide : ¬ ((0 : Int32) < (0 : Int32))), (by decide : (0 : Int32) < (1 : Int32))⟩) (g := (mkF m 29 #[.val (.int (1 : Int32)), .val (.int i1), .val (.int i2), .val (.int i3), .val (.int i4), .val (.int x0), .val (.int x1), .val (.int x2), .val (.int x3)] [(.int x0), (.int (0 : Int32)), (.ref b302), (.ref b302)])) rfl rfl (hb hby d_method_2_code_29)
    have N303 := Fr.snoc X303 N0 ge304
    have V303 : Arv Z h303 b302 ky302 .char (1 : Int32) [(.int (nar .char x0))] (.int (0 : Int32)) := Arv.set Ar303 qq303 S303 M303 Hh303 U303 (fits_nar_char _) W303 0 rfl (Nat.le_of_ble_eq_true rfl)
    have VR303 : Arv Z h303 b302 ky302 .char (1 : Int32) [(.int x0)] (.int (0 : Int32)) := by have q := V303; rw [(show nar .char x0 = x0 from own_nc hx0.1 hx0.2)] at q; exact q
    obtain ⟨fs, hr, hrun, hended, hW, hsame⟩ := X303.leave (v := some (.ref b302)) (fun h => by rw [Bd.returns] at h; cases h)
    refine ⟨_, _, pre301 _ ?_, hrun, hended, _, _, rfl, ?_, ⟨_, rfl⟩, hW, hsame.mono (by decide) (by decide)⟩
    · refine XS.iloadN X0.here hx rfl (hb hby d_method_2_code_17) rfl ?_
      show Steps p.tables e below (s₁.setTop (mkF m 18 #[.val (.int (1 : Int32)), .val (.int i1), .val (.int i2), .val (.int i3), .val (.int i4), .val (.int x0), .val (.int x1), .val (.int x2), .val (.int x3)] [(.int (1 : Int32))])) _
      refine XS.iconst X0.here hx rfl (hb hby d_method_2_code_18) ?_
      show Steps p.tables e below (s₁.setTop (mkF m 19 #[.val (.int (1 : Int32)), .val (.int i1), .val (.int i2), .val (.int i3), .val (.int i4), .val (.int x0), .val (.int x1), .val (.int x2), .val (.int x3)] [(.int (1 : Int32)), (.int (1 : Int32))])) _
      refine XS.icmpNo X0.here hx rfl (hb hby d_method_2_code_19) rfl (teq ((by decide) : (1 : Int32) = (1 : Int32))).2 ?_
      show Steps p.tables e below (s₁.setTop (mkF m 22 #[.val (.int (1 : Int32)), .val (.int i1), .val (.int i2), .val (.int i3), .val (.int i4), .val (.int x0), .val (.int x1), .val (.int x2), .val (.int x3)] [])) _
      refine XS.iconst X0.here hx rfl (hb hby d_method_2_code_22) ?_
      show Steps p.tables e below (s₁.setTop (mkF m 23 #[.val (.int (1 : Int32)), .val (.int i1), .val (.int i2), .val (.int i3), .val (.int i4), .val (.int x0), .val (.int x1), .val (.int x2), .val (.int x3)] [(.int (1 : Int32))])) _
      refine st302 _ ?_
      show Steps p.tables e below (T302.setTop (mkF m 25 #[.val (.int (1 : Int32)), .val (.int i1), .val (.int i2), .val (.int i3), .val (.int i4), .val (.int x0), .val (.int x1), .val (.int x2), .val (.int x3)] [(.ref b302)])) _
      refine XS.dup X302.here hx rfl (hb hby d_method_2_code_25) rfl rfl ?_
      show Steps p.tables e below (T302.setTop (mkF m 26 #[.val (.int (1 : Int32)), .val (.int i1), .val (.int i2), .val (.int i3), .val (.int i4), .val (.int x0), .val (.int x1), .val (.int x2), .val (.int x3)] [(.ref b302), (.ref b302)])) _
      refine XS.iconst X302.here hx rfl (hb hby d_method_2_code_26) ?_
      show Steps p.tables e below (T302.setTop (mkF m 27 #[.val (.int (1 : Int32)), .val (.int i1), .val (.int i2), .val (.int i3), .val (.int i4), .val (.int x0), .val (.int x1), .val (.int x2), .val (.int x3)] [(.int (0 : Int32)), (.ref b302), (.ref b302)])) _
      refine XS.iload X302.here hx rfl (hb hby d_method_2_code_27) rfl ?_
      show Steps p.tables e below (T302.setTop (mkF m 29 #[.val (.int (1 : Int32)), .val (.int i1), .val (.int i2), .val (.int i3), .val (.int i4), .val (.int x0), .val (.int x1), .val (.int x2), .val (.int x3)] [(.int x0), (.int (0 : Int32)), (.ref b302), (.ref b302)])) _
      refine st303 _ ?_
      show Steps p.tables e below (T303.setTop (mkF m 30 #[.val (.int (1 : Int32)), .val (.int i1), .val (.int i2), .val (.int i3), .val (.int i4), .val (.int x0), .val (.int x1), .val (.int x2), .val (.int x3)] [(.ref b302)])) _
      jvm_step X303.here [X303.here.top, hx, (hb hby d_method_2_code_30), X303.method', Bd.returns, Value.isRef, FieldType.isReference]
      first | (intro acts; rw [hr _ acts rfl rfl rfl]) | rw [hr _ _ rfl rfl rfl]
      exact Steps.refl _
    · show Q_draw Z (1 : Int32) i1 i2 i3 i4 h0 n0 _ T303.heap _
      rw [e303]
      exact ⟨b302, ky302, [x0], rfl, N303, (((Keep.refl h0 ([] : List Addr)).ext E302).wr W303 (Or.inr (Nat.le_trans (Nat.le_refl _) (Nat.le_of_eq g302.symm)))), (Nat.le_trans (Nat.le_refl _) (Nat.le_of_eq g302.symm)), VR303, ⟨rfl, rfl, by intro c hc; simp only [List.mem_cons, List.not_mem_nil, or_false] at hc; rcases hc with rfl <;> assumption⟩⟩
  · subst hq
    obtain ⟨T305, h305, ky305, X305, e305, E305, A305, st305⟩ := newP X0 hx hZ (hw _ (List.mem_of_getElem? (i := 7) rfl)) e0 (g := (mkF m 37 #[.val (.int (2 : Int32)), .val (.int i1), .val (.int i2), .val (.int i3), .val (.int i4), .val (.int x0), .val (.int x1), .val (.int x2), .val (.int x3)] [(.int (2 : Int32))])) rfl (hb hby d_method_2_code_37) rfl ((by decide) : ¬ ((2 : Int32) < (0 : Int32))) (cap := 2) ((by decide) : (2 : Int32).toNatClampNeg ≤ 2) (by decide) (by decide) (by decide)
    obtain ⟨b305, g305⟩ : ∃ z, z = h0.size := ⟨_, rfl⟩
    rw [← g305] at A305 st305
    have V305 : Arv Z h305 b305 ky305 .char (2 : Int32) [] (.int (0 : Int32)) := Arv.new A305 (by decide)
    have U305 : Arv Z h305 b305 ky305 .char (2 : Int32) [(.int (0 : Int32)), (.int (0 : Int32))] (.int (0 : Int32)) := V305.pad (pad_rep [] (.int (0 : Int32)) 2)
    have ge307 : n0 ≤ b305 := Nat.le_trans Z0 (Nat.le_trans (Nat.le_refl _) (Nat.le_of_eq g305.symm))
    obtain ⟨cl306, Ar306, qq306, S306, M306, Hh306, U306⟩ := id U305
    obtain ⟨T306, h306, X306, e306, W306, st306⟩ := stC X305 hx hZ e305 Ar306 (j := (0 : Int32)) (inb_of S306 ⟨(by decide : ¬ ((0 : Int32) < (0 : Int32))), (by decide : (0 : Int32) < (2 : Int32))⟩) (g := (mkF m 43 #[.val (.int (2 : Int32)), .val (.int i1), .val (.int i2), .val (.int i3), .val (.int i4), .val (.int x0), .val (.int x1), .val (.int x2), .val (.int x3)] [(.int x0), (.int (0 : Int32)), (.ref b305), (.ref b305)])) rfl rfl (hb hby d_method_2_code_43)
    have N306 := Fr.snoc X306 N0 ge307
    have V306 : Arv Z h306 b305 ky305 .char (2 : Int32) [(.int (nar .char x0)), (.int (0 : Int32))] (.int (0 : Int32)) := Arv.set Ar306 qq306 S306 M306 Hh306 U306 (fits_nar_char _) W306 0 rfl (Nat.le_of_ble_eq_true rfl)
    have VR306 : Arv Z h306 b305 ky305 .char (2 : Int32) [(.int x0), (.int (0 : Int32))] (.int (0 : Int32)) := by have q := V306; rw [(show nar .char x0 = x0 from own_nc hx0.1 hx0.2)] at q; exact q
    obtain ⟨cl308, Ar308, qq308, S308, M308, Hh308, U308⟩ := id VR306
    obtain ⟨T308, h308, X308, e308, W308, st308⟩ := stC X306 hx hZ e306 Ar308 (j := (1 : Int32)) (inb_of S308 ⟨(by decide : ¬ ((1 : Int32) < (0 : Int32))), (by decide : (1 : Int32) < (2 : Int32))⟩) (g := (mkF m 48 #[.val (.int (2 : Int32)), .val (.int i1), .val (.int i2), .val (.int i3), .val (.int i4), .val (.int x0), .val (.int x1), .val (.int x2), .val (.int x3)] [(.int x1), (.int (1 : Int32)), (.ref b305), (.ref b305)])) rfl rfl (hb hby d_method_2_code_48)
    have N308 := Fr.snoc X308 N306 ge307
    have V308 : Arv Z h308 b305 ky305 .char (2 : Int32) [(.int x0), (.int (nar .char x1))] (.int (0 : Int32)) := Arv.set Ar308 qq308 S308 M308 Hh308 U308 (fits_nar_char _) W308 1 rfl (Nat.le_of_ble_eq_true rfl)
    have VR308 : Arv Z h308 b305 ky305 .char (2 : Int32) [(.int x0), (.int x1)] (.int (0 : Int32)) := by have q := V308; rw [(show nar .char x1 = x1 from own_nc hx1.1 hx1.2)] at q; exact q
    obtain ⟨fs, hr, hrun, hended, hW, hsame⟩ := X308.leave (v := some (.ref b305)) (fun h => by rw [Bd.returns] at h; cases h)
    refine ⟨_, _, pre301 _ ?_, hrun, hended, _, _, rfl, ?_, ⟨_, rfl⟩, hW, hsame.mono (by decide) (by decide)⟩
    · refine XS.iloadN X0.here hx rfl (hb hby d_method_2_code_17) rfl ?_
      show Steps p.tables e below (s₁.setTop (mkF m 18 #[.val (.int (2 : Int32)), .val (.int i1), .val (.int i2), .val (.int i3), .val (.int i4), .val (.int x0), .val (.int x1), .val (.int x2), .val (.int x3)] [(.int (2 : Int32))])) _
      refine XS.iconst X0.here hx rfl (hb hby d_method_2_code_18) ?_
      show Steps p.tables e below (s₁.setTop (mkF m 19 #[.val (.int (2 : Int32)), .val (.int i1), .val (.int i2), .val (.int i3), .val (.int i4), .val (.int x0), .val (.int x1), .val (.int x2), .val (.int x3)] [(.int (1 : Int32)), (.int (2 : Int32))])) _
      refine XS.icmpYes X0.here hx rfl (pc0 := 19) (pc' := 31) rfl (hb hby d_method_2_code_19) rfl (feq ((by decide) : ¬ ((2 : Int32) = (1 : Int32)))).2 (by decide) (by decide) ?_
      show Steps p.tables e below (s₁.setTop (mkF m 31 #[.val (.int (2 : Int32)), .val (.int i1), .val (.int i2), .val (.int i3), .val (.int i4), .val (.int x0), .val (.int x1), .val (.int x2), .val (.int x3)] [])) _
      refine XS.iloadN X0.here hx rfl (hb hby d_method_2_code_31) rfl ?_
      show Steps p.tables e below (s₁.setTop (mkF m 32 #[.val (.int (2 : Int32)), .val (.int i1), .val (.int i2), .val (.int i3), .val (.int i4), .val (.int x0), .val (.int x1), .val (.int x2), .val (.int x3)] [(.int (2 : Int32))])) _
      refine XS.iconst X0.here hx rfl (hb hby d_method_2_code_32) ?_
      show Steps p.tables e below (s₁.setTop (mkF m 33 #[.val (.int (2 : Int32)), .val (.int i1), .val (.int i2), .val (.int i3), .val (.int i4), .val (.int x0), .val (.int x1), .val (.int x2), .val (.int x3)] [(.int (2 : Int32)), (.int (2 : Int32))])) _
      refine XS.icmpNo X0.here hx rfl (hb hby d_method_2_code_33) rfl (teq ((by decide) : (2 : Int32) = (2 : Int32))).2 ?_
      show Steps p.tables e below (s₁.setTop (mkF m 36 #[.val (.int (2 : Int32)), .val (.int i1), .val (.int i2), .val (.int i3), .val (.int i4), .val (.int x0), .val (.int x1), .val (.int x2), .val (.int x3)] [])) _
      refine XS.iconst X0.here hx rfl (hb hby d_method_2_code_36) ?_
      show Steps p.tables e below (s₁.setTop (mkF m 37 #[.val (.int (2 : Int32)), .val (.int i1), .val (.int i2), .val (.int i3), .val (.int i4), .val (.int x0), .val (.int x1), .val (.int x2), .val (.int x3)] [(.int (2 : Int32))])) _
      refine st305 _ ?_
      show Steps p.tables e below (T305.setTop (mkF m 39 #[.val (.int (2 : Int32)), .val (.int i1), .val (.int i2), .val (.int i3), .val (.int i4), .val (.int x0), .val (.int x1), .val (.int x2), .val (.int x3)] [(.ref b305)])) _
      refine XS.dup X305.here hx rfl (hb hby d_method_2_code_39) rfl rfl ?_
      show Steps p.tables e below (T305.setTop (mkF m 40 #[.val (.int (2 : Int32)), .val (.int i1), .val (.int i2), .val (.int i3), .val (.int i4), .val (.int x0), .val (.int x1), .val (.int x2), .val (.int x3)] [(.ref b305), (.ref b305)])) _
      refine XS.iconst X305.here hx rfl (hb hby d_method_2_code_40) ?_
      show Steps p.tables e below (T305.setTop (mkF m 41 #[.val (.int (2 : Int32)), .val (.int i1), .val (.int i2), .val (.int i3), .val (.int i4), .val (.int x0), .val (.int x1), .val (.int x2), .val (.int x3)] [(.int (0 : Int32)), (.ref b305), (.ref b305)])) _
      refine XS.iload X305.here hx rfl (hb hby d_method_2_code_41) rfl ?_
      show Steps p.tables e below (T305.setTop (mkF m 43 #[.val (.int (2 : Int32)), .val (.int i1), .val (.int i2), .val (.int i3), .val (.int i4), .val (.int x0), .val (.int x1), .val (.int x2), .val (.int x3)] [(.int x0), (.int (0 : Int32)), (.ref b305), (.ref b305)])) _
      refine st306 _ ?_
      show Steps p.tables e below (T306.setTop (mkF m 44 #[.val (.int (2 : Int32)), .val (.int i1), .val (.int i2), .val (.int i3), .val (.int i4), .val (.int x0), .val (.int x1), .val (.int x2), .val (.int x3)] [(.ref b305)])) _
      refine XS.dup X306.here hx rfl (hb hby d_method_2_code_44) rfl rfl ?_
      show Steps p.tables e below (T306.setTop (mkF m 45 #[.val (.int (2 : Int32)), .val (.int i1), .val (.int i2), .val (.int i3), .val (.int i4), .val (.int x0), .val (.int x1), .val (.int x2), .val (.int x3)] [(.ref b305), (.ref b305)])) _
      refine XS.iconst X306.here hx rfl (hb hby d_method_2_code_45) ?_
      show Steps p.tables e below (T306.setTop (mkF m 46 #[.val (.int (2 : Int32)), .val (.int i1), .val (.int i2), .val (.int i3), .val (.int i4), .val (.int x0), .val (.int x1), .val (.int x2), .val (.int x3)] [(.int (1 : Int32)), (.ref b305), (.ref b305)])) _
      refine XS.iload X306.here hx rfl (hb hby d_method_2_code_46) rfl ?_
      show Steps p.tables e below (T306.setTop (mkF m 48 #[.val (.int (2 : Int32)), .val (.int i1), .val (.int i2), .val (.int i3), .val (.int i4), .val (.int x0), .val (.int x1), .val (.int x2), .val (.int x3)] [(.int x1), (.int (1 : Int32)), (.ref b305), (.ref b305)])) _
      refine st308 _ ?_
      show Steps p.tables e below (T308.setTop (mkF m 49 #[.val (.int (2 : Int32)), .val (.int i1), .val (.int i2), .val (.int i3), .val (.int i4), .val (.int x0), .val (.int x1), .val (.int x2), .val (.int x3)] [(.ref b305)])) _
      jvm_step X308.here [X308.here.top, hx, (hb hby d_method_2_code_49), X308.method', Bd.returns, Value.isRef, FieldType.isReference]
      first | (intro acts; rw [hr _ acts rfl rfl rfl]) | rw [hr _ _ rfl rfl rfl]
      exact Steps.refl _
    · show Q_draw Z (2 : Int32) i1 i2 i3 i4 h0 n0 _ T308.heap _
      rw [e308]
      exact ⟨b305, ky305, [x0, x1], rfl, N308, ((((Keep.refl h0 ([] : List Addr)).ext E305).wr W306 (Or.inr (Nat.le_trans (Nat.le_refl _) (Nat.le_of_eq g305.symm)))).wr W308 (Or.inr (Nat.le_trans (Nat.le_refl _) (Nat.le_of_eq g305.symm)))), (Nat.le_trans (Nat.le_refl _) (Nat.le_of_eq g305.symm)), VR308, ⟨rfl, rfl, by intro c hc; simp only [List.mem_cons, List.not_mem_nil, or_false] at hc; rcases hc with rfl | rfl <;> assumption⟩⟩
  · subst hq
    obtain ⟨T309, h309, ky309, X309, e309, E309, A309, st309⟩ := newP X0 hx hZ (hw _ (List.mem_of_getElem? (i := 7) rfl)) e0 (g := (mkF m 56 #[.val (.int (3 : Int32)), .val (.int i1), .val (.int i2), .val (.int i3), .val (.int i4), .val (.int x0), .val (.int x1), .val (.int x2), .val (.int x3)] [(.int (3 : Int32))])) rfl (hb hby d_method_2_code_56) rfl ((by decide) : ¬ ((3 : Int32) < (0 : Int32))) (cap := 3) ((by decide) : (3 : Int32).toNatClampNeg ≤ 3) (by decide) (by decide) (by decide)
    obtain ⟨b309, g309⟩ : ∃ z, z = h0.size := ⟨_, rfl⟩
    rw [← g309] at A309 st309
    have V309 : Arv Z h309 b309 ky309 .char (3 : Int32) [] (.int (0 : Int32)) := Arv.new A309 (by decide)
    have U309 : Arv Z h309 b309 ky309 .char (3 : Int32) [(.int (0 : Int32)), (.int (0 : Int32)), (.int (0 : Int32))] (.int (0 : Int32)) := V309.pad (pad_rep [] (.int (0 : Int32)) 3)
    have ge311 : n0 ≤ b309 := Nat.le_trans Z0 (Nat.le_trans (Nat.le_refl _) (Nat.le_of_eq g309.symm))
    obtain ⟨cl310, Ar310, qq310, S310, M310, Hh310, U310⟩ := id U309
    obtain ⟨T310, h310, X310, e310, W310, st310⟩ := stC X309 hx hZ e309 Ar310 (j := (0 : Int32)) (inb_of S310 ⟨(by decide : ¬ ((0 : Int32) < (0 : Int32))), (by decide : (0 : Int32) < (3 : Int32))⟩) (g := (mkF m 62 #[.val (.int (3 : Int32)), .val (.int i1), .val (.int i2), .val (.int i3), .val (.int i4), .val (.int x0), .val (.int x1), .val (.int x2), .val (.int x3)] [(.int x0), (.int (0 : Int32)), (.ref b309), (.ref b309)])) rfl rfl (hb hby d_method_2_code_62)
    have N310 := Fr.snoc X310 N0 ge311
    have V310 : Arv Z h310 b309 ky309 .char (3 : Int32) [(.int (nar .char x0)), (.int (0 : Int32)), (.int (0 : Int32))] (.int (0 : Int32)) := Arv.set Ar310 qq310 S310 M310 Hh310 U310 (fits_nar_char _) W310 0 rfl (Nat.le_of_ble_eq_true rfl)
    have VR310 : Arv Z h310 b309 ky309 .char (3 : Int32) [(.int x0), (.int (0 : Int32)), (.int (0 : Int32))] (.int (0 : Int32)) := by have q := V310; rw [(show nar .char x0 = x0 from own_nc hx0.1 hx0.2)] at q; exact q
    obtain ⟨cl312, Ar312, qq312, S312, M312, Hh312, U312⟩ := id VR310
    obtain ⟨T312, h312, X312, e312, W312, st312⟩ := stC X310 hx hZ e310 Ar312 (j := (1 : Int32)) (inb_of S312 ⟨(by decide : ¬ ((1 : Int32) < (0 : Int32))), (by decide : (1 : Int32) < (3 : Int32))⟩) (g := (mkF m 67 #[.val (.int (3 : Int32)), .val (.int i1), .val (.int i2), .val (.int i3), .val (.int i4), .val (.int x0), .val (.int x1), .val (.int x2), .val (.int x3)] [(.int x1), (.int (1 : Int32)), (.ref b309), (.ref b309)])) rfl rfl (hb hby d_method_2_code_67)
    have N312 := Fr.snoc X312 N310 ge311
    have V312 : Arv Z h312 b309 ky309 .char (3 : Int32) [(.int x0), (.int (nar .char x1)), (.int (0 : Int32))] (.int (0 : Int32)) := Arv.set Ar312 qq312 S312 M312 Hh312 U312 (fits_nar_char _) W312 1 rfl (Nat.le_of_ble_eq_true rfl)
    have VR312 : Arv Z h312 b309 ky309 .char (3 : Int32) [(.int x0), (.int x1), (.int (0 : Int32))] (.int (0 : Int32)) := by have q := V312; rw [(show nar .char x1 = x1 from own_nc hx1.1 hx1.2)] at q; exact q
    obtain ⟨cl313, Ar313, qq313, S313, M313, Hh313, U313⟩ := id VR312
    obtain ⟨T313, h313, X313, e313, W313, st313⟩ := stC X312 hx hZ e312 Ar313 (j := (2 : Int32)) (inb_of S313 ⟨(by decide : ¬ ((2 : Int32) < (0 : Int32))), (by decide : (2 : Int32) < (3 : Int32))⟩) (g := (mkF m 72 #[.val (.int (3 : Int32)), .val (.int i1), .val (.int i2), .val (.int i3), .val (.int i4), .val (.int x0), .val (.int x1), .val (.int x2), .val (.int x3)] [(.int x2), (.int (2 : Int32)), (.ref b309), (.ref b309)])) rfl rfl (hb hby d_method_2_code_72)
    have N313 := Fr.snoc X313 N312 ge311
    have V313 : Arv Z h313 b309 ky309 .char (3 : Int32) [(.int x0), (.int x1), (.int (nar .char x2))] (.int (0 : Int32)) := Arv.set Ar313 qq313 S313 M313 Hh313 U313 (fits_nar_char _) W313 2 rfl (Nat.le_of_ble_eq_true rfl)
    have VR313 : Arv Z h313 b309 ky309 .char (3 : Int32) [(.int x0), (.int x1), (.int x2)] (.int (0 : Int32)) := by have q := V313; rw [(show nar .char x2 = x2 from own_nc hx2.1 hx2.2)] at q; exact q
    obtain ⟨fs, hr, hrun, hended, hW, hsame⟩ := X313.leave (v := some (.ref b309)) (fun h => by rw [Bd.returns] at h; cases h)
    refine ⟨_, _, pre301 _ ?_, hrun, hended, _, _, rfl, ?_, ⟨_, rfl⟩, hW, hsame.mono (by decide) (by decide)⟩
    · refine XS.iloadN X0.here hx rfl (hb hby d_method_2_code_17) rfl ?_
      show Steps p.tables e below (s₁.setTop (mkF m 18 #[.val (.int (3 : Int32)), .val (.int i1), .val (.int i2), .val (.int i3), .val (.int i4), .val (.int x0), .val (.int x1), .val (.int x2), .val (.int x3)] [(.int (3 : Int32))])) _
      refine XS.iconst X0.here hx rfl (hb hby d_method_2_code_18) ?_
      show Steps p.tables e below (s₁.setTop (mkF m 19 #[.val (.int (3 : Int32)), .val (.int i1), .val (.int i2), .val (.int i3), .val (.int i4), .val (.int x0), .val (.int x1), .val (.int x2), .val (.int x3)] [(.int (1 : Int32)), (.int (3 : Int32))])) _
      refine XS.icmpYes X0.here hx rfl (pc0 := 19) (pc' := 31) rfl (hb hby d_method_2_code_19) rfl (feq ((by decide) : ¬ ((3 : Int32) = (1 : Int32)))).2 (by decide) (by decide) ?_
      show Steps p.tables e below (s₁.setTop (mkF m 31 #[.val (.int (3 : Int32)), .val (.int i1), .val (.int i2), .val (.int i3), .val (.int i4), .val (.int x0), .val (.int x1), .val (.int x2), .val (.int x3)] [])) _
      refine XS.iloadN X0.here hx rfl (hb hby d_method_2_code_31) rfl ?_
      show Steps p.tables e below (s₁.setTop (mkF m 32 #[.val (.int (3 : Int32)), .val (.int i1), .val (.int i2), .val (.int i3), .val (.int i4), .val (.int x0), .val (.int x1), .val (.int x2), .val (.int x3)] [(.int (3 : Int32))])) _
      refine XS.iconst X0.here hx rfl (hb hby d_method_2_code_32) ?_
      show Steps p.tables e below (s₁.setTop (mkF m 33 #[.val (.int (3 : Int32)), .val (.int i1), .val (.int i2), .val (.int i3), .val (.int i4), .val (.int x0), .val (.int x1), .val (.int x2), .val (.int x3)] [(.int (2 : Int32)), (.int (3 : Int32))])) _
      refine XS.icmpYes X0.here hx rfl (pc0 := 33) (pc' := 50) rfl (hb hby d_method_2_code_33) rfl (feq ((by decide) : ¬ ((3 : Int32) = (2 : Int32)))).2 (by decide) (by decide) ?_
      show Steps p.tables e below (s₁.setTop (mkF m 50 #[.val (.int (3 : Int32)), .val (.int i1), .val (.int i2), .val (.int i3), .val (.int i4), .val (.int x0), .val (.int x1), .val (.int x2), .val (.int x3)] [])) _
      refine XS.iloadN X0.here hx rfl (hb hby d_method_2_code_50) rfl ?_
      show Steps p.tables e below (s₁.setTop (mkF m 51 #[.val (.int (3 : Int32)), .val (.int i1), .val (.int i2), .val (.int i3), .val (.int i4), .val (.int x0), .val (.int x1), .val (.int x2), .val (.int x3)] [(.int (3 : Int32))])) _
      refine XS.iconst X0.here hx rfl (hb hby d_method_2_code_51) ?_
      show Steps p.tables e below (s₁.setTop (mkF m 52 #[.val (.int (3 : Int32)), .val (.int i1), .val (.int i2), .val (.int i3), .val (.int i4), .val (.int x0), .val (.int x1), .val (.int x2), .val (.int x3)] [(.int (3 : Int32)), (.int (3 : Int32))])) _
      refine XS.icmpNo X0.here hx rfl (hb hby d_method_2_code_52) rfl (teq ((by decide) : (3 : Int32) = (3 : Int32))).2 ?_
      show Steps p.tables e below (s₁.setTop (mkF m 55 #[.val (.int (3 : Int32)), .val (.int i1), .val (.int i2), .val (.int i3), .val (.int i4), .val (.int x0), .val (.int x1), .val (.int x2), .val (.int x3)] [])) _
      refine XS.iconst X0.here hx rfl (hb hby d_method_2_code_55) ?_
      show Steps p.tables e below (s₁.setTop (mkF m 56 #[.val (.int (3 : Int32)), .val (.int i1), .val (.int i2), .val (.int i3), .val (.int i4), .val (.int x0), .val (.int x1), .val (.int x2), .val (.int x3)] [(.int (3 : Int32))])) _
      refine st309 _ ?_
      show Steps p.tables e below (T309.setTop (mkF m 58 #[.val (.int (3 : Int32)), .val (.int i1), .val (.int i2), .val (.int i3), .val (.int i4), .val (.int x0), .val (.int x1), .val (.int x2), .val (.int x3)] [(.ref b309)])) _
      refine XS.dup X309.here hx rfl (hb hby d_method_2_code_58) rfl rfl ?_
      show Steps p.tables e below (T309.setTop (mkF m 59 #[.val (.int (3 : Int32)), .val (.int i1), .val (.int i2), .val (.int i3), .val (.int i4), .val (.int x0), .val (.int x1), .val (.int x2), .val (.int x3)] [(.ref b309), (.ref b309)])) _
      refine XS.iconst X309.here hx rfl (hb hby d_method_2_code_59) ?_
      show Steps p.tables e below (T309.setTop (mkF m 60 #[.val (.int (3 : Int32)), .val (.int i1), .val (.int i2), .val (.int i3), .val (.int i4), .val (.int x0), .val (.int x1), .val (.int x2), .val (.int x3)] [(.int (0 : Int32)), (.ref b309), (.ref b309)])) _
      refine XS.iload X309.here hx rfl (hb hby d_method_2_code_60) rfl ?_
      show Steps p.tables e below (T309.setTop (mkF m 62 #[.val (.int (3 : Int32)), .val (.int i1), .val (.int i2), .val (.int i3), .val (.int i4), .val (.int x0), .val (.int x1), .val (.int x2), .val (.int x3)] [(.int x0), (.int (0 : Int32)), (.ref b309), (.ref b309)])) _
      refine st310 _ ?_
      show Steps p.tables e below (T310.setTop (mkF m 63 #[.val (.int (3 : Int32)), .val (.int i1), .val (.int i2), .val (.int i3), .val (.int i4), .val (.int x0), .val (.int x1), .val (.int x2), .val (.int x3)] [(.ref b309)])) _
      refine XS.dup X310.here hx rfl (hb hby d_method_2_code_63) rfl rfl ?_
      show Steps p.tables e below (T310.setTop (mkF m 64 #[.val (.int (3 : Int32)), .val (.int i1), .val (.int i2), .val (.int i3), .val (.int i4), .val (.int x0), .val (.int x1), .val (.int x2), .val (.int x3)] [(.ref b309), (.ref b309)])) _
      refine XS.iconst X310.here hx rfl (hb hby d_method_2_code_64) ?_
      show Steps p.tables e below (T310.setTop (mkF m 65 #[.val (.int (3 : Int32)), .val (.int i1), .val (.int i2), .val (.int i3), .val (.int i4), .val (.int x0), .val (.int x1), .val (.int x2), .val (.int x3)] [(.int (1 : Int32)), (.ref b309), (.ref b309)])) _
      refine XS.iload X310.here hx rfl (hb hby d_method_2_code_65) rfl ?_
      show Steps p.tables e below (T310.setTop (mkF m 67 #[.val (.int (3 : Int32)), .val (.int i1), .val (.int i2), .val (.int i3), .val (.int i4), .val (.int x0), .val (.int x1), .val (.int x2), .val (.int x3)] [(.int x1), (.int (1 : Int32)), (.ref b309), (.ref b309)])) _
      refine st312 _ ?_
      show Steps p.tables e below (T312.setTop (mkF m 68 #[.val (.int (3 : Int32)), .val (.int i1), .val (.int i2), .val (.int i3), .val (.int i4), .val (.int x0), .val (.int x1), .val (.int x2), .val (.int x3)] [(.ref b309)])) _
      refine XS.dup X312.here hx rfl (hb hby d_method_2_code_68) rfl rfl ?_
      show Steps p.tables e below (T312.setTop (mkF m 69 #[.val (.int (3 : Int32)), .val (.int i1), .val (.int i2), .val (.int i3), .val (.int i4), .val (.int x0), .val (.int x1), .val (.int x2), .val (.int x3)] [(.ref b309), (.ref b309)])) _
      refine XS.iconst X312.here hx rfl (hb hby d_method_2_code_69) ?_
      show Steps p.tables e below (T312.setTop (mkF m 70 #[.val (.int (3 : Int32)), .val (.int i1), .val (.int i2), .val (.int i3), .val (.int i4), .val (.int x0), .val (.int x1), .val (.int x2), .val (.int x3)] [(.int (2 : Int32)), (.ref b309), (.ref b309)])) _
      refine XS.iload X312.here hx rfl (hb hby d_method_2_code_70) rfl ?_
      show Steps p.tables e below (T312.setTop (mkF m 72 #[.val (.int (3 : Int32)), .val (.int i1), .val (.int i2), .val (.int i3), .val (.int i4), .val (.int x0), .val (.int x1), .val (.int x2), .val (.int x3)] [(.int x2), (.int (2 : Int32)), (.ref b309), (.ref b309)])) _
      refine st313 _ ?_
      show Steps p.tables e below (T313.setTop (mkF m 73 #[.val (.int (3 : Int32)), .val (.int i1), .val (.int i2), .val (.int i3), .val (.int i4), .val (.int x0), .val (.int x1), .val (.int x2), .val (.int x3)] [(.ref b309)])) _
      jvm_step X313.here [X313.here.top, hx, (hb hby d_method_2_code_73), X313.method', Bd.returns, Value.isRef, FieldType.isReference]
      first | (intro acts; rw [hr _ acts rfl rfl rfl]) | rw [hr _ _ rfl rfl rfl]
      exact Steps.refl _
    · show Q_draw Z (3 : Int32) i1 i2 i3 i4 h0 n0 _ T313.heap _
      rw [e313]
      exact ⟨b309, ky309, [x0, x1, x2], rfl, N313, (((((Keep.refl h0 ([] : List Addr)).ext E309).wr W310 (Or.inr (Nat.le_trans (Nat.le_refl _) (Nat.le_of_eq g309.symm)))).wr W312 (Or.inr (Nat.le_trans (Nat.le_refl _) (Nat.le_of_eq g309.symm)))).wr W313 (Or.inr (Nat.le_trans (Nat.le_refl _) (Nat.le_of_eq g309.symm)))), (Nat.le_trans (Nat.le_refl _) (Nat.le_of_eq g309.symm)), VR313, ⟨rfl, rfl, by intro c hc; simp only [List.mem_cons, List.not_mem_nil, or_false] at hc; rcases hc with rfl | rfl | rfl <;> assumption⟩⟩
  · subst hq
    obtain ⟨T314, h314, ky314, X314, e314, E314, A314, st314⟩ := newP X0 hx hZ (hw _ (List.mem_of_getElem? (i := 7) rfl)) e0 (g := (mkF m 75 #[.val (.int (4 : Int32)), .val (.int i1), .val (.int i2), .val (.int i3), .val (.int i4), .val (.int x0), .val (.int x1), .val (.int x2), .val (.int x3)] [(.int (4 : Int32))])) rfl (hb hby d_method_2_code_75) rfl ((by decide) : ¬ ((4 : Int32) < (0 : Int32))) (cap := 4) ((by decide) : (4 : Int32).toNatClampNeg ≤ 4) (by decide) (by decide) (by decide)
    obtain ⟨b314, g314⟩ : ∃ z, z = h0.size := ⟨_, rfl⟩
    rw [← g314] at A314 st314
    have V314 : Arv Z h314 b314 ky314 .char (4 : Int32) [] (.int (0 : Int32)) := Arv.new A314 (by decide)
    have U314 : Arv Z h314 b314 ky314 .char (4 : Int32) [(.int (0 : Int32)), (.int (0 : Int32)), (.int (0 : Int32)), (.int (0 : Int32))] (.int (0 : Int32)) := V314.pad (pad_rep [] (.int (0 : Int32)) 4)
    have ge316 : n0 ≤ b314 := Nat.le_trans Z0 (Nat.le_trans (Nat.le_refl _) (Nat.le_of_eq g314.symm))
    obtain ⟨cl315, Ar315, qq315, S315, M315, Hh315, U315⟩ := id U314
    obtain ⟨T315, h315, X315, e315, W315, st315⟩ := stC X314 hx hZ e314 Ar315 (j := (0 : Int32)) (inb_of S315 ⟨(by decide : ¬ ((0 : Int32) < (0 : Int32))), (by decide : (0 : Int32) < (4 : Int32))⟩) (g := (mkF m 81 #[.val (.int (4 : Int32)), .val (.int i1), .val (.int i2), .val (.int i3), .val (.int i4), .val (.int x0), .val (.int x1), .val (.int x2), .val (.int x3)] [(.int x0), (.int (0 : Int32)), (.ref b314), (.ref b314)])) rfl rfl (hb hby d_method_2_code_81)
    have N315 := Fr.snoc X315 N0 ge316
    have V315 : Arv Z h315 b314 ky314 .char (4 : Int32) [(.int (nar .char x0)), (.int (0 : Int32)), (.int (0 : Int32)), (.int (0 : Int32))] (.int (0 : Int32)) := Arv.set Ar315 qq315 S315 M315 Hh315 U315 (fits_nar_char _) W315 0 rfl (Nat.le_of_ble_eq_true rfl)
    have VR315 : Arv Z h315 b314 ky314 .char (4 : Int32) [(.int x0), (.int (0 : Int32)), (.int (0 : Int32)), (.int (0 : Int32))] (.int (0 : Int32)) := by have q := V315; rw [(show nar .char x0 = x0 from own_nc hx0.1 hx0.2)] at q; exact q
    obtain ⟨cl317, Ar317, qq317, S317, M317, Hh317, U317⟩ := id VR315
    obtain ⟨T317, h317, X317, e317, W317, st317⟩ := stC X315 hx hZ e315 Ar317 (j := (1 : Int32)) (inb_of S317 ⟨(by decide : ¬ ((1 : Int32) < (0 : Int32))), (by decide : (1 : Int32) < (4 : Int32))⟩) (g := (mkF m 86 #[.val (.int (4 : Int32)), .val (.int i1), .val (.int i2), .val (.int i3), .val (.int i4), .val (.int x0), .val (.int x1), .val (.int x2), .val (.int x3)] [(.int x1), (.int (1 : Int32)), (.ref b314), (.ref b314)])) rfl rfl (hb hby d_method_2_code_86)
    have N317 := Fr.snoc X317 N315 ge316
    have V317 : Arv Z h317 b314 ky314 .char (4 : Int32) [(.int x0), (.int (nar .char x1)), (.int (0 : Int32)), (.int (0 : Int32))] (.int (0 : Int32)) := Arv.set Ar317 qq317 S317 M317 Hh317 U317 (fits_nar_char _) W317 1 rfl (Nat.le_of_ble_eq_true rfl)
    have VR317 : Arv Z h317 b314 ky314 .char (4 : Int32) [(.int x0), (.int x1), (.int (0 : Int32)), (.int (0 : Int32))] (.int (0 : Int32)) := by have q := V317; rw [(show nar .char x1 = x1 from own_nc hx1.1 hx1.2)] at q; exact q
    obtain ⟨cl318, Ar318, qq318, S318, M318, Hh318, U318⟩ := id VR317
    obtain ⟨T318, h318, X318, e318, W318, st318⟩ := stC X317 hx hZ e317 Ar318 (j := (2 : Int32)) (inb_of S318 ⟨(by decide : ¬ ((2 : Int32) < (0 : Int32))), (by decide : (2 : Int32) < (4 : Int32))⟩) (g := (mkF m 91 #[.val (.int (4 : Int32)), .val (.int i1), .val (.int i2), .val (.int i3), .val (.int i4), .val (.int x0), .val (.int x1), .val (.int x2), .val (.int x3)] [(.int x2), (.int (2 : Int32)), (.ref b314), (.ref b314)])) rfl rfl (hb hby d_method_2_code_91)
    have N318 := Fr.snoc X318 N317 ge316
    have V318 : Arv Z h318 b314 ky314 .char (4 : Int32) [(.int x0), (.int x1), (.int (nar .char x2)), (.int (0 : Int32))] (.int (0 : Int32)) := Arv.set Ar318 qq318 S318 M318 Hh318 U318 (fits_nar_char _) W318 2 rfl (Nat.le_of_ble_eq_true rfl)
    have VR318 : Arv Z h318 b314 ky314 .char (4 : Int32) [(.int x0), (.int x1), (.int x2), (.int (0 : Int32))] (.int (0 : Int32)) := by have q := V318; rw [(show nar .char x2 = x2 from own_nc hx2.1 hx2.2)] at q; exact q
    obtain ⟨cl319, Ar319, qq319, S319, M319, Hh319, U319⟩ := id VR318
    obtain ⟨T319, h319, X319, e319, W319, st319⟩ := stC X318 hx hZ e318 Ar319 (j := (3 : Int32)) (inb_of S319 ⟨(by decide : ¬ ((3 : Int32) < (0 : Int32))), (by decide : (3 : Int32) < (4 : Int32))⟩) (g := (mkF m 96 #[.val (.int (4 : Int32)), .val (.int i1), .val (.int i2), .val (.int i3), .val (.int i4), .val (.int x0), .val (.int x1), .val (.int x2), .val (.int x3)] [(.int x3), (.int (3 : Int32)), (.ref b314), (.ref b314)])) rfl rfl (hb hby d_method_2_code_96)
    have N319 := Fr.snoc X319 N318 ge316
    have V319 : Arv Z h319 b314 ky314 .char (4 : Int32) [(.int x0), (.int x1), (.int x2), (.int (nar .char x3))] (.int (0 : Int32)) := Arv.set Ar319 qq319 S319 M319 Hh319 U319 (fits_nar_char _) W319 3 rfl (Nat.le_of_ble_eq_true rfl)
    have VR319 : Arv Z h319 b314 ky314 .char (4 : Int32) [(.int x0), (.int x1), (.int x2), (.int x3)] (.int (0 : Int32)) := by have q := V319; rw [(show nar .char x3 = x3 from own_nc hx3.1 hx3.2)] at q; exact q
    obtain ⟨fs, hr, hrun, hended, hW, hsame⟩ := X319.leave (v := some (.ref b314)) (fun h => by rw [Bd.returns] at h; cases h)
    refine ⟨_, _, pre301 _ ?_, hrun, hended, _, _, rfl, ?_, ⟨_, rfl⟩, hW, hsame.mono (by decide) (by decide)⟩
    · refine XS.iloadN X0.here hx rfl (hb hby d_method_2_code_17) rfl ?_
      show Steps p.tables e below (s₁.setTop (mkF m 18 #[.val (.int (4 : Int32)), .val (.int i1), .val (.int i2), .val (.int i3), .val (.int i4), .val (.int x0), .val (.int x1), .val (.int x2), .val (.int x3)] [(.int (4 : Int32))])) _
      refine XS.iconst X0.here hx rfl (hb hby d_method_2_code_18) ?_
      show Steps p.tables e below (s₁.setTop (mkF m 19 #[.val (.int (4 : Int32)), .val (.int i1), .val (.int i2), .val (.int i3), .val (.int i4), .val (.int x0), .val (.int x1), .val (.int x2), .val (.int x3)] [(.int (1 : Int32)), (.int (4 : Int32))])) _
      refine XS.icmpYes X0.here hx rfl (pc0 := 19) (pc' := 31) rfl (hb hby d_method_2_code_19) rfl (feq ((by decide) : ¬ ((4 : Int32) = (1 : Int32)))).2 (by decide) (by decide) ?_
      show Steps p.tables e below (s₁.setTop (mkF m 31 #[.val (.int (4 : Int32)), .val (.int i1), .val (.int i2), .val (.int i3), .val (.int i4), .val (.int x0), .val (.int x1), .val (.int x2), .val (.int x3)] [])) _
      refine XS.iloadN X0.here hx rfl (hb hby d_method_2_code_31) rfl ?_
      show Steps p.tables e below (s₁.setTop (mkF m 32 #[.val (.int (4 : Int32)), .val (.int i1), .val (.int i2), .val (.int i3), .val (.int i4), .val (.int x0), .val (.int x1), .val (.int x2), .val (.int x3)] [(.int (4 : Int32))])) _
      refine XS.iconst X0.here hx rfl (hb hby d_method_2_code_32) ?_
      show Steps p.tables e below (s₁.setTop (mkF m 33 #[.val (.int (4 : Int32)), .val (.int i1), .val (.int i2), .val (.int i3), .val (.int i4), .val (.int x0), .val (.int x1), .val (.int x2), .val (.int x3)] [(.int (2 : Int32)), (.int (4 : Int32))])) _
      refine XS.icmpYes X0.here hx rfl (pc0 := 33) (pc' := 50) rfl (hb hby d_method_2_code_33) rfl (feq ((by decide) : ¬ ((4 : Int32) = (2 : Int32)))).2 (by decide) (by decide) ?_
      show Steps p.tables e below (s₁.setTop (mkF m 50 #[.val (.int (4 : Int32)), .val (.int i1), .val (.int i2), .val (.int i3), .val (.int i4), .val (.int x0), .val (.int x1), .val (.int x2), .val (.int x3)] [])) _
      refine XS.iloadN X0.here hx rfl (hb hby d_method_2_code_50) rfl ?_
      show Steps p.tables e below (s₁.setTop (mkF m 51 #[.val (.int (4 : Int32)), .val (.int i1), .val (.int i2), .val (.int i3), .val (.int i4), .val (.int x0), .val (.int x1), .val (.int x2), .val (.int x3)] [(.int (4 : Int32))])) _
      refine XS.iconst X0.here hx rfl (hb hby d_method_2_code_51) ?_
      show Steps p.tables e below (s₁.setTop (mkF m 52 #[.val (.int (4 : Int32)), .val (.int i1), .val (.int i2), .val (.int i3), .val (.int i4), .val (.int x0), .val (.int x1), .val (.int x2), .val (.int x3)] [(.int (3 : Int32)), (.int (4 : Int32))])) _
      refine XS.icmpYes X0.here hx rfl (pc0 := 52) (pc' := 74) rfl (hb hby d_method_2_code_52) rfl (feq ((by decide) : ¬ ((4 : Int32) = (3 : Int32)))).2 (by decide) (by decide) ?_
      show Steps p.tables e below (s₁.setTop (mkF m 74 #[.val (.int (4 : Int32)), .val (.int i1), .val (.int i2), .val (.int i3), .val (.int i4), .val (.int x0), .val (.int x1), .val (.int x2), .val (.int x3)] [])) _
      refine XS.iconst X0.here hx rfl (hb hby d_method_2_code_74) ?_
      show Steps p.tables e below (s₁.setTop (mkF m 75 #[.val (.int (4 : Int32)), .val (.int i1), .val (.int i2), .val (.int i3), .val (.int i4), .val (.int x0), .val (.int x1), .val (.int x2), .val (.int x3)] [(.int (4 : Int32))])) _
      refine st314 _ ?_
      show Steps p.tables e below (T314.setTop (mkF m 77 #[.val (.int (4 : Int32)), .val (.int i1), .val (.int i2), .val (.int i3), .val (.int i4), .val (.int x0), .val (.int x1), .val (.int x2), .val (.int x3)] [(.ref b314)])) _
      refine XS.dup X314.here hx rfl (hb hby d_method_2_code_77) rfl rfl ?_
      show Steps p.tables e below (T314.setTop (mkF m 78 #[.val (.int (4 : Int32)), .val (.int i1), .val (.int i2), .val (.int i3), .val (.int i4), .val (.int x0), .val (.int x1), .val (.int x2), .val (.int x3)] [(.ref b314), (.ref b314)])) _
      refine XS.iconst X314.here hx rfl (hb hby d_method_2_code_78) ?_
      show Steps p.tables e below (T314.setTop (mkF m 79 #[.val (.int (4 : Int32)), .val (.int i1), .val (.int i2), .val (.int i3), .val (.int i4), .val (.int x0), .val (.int x1), .val (.int x2), .val (.int x3)] [(.int (0 : Int32)), (.ref b314), (.ref b314)])) _
      refine XS.iload X314.here hx rfl (hb hby d_method_2_code_79) rfl ?_
      show Steps p.tables e below (T314.setTop (mkF m 81 #[.val (.int (4 : Int32)), .val (.int i1), .val (.int i2), .val (.int i3), .val (.int i4), .val (.int x0), .val (.int x1), .val (.int x2), .val (.int x3)] [(.int x0), (.int (0 : Int32)), (.ref b314), (.ref b314)])) _
      refine st315 _ ?_
      show Steps p.tables e below (T315.setTop (mkF m 82 #[.val (.int (4 : Int32)), .val (.int i1), .val (.int i2), .val (.int i3), .val (.int i4), .val (.int x0), .val (.int x1), .val (.int x2), .val (.int x3)] [(.ref b314)])) _
      refine XS.dup X315.here hx rfl (hb hby d_method_2_code_82) rfl rfl ?_
      show Steps p.tables e below (T315.setTop (mkF m 83 #[.val (.int (4 : Int32)), .val (.int i1), .val (.int i2), .val (.int i3), .val (.int i4), .val (.int x0), .val (.int x1), .val (.int x2), .val (.int x3)] [(.ref b314), (.ref b314)])) _
      refine XS.iconst X315.here hx rfl (hb hby d_method_2_code_83) ?_
      show Steps p.tables e below (T315.setTop (mkF m 84 #[.val (.int (4 : Int32)), .val (.int i1), .val (.int i2), .val (.int i3), .val (.int i4), .val (.int x0), .val (.int x1), .val (.int x2), .val (.int x3)] [(.int (1 : Int32)), (.ref b314), (.ref b314)])) _
      refine XS.iload X315.here hx rfl (hb hby d_method_2_code_84) rfl ?_
      show Steps p.tables e below (T315.setTop (mkF m 86 #[.val (.int (4 : Int32)), .val (.int i1), .val (.int i2), .val (.int i3), .val (.int i4), .val (.int x0), .val (.int x1), .val (.int x2), .val (.int x3)] [(.int x1), (.int (1 : Int32)), (.ref b314), (.ref b314)])) _
      refine st317 _ ?_
      show Steps p.tables e below (T317.setTop (mkF m 87 #[.val (.int (4 : Int32)), .val (.int i1), .val (.int i2), .val (.int i3), .val (.int i4), .val (.int x0), .val (.int x1), .val (.int x2), .val (.int x3)] [(.ref b314)])) _
      refine XS.dup X317.here hx rfl (hb hby d_method_2_code_87) rfl rfl ?_
      show Steps p.tables e below (T317.setTop (mkF m 88 #[.val (.int (4 : Int32)), .val (.int i1), .val (.int i2), .val (.int i3), .val (.int i4), .val (.int x0), .val (.int x1), .val (.int x2), .val (.int x3)] [(.ref b314), (.ref b314)])) _
      refine XS.iconst X317.here hx rfl (hb hby d_method_2_code_88) ?_
      show Steps p.tables e below (T317.setTop (mkF m 89 #[.val (.int (4 : Int32)), .val (.int i1), .val (.int i2), .val (.int i3), .val (.int i4), .val (.int x0), .val (.int x1), .val (.int x2), .val (.int x3)] [(.int (2 : Int32)), (.ref b314), (.ref b314)])) _
      refine XS.iload X317.here hx rfl (hb hby d_method_2_code_89) rfl ?_
      show Steps p.tables e below (T317.setTop (mkF m 91 #[.val (.int (4 : Int32)), .val (.int i1), .val (.int i2), .val (.int i3), .val (.int i4), .val (.int x0), .val (.int x1), .val (.int x2), .val (.int x3)] [(.int x2), (.int (2 : Int32)), (.ref b314), (.ref b314)])) _
      refine st318 _ ?_
      show Steps p.tables e below (T318.setTop (mkF m 92 #[.val (.int (4 : Int32)), .val (.int i1), .val (.int i2), .val (.int i3), .val (.int i4), .val (.int x0), .val (.int x1), .val (.int x2), .val (.int x3)] [(.ref b314)])) _
      refine XS.dup X318.here hx rfl (hb hby d_method_2_code_92) rfl rfl ?_
      show Steps p.tables e below (T318.setTop (mkF m 93 #[.val (.int (4 : Int32)), .val (.int i1), .val (.int i2), .val (.int i3), .val (.int i4), .val (.int x0), .val (.int x1), .val (.int x2), .val (.int x3)] [(.ref b314), (.ref b314)])) _
      refine XS.iconst X318.here hx rfl (hb hby d_method_2_code_93) ?_
      show Steps p.tables e below (T318.setTop (mkF m 94 #[.val (.int (4 : Int32)), .val (.int i1), .val (.int i2), .val (.int i3), .val (.int i4), .val (.int x0), .val (.int x1), .val (.int x2), .val (.int x3)] [(.int (3 : Int32)), (.ref b314), (.ref b314)])) _
      refine XS.iload X318.here hx rfl (hb hby d_method_2_code_94) rfl ?_
      show Steps p.tables e below (T318.setTop (mkF m 96 #[.val (.int (4 : Int32)), .val (.int i1), .val (.int i2), .val (.int i3), .val (.int i4), .val (.int x0), .val (.int x1), .val (.int x2), .val (.int x3)] [(.int x3), (.int (3 : Int32)), (.ref b314), (.ref b314)])) _
      refine st319 _ ?_
      show Steps p.tables e below (T319.setTop (mkF m 97 #[.val (.int (4 : Int32)), .val (.int i1), .val (.int i2), .val (.int i3), .val (.int i4), .val (.int x0), .val (.int x1), .val (.int x2), .val (.int x3)] [(.ref b314)])) _
      jvm_step X319.here [X319.here.top, hx, (hb hby d_method_2_code_97), X319.method', Bd.returns, Value.isRef, FieldType.isReference]
      first | (intro acts; rw [hr _ acts rfl rfl rfl]) | rw [hr _ _ rfl rfl rfl]
      exact Steps.refl _
    · show Q_draw Z (4 : Int32) i1 i2 i3 i4 h0 n0 _ T319.heap _
      rw [e319]
      exact ⟨b314, ky314, [x0, x1, x2, x3], rfl, N319, ((((((Keep.refl h0 ([] : List Addr)).ext E314).wr W315 (Or.inr (Nat.le_trans (Nat.le_refl _) (Nat.le_of_eq g314.symm)))).wr W317 (Or.inr (Nat.le_trans (Nat.le_refl _) (Nat.le_of_eq g314.symm)))).wr W318 (Or.inr (Nat.le_trans (Nat.le_refl _) (Nat.le_of_eq g314.symm)))).wr W319 (Or.inr (Nat.le_trans (Nat.le_refl _) (Nat.le_of_eq g314.symm)))), (Nat.le_trans (Nat.le_refl _) (Nat.le_of_eq g314.symm)), VR319, ⟨rfl, rfl, by intro c hc; simp only [List.mem_cons, List.not_mem_nil, or_false] at hc; rcases hc with rfl | rfl | rfl | rfl <;> assumption⟩⟩
theorem d_jdk_31_method_11_code_0 : decode jdk_31_method_11_code 0 = .ok (.aload_n 0, 1) := by decide +kernel
theorem d_jdk_31_method_11_code_1 : decode jdk_31_method_11_code 1 = .ok (.ifnonnull 12, 3) := by decide +kernel
theorem d_jdk_31_method_11_code_13 : decode jdk_31_method_11_code 13 = .ok (.aload_n 0, 1) := by decide +kernel
theorem d_jdk_31_method_11_code_14 : decode jdk_31_method_11_code 14 = .ok (.areturn, 1) := by decide +kernel
theorem pn_3 : plainName "java/util/Objects" = true := by first | (simp [plainName, overriddenIn]; done) | decide +kernel
def Q_rnn (Z : State) (xa : Addr) (xb : Addr) (h0 : Heap) (n0 : Nat) (v : Option Value) (h : Heap) (L : List Loc) : Prop := (v = some (.ref xa)) ∧ (Fr n0 L) ∧ (h = h0)
set_option maxRecDepth 65536 in
set_option maxHeartbeats 40000000 in
theorem rm_rnn (l : Launch) (Z : State) (a0 : Array Value) (hw : ∀ d ∈ tables_1, d.before a0 Z = true) (ws : List Jvm.Cond) (xa : Addr) (xb : Addr) (h0 : Heap) (n0 : Nat) (Z0 : n0 ≤ h0.size) :
    MetFree l (⟨"java/util/Objects", "requireNonNull", "(Ljava/lang/Object;Ljava/lang/String;)Ljava/lang/Object;"⟩ : MethodName) (head1 (Jvm.Cond.code (⟨"java/util/Objects", "requireNonNull", "(Ljava/lang/Object;Ljava/lang/String;)Ljava/lang/Object;"⟩ : MethodName) jdk_31_method_11_code 2 (some (.object "java/lang/Object")) :: ws) ({ frames := 0, cells := 0, slots := 0, locals := 0 } : Room)) (fun a₁ U₁ => a₁ = #[(.ref xa), (.ref xb)] ∧ Z.Warmed39 U₁.vm ∧ U₁.heap = h0) (fun _ _ _ _ _ => True) (fun _ U₁ o₁ U₂ => ∃ v₁ L₁, o₁ = .returned v₁ ∧ Q_rnn Z xa xb h0 n0 v₁ U₂.heap L₁ ∧ FrameEnd U₁ o₁ U₂ L₁ ({ frames := 0, cells := 0, slots := 0, locals := 0 } : Room).cells ({ frames := 0, cells := 0, slots := 0, locals := 0 } : Room).slots) := by
  refine MetFree.of_bodySF (plainFor_of_name pn_3) hisR ?_
  intro p e s m args below meth c s₁ Bd hml0 hP hK
  obtain ⟨rfl, hZ, hh⟩ := hP
  have hx := Bd.exec
  have hby := Bd.bytes
  have hml : c.maxLocals = 2 := hml0
  have hown : s.vm.findClass "java/util/Objects" = some m.cls := findClass_of_methodNamed Bd.named
  have hnm := (name_of_methodNamed Bd.named Bd.method).1
  have X0 : Stand p l e ({ frames := 0, cells := 0, slots := 0, locals := 0 } : Room) s m #[(.ref xa), (.ref xb)] below meth c s₁ [] 0 0 := Stand.of_body Bd
  have e0 : s₁.heap = h0 := by rw [← hh, Bd.state]; rfl
  have N0 := Fr.nil n0
  have pre0 : ∀ t, Steps p.tables e below (s₁.setTop (mkF m 0 #[.val (.ref xa), .val (.ref xb)] [])) t → Steps p.tables e below (s₁.setTop (entryFrame m #[(.ref xa), (.ref xb)] 2)) t := fun t k => castTop (ef_7 m xa xb) k
  obtain ⟨fs, hr, hrun, hended, hW, hsame⟩ := X0.leave (v := some (.ref xa)) (fun h => by rw [Bd.returns] at h; cases h)
  refine ⟨_, _, pre0 _ ?_, hrun, hended, _, _, rfl, ?_, ⟨_, rfl⟩, hW, hsame.mono (by decide) (by decide)⟩
  · refine XS.aloadN X0.here hx rfl (hb hby d_jdk_31_method_11_code_0) rfl rfl ?_
    show Steps p.tables e below (s₁.setTop (mkF m 1 #[.val (.ref xa), .val (.ref xb)] [(.ref xa)])) _
    refine XS.ifnonnullYes X0.here hx rfl (pc0 := 1) (pc' := 13) rfl (hb hby d_jdk_31_method_11_code_1) rfl (by decide) (by decide) ?_
    show Steps p.tables e below (s₁.setTop (mkF m 13 #[.val (.ref xa), .val (.ref xb)] [])) _
    refine XS.aloadN X0.here hx rfl (hb hby d_jdk_31_method_11_code_13) rfl rfl ?_
    show Steps p.tables e below (s₁.setTop (mkF m 14 #[.val (.ref xa), .val (.ref xb)] [(.ref xa)])) _
    jvm_step X0.here [X0.here.top, hx, (hb hby d_jdk_31_method_11_code_14), X0.method', Bd.returns, Value.isRef, FieldType.isReference]
    first | (intro acts; rw [hr _ acts rfl rfl rfl]) | rw [hr _ _ rfl rfl rfl]
    exact Steps.refl _
  · show Q_rnn Z xa xb h0 n0 _ s₁.heap _
    rw [e0]
    exact ⟨rfl, N0, rfl⟩
theorem d_prog_20_method_3_code_0 : decode prog_20_method_3_code 0 = .ok (.aload_n 0, 1) := by decide +kernel
theorem d_prog_20_method_3_code_1 : decode prog_20_method_3_code 1 = .ok (.ldc 43, 2) := by decide +kernel
theorem d_prog_20_method_3_code_3 : decode prog_20_method_3_code 3 = .ok (.invokestatic 9, 3) := by decide +kernel
theorem pd_8 : parseMethodDescriptor "(Ljava/lang/Object;Ljava/lang/String;)Ljava/lang/Object;" = some ⟨[(.object "java/lang/Object"), (.object "java/lang/String")], some (.object "java/lang/Object")⟩ := by decide +kernel
theorem d_prog_20_method_3_code_6 : decode prog_20_method_3_code 6 = .ok (.pop, 1) := by decide +kernel
theorem d_prog_20_method_3_code_7 : decode prog_20_method_3_code 7 = .ok (.aload_n 0, 1) := by decide +kernel
theorem d_prog_20_method_3_code_8 : decode prog_20_method_3_code 8 = .ok (.invokevirtual 45, 3) := by decide +kernel
theorem pd_9 : parseMethodDescriptor "()Z" = some ⟨[], some .boolean⟩ := by decide +kernel
theorem d_prog_20_method_3_code_11 : decode prog_20_method_3_code 11 = .ok (.ifCond .eq 13, 3) := by decide +kernel
theorem d_prog_20_method_3_code_24 : decode prog_20_method_3_code 24 = .ok (.aload_n 0, 1) := by decide +kernel
theorem d_prog_20_method_3_code_25 : decode prog_20_method_3_code 25 = .ok (.areturn, 1) := by decide +kernel
theorem ef_9 (m : MethodId) (x0 : Addr) : entryFrame m #[(.ref x0)] 1 = mkF m 0 #[.val (.ref x0)] [] := by first | (simp [entryFrame, mkF, argsToLocals, Value.category]; done) | rfl
theorem pn_4 : plainName "com/example/data_to_domain/datatodomain/Names" = true := by first | (simp [plainName, overriddenIn]; done) | decide +kernel
def Q_fname (Z : State) (xs : Addr) (tt : Addr) (kt : ClassId) (nn : Int32) (vs : List Value) (cs : List Int32) (cd : Int32) (G : Int32) (h0 : Heap) (n0 : Nat) (v : Option Value) (h : Heap) (L : List Loc) : Prop := (v = some (.ref xs)) ∧ (Fr n0 L) ∧ (Keep h0 h ([] : List Addr))
set_option maxRecDepth 65536 in
set_option maxHeartbeats 40000000 in
theorem rm_fname (l : Launch) (Z : State) (a0 : Array Value) (hw : ∀ d ∈ tables_1, d.before a0 Z = true) (ws : List Jvm.Cond) (xs : Addr) (tt : Addr) (kt : ClassId) (nn : Int32) (vs : List Value) (cs : List Int32) (cd : Int32) (G : Int32) (h0 : Heap) (n0 : Nat) (Z0 : n0 ≤ h0.size) (q0 : Sta Z Z.heap "java/lang/String" "COMPACT_STRINGS" "Z" (.int G)) (hCS : ¬ (G = (0 : Int32))) (q2 : Old Z n0 h0) (q3 : Exa Z h0 xs "java/lang/String") (q4 : Fld Z h0 xs "java/lang/String" "value" "[B" (.ref tt)) (q5 : Fld Z h0 xs "java/lang/String" "coder" "B" (.int cd)) (q6 : Arv Z h0 tt kt .byte nn vs (.int 0)) (hcd1 : StrChars.Road.CodA cs cd nn vs) (hbd1 : ∀ c ∈ cs, ¬ c < 0 ∧ ¬ (65535 : Int32) < c) (hle1 : cs.length ≤ 4000) (hne : ¬ cs.length = 0) :
    MetFree l (⟨"com/example/data_to_domain/datatodomain/Names", "fieldName", "(Ljava/lang/String;)Ljava/lang/String;"⟩ : MethodName) (head1 (Jvm.Cond.code (⟨"com/example/data_to_domain/datatodomain/Names", "fieldName", "(Ljava/lang/String;)Ljava/lang/String;"⟩ : MethodName) prog_20_method_3_code 1 (some (.object "java/lang/String")) :: ws) ({ frames := 1, cells := 2, slots := 40, locals := 13 } : Room)) (fun a₁ U₁ => a₁ = #[(.ref xs)] ∧ Z.Warmed39 U₁.vm ∧ U₁.heap = h0) (fun _ _ _ _ _ => True) (fun _ U₁ o₁ U₂ => ∃ v₁ L₁, o₁ = .returned v₁ ∧ Q_fname Z xs tt kt nn vs cs cd G h0 n0 v₁ U₂.heap L₁ ∧ ReturnedEndW U₁ o₁ U₂ L₁ ({ frames := 1, cells := 2, slots := 40, locals := 13 } : Room).cells ({ frames := 1, cells := 2, slots := 40, locals := 13 } : Room).slots) := by
  refine MetFree.of_bodySF (plainFor_of_name pn_4) hisR ?_
  intro p e s m args below meth c s₁ Bd hml0 hP hK
  obtain ⟨rfl, hZ, hh⟩ := hP
  have hx := Bd.exec
  have hby := Bd.bytes
  have hml : c.maxLocals = 1 := hml0
  have hown : s.vm.findClass "com/example/data_to_domain/datatodomain/Names" = some m.cls := findClass_of_methodNamed Bd.named
  have hnm := (name_of_methodNamed Bd.named Bd.method).1
  have X0 : Stand p l e ({ frames := 1, cells := 2, slots := 40, locals := 13 } : Room) (s.setVm s.vm) m #[(.ref xs)] below meth c s₁ [] 0 0 := Stand.of_body Bd
  have e0 : s₁.heap = h0 := by rw [← hh, Bd.state]; rfl
  have N0 := Fr.nil n0
  have hZ0 : Z.Warmed39 (s.setVm s.vm).vm := hZ
  have hown0 : (s.setVm s.vm).vm.findClass "com/example/data_to_domain/datatodomain/Names" = some m.cls := hown
  have hS0 : s.Since s.vm h0.size := (State.WarmedH.refl s).since _
  have hk0 : h0.size ≤ h0.size := Nat.le_refl _
  have pre0 : ∀ t, Steps p.tables e below (s₁.setTop (mkF m 0 #[.val (.ref xs)] [])) t → Steps p.tables e below (s₁.setTop (entryFrame m #[(.ref xs)] 1)) t := fun t k => castTop (ef_9 m xs) k
  obtain ⟨b301, T301, h301, kk301, X301, e301, E301, hS301, hk301, hZ301, hown301, st301⟩ := ldcS X0 hx hZ0 hown0 (hw _ (List.mem_of_getElem? (i := 38) rfl)) (own_hw_str hw) e0 hS0 hk0 (g := (mkF m 1 #[.val (.ref xs)] [(.ref xs)])) rfl (hb hby d_prog_20_method_3_code_1) (n := 36) (by decide) (by decide) (by decide) (by decide)
  obtain ⟨_, _, ⟨T302, L302, k302, n302⟩, -, X302, ⟨Lc302, hQ302, l302, y302, z302⟩, st302⟩ := Jvm.LawKit.callS X301 hx (y := (⟨"java/util/Objects", "requireNonNull", "(Ljava/lang/Object;Ljava/lang/String;)Ljava/lang/Object;"⟩ : MethodName)) hown301 (mvT hZ301 (hw _ (List.mem_of_getElem? (i := 41) rfl))) (mvT hZ301 (hw _ (List.mem_of_getElem? (i := 42) rfl))) (mvT hZ301 (hw _ (List.mem_of_getElem? (i := 43) rfl))) (mvT hZ301 (hw _ (List.mem_of_getElem? (i := 44) rfl))) (by decide) (backOf (W := 0) (rm_rnn l Z a0 hw [] xs b301 h301 n0 (Nat.le_trans Z0 E301.1) ) hZ301 (hw _ (List.mem_of_getElem? (i := 44) rfl)) (hw _ (List.mem_of_getElem? (i := 43) rfl)) (by decide) (by decide)) (g := (mkF m 3 #[.val (.ref xs)] [(.ref b301), (.ref xs)])) rfl (by rw [hml]; rfl) (argsL := [(.ref xs), (.ref b301)]) (rest := []) (lenOf pd_8 rfl) rfl (by show 2 * 0 + _ ≤ _; exact Nat.le_of_eq rfl) (hb hby d_prog_20_method_3_code_3) (fun _ _ => ⟨rfl, e301, (by decide : 2 + 0 ≤ _), (by decide : 40 + 0 ≤ _)⟩)
  dsimp only [Pt.U, Pt.locs, Pt.cells, Pt.slots] at X302 l302 y302 z302 st302 hQ302
  subst l302 y302 z302
  obtain ⟨rfl, Nq302, e302⟩ := hQ302
  have N302 := Fr.app N0 Nq302
  have c303 : Exa Z h301 xs "java/lang/String" := (q3.ext E301)
  have c305 : Old Z n0 h301 := (q2.ext E301)
  have c306 : Fld Z h301 xs "java/lang/String" "value" "[B" (.ref tt) := (q4.ext E301)
  have c307 : Fld Z h301 xs "java/lang/String" "coder" "B" (.int cd) := (q5.ext E301)
  have c308 : Arv Z h301 tt kt .byte nn vs (.int 0) := (q6.ext E301)
  obtain ⟨cq304, kq304, q304a, q304b, q304c⟩ := isOf hZ301 e302 c303
  obtain ⟨_, _, ⟨T304, L304, k304, n304⟩, -, X304, ⟨Lc304, hQ304, l304, y304, z304⟩, st304⟩ := X302.virtualBack hx (y := (⟨"java/lang/String", "isEmpty", "()Z"⟩ : MethodName)) (z := (⟨"java/lang/String", "isEmpty", "()Z"⟩ : MethodName)) hown301 (mvT hZ301 (hw _ (List.mem_of_getElem? (i := 45) rfl))) (mvT hZ301 (hw _ (List.mem_of_getElem? (i := 46) rfl))) (notFace_of_selects (args := #[]) (mvT hZ301 (hw _ (List.mem_of_getElem? (i := 48) rfl)))) (mvT hZ301 (hw _ (List.mem_of_getElem? (i := 48) rfl))) (mvT hZ301 (hw _ (List.mem_of_getElem? (i := 47) rfl))) (by decide) (StrChars.Road.empW (W := 0) hZ301 (own_hw_empW hw) (kI := 4) (hw _ (List.mem_of_getElem? (i := 1) rfl)) c303 c306 c307 c308 hcd1 hbd1 hle1 (by decide) (by decide)) q304a q304c (g := (mkF m 8 #[.val (.ref xs)] [(.ref xs)])) rfl (by rw [hml]; rfl) (Steps.refl _) (argsL := []) (rest := []) (lenOf pd_9 rfl) rfl (by show 2 * 0 + _ ≤ _; exact Nat.le_of_eq rfl) (hb hby d_prog_20_method_3_code_8) (fun _ _ => ⟨rfl, e302, (by decide : 2 + 0 ≤ _), (by decide : 40 + 0 ≤ _)⟩)
  dsimp only [Pt.U, Pt.locs, Pt.cells, Pt.slots] at X304 l304 y304 z304 st304 hQ304
  subst l304 y304 z304
  obtain ⟨rfl, rfl, e304⟩ := hQ304
  have N304 := Fr.app N302 (Fr.nil n0)
  obtain ⟨fs, hr, hrun, hended, hEnd⟩ := X304.leaveW hS301 (by rw [e304]; exact hk301) (v := some (.ref xs)) (fun h => by rw [Bd.returns] at h; cases h)
  refine ⟨_, _, pre0 _ ?_, hrun, hended, _, _, rfl, ?_, hEnd.1, hEnd.2.1, hEnd.2.2.1, hEnd.2.2.2.mono (by decide) (by decide)⟩
  · refine XS.aloadN X0.here hx rfl (hb hby d_prog_20_method_3_code_0) rfl rfl ?_
    show Steps p.tables e below (s₁.setTop (mkF m 1 #[.val (.ref xs)] [(.ref xs)])) _
    refine st301 _ ?_
    show Steps p.tables e below (T301.setTop (mkF m 3 #[.val (.ref xs)] [(.ref b301), (.ref xs)])) _
    refine st302 _ ?_
    show Steps p.tables e below (T302.setTop (mkF m 6 #[.val (.ref xs)] [(.ref xs)])) _
    refine XS.pop X302.here hx rfl (hb hby d_prog_20_method_3_code_6) rfl rfl ?_
    show Steps p.tables e below (T302.setTop (mkF m 7 #[.val (.ref xs)] [])) _
    refine XS.aloadN X302.here hx rfl (hb hby d_prog_20_method_3_code_7) rfl rfl ?_
    show Steps p.tables e below (T302.setTop (mkF m 8 #[.val (.ref xs)] [(.ref xs)])) _
    refine st304.trans ?_
    show Steps p.tables e below (T304.setTop (mkF m 11 #[.val (.ref xs)] [(.int (if (cs).length = 0 then 1 else 0))])) _
    refine XS.ifYes X304.here hx rfl (pc0 := 11) (pc' := 24) rfl (hb hby d_prog_20_method_3_code_11) rfl ((if0 _ _).trans (teq ((if_neg hne) : (if (cs).length = 0 then 1 else 0) = (0 : Int32))).1) (by decide) (by decide) ?_
    show Steps p.tables e below (T304.setTop (mkF m 24 #[.val (.ref xs)] [])) _
    refine XS.aloadN X304.here hx rfl (hb hby d_prog_20_method_3_code_24) rfl rfl ?_
    show Steps p.tables e below (T304.setTop (mkF m 25 #[.val (.ref xs)] [(.ref xs)])) _
    jvm_step X304.here [X304.here.top, hx, (hb hby d_prog_20_method_3_code_25), X304.method', Bd.returns, Value.isRef, FieldType.isReference]
    first | (intro acts; rw [hr _ acts rfl rfl rfl]) | rw [hr _ _ rfl rfl rfl]
    exact Steps.refl _
  · show Q_fname Z xs tt kt nn vs cs cd G h0 n0 _ T304.heap _
    rw [e304]
    exact ⟨rfl, N304, ((Keep.refl h0 ([] : List Addr)).ext E301)⟩
theorem d_jdk_42_method_66_code_0 : decode jdk_42_method_66_code 0 = .ok (.aload_n 0, 1) := by decide +kernel
theorem d_jdk_42_method_66_code_1 : decode jdk_42_method_66_code 1 = .ok (.aload_n 1, 1) := by decide +kernel
theorem d_jdk_42_method_66_code_2 : decode jdk_42_method_66_code 2 = .ok (.if_acmp .ne 5, 3) := by decide +kernel
theorem d_jdk_42_method_66_code_5 : decode jdk_42_method_66_code 5 = .ok (.iconst 1, 1) := by decide +kernel
theorem d_jdk_42_method_66_code_6 : decode jdk_42_method_66_code 6 = .ok (.ireturn, 1) := by decide +kernel
theorem ef_10 (m : MethodId) (x0 : Addr) (x1 : Addr) : entryFrame m #[(.ref x0), (.ref x1)] 3 = mkF m 0 #[.val (.ref x0), .val (.ref x1), .unset] [] := by first | (simp [entryFrame, mkF, argsToLocals, Value.category]; done) | rfl
def Q_eqS (Z : State) (xs : Addr) (h0 : Heap) (n0 : Nat) (v : Option Value) (h : Heap) (L : List Loc) : Prop := (v = some (.int (1 : Int32))) ∧ (Fr n0 L) ∧ (h = h0)
set_option maxRecDepth 65536 in
set_option maxHeartbeats 40000000 in
theorem rm_eqS (l : Launch) (Z : State) (a0 : Array Value) (hw : ∀ d ∈ tables_1, d.before a0 Z = true) (ws : List Jvm.Cond) (xs : Addr) (h0 : Heap) (n0 : Nat) (Z0 : n0 ≤ h0.size) :
    MetFree l (⟨"java/lang/String", "equals", "(Ljava/lang/Object;)Z"⟩ : MethodName) (head1 (Jvm.Cond.code (⟨"java/lang/String", "equals", "(Ljava/lang/Object;)Z"⟩ : MethodName) jdk_42_method_66_code 3 (some .boolean) :: ws) ({ frames := 0, cells := 0, slots := 0, locals := 0 } : Room)) (fun a₁ U₁ => a₁ = #[(.ref xs), (.ref xs)] ∧ Z.Warmed39 U₁.vm ∧ U₁.heap = h0) (fun _ _ _ _ _ => True) (fun _ U₁ o₁ U₂ => ∃ v₁ L₁, o₁ = .returned v₁ ∧ Q_eqS Z xs h0 n0 v₁ U₂.heap L₁ ∧ FrameEnd U₁ o₁ U₂ L₁ ({ frames := 0, cells := 0, slots := 0, locals := 0 } : Room).cells ({ frames := 0, cells := 0, slots := 0, locals := 0 } : Room).slots) := by
  refine MetFree.of_bodySF (plainFor_of_name pn_1) hisR ?_
  intro p e s m args below meth c s₁ Bd hml0 hP hK
  obtain ⟨rfl, hZ, hh⟩ := hP
  have hx := Bd.exec
  have hby := Bd.bytes
  have hml : c.maxLocals = 3 := hml0
  have hown : s.vm.findClass "java/lang/String" = some m.cls := findClass_of_methodNamed Bd.named
  have hnm := (name_of_methodNamed Bd.named Bd.method).1
  have X0 : Stand p l e ({ frames := 0, cells := 0, slots := 0, locals := 0 } : Room) s m #[(.ref xs), (.ref xs)] below meth c s₁ [] 0 0 := Stand.of_body Bd
  have e0 : s₁.heap = h0 := by rw [← hh, Bd.state]; rfl
  have N0 := Fr.nil n0
  have pre0 : ∀ t, Steps p.tables e below (s₁.setTop (mkF m 0 #[.val (.ref xs), .val (.ref xs), .unset] [])) t → Steps p.tables e below (s₁.setTop (entryFrame m #[(.ref xs), (.ref xs)] 3)) t := fun t k => castTop (ef_10 m xs xs) k
  obtain ⟨fs, hr, hrun, hended, hW, hsame⟩ := X0.leave (v := some (.int (1 : Int32))) (fun h => by rw [Bd.returns] at h; cases h)
  refine ⟨_, _, pre0 _ ?_, hrun, hended, _, _, rfl, ?_, ⟨_, rfl⟩, hW, hsame.mono (by decide) (by decide)⟩
  · refine XS.aloadN X0.here hx rfl (hb hby d_jdk_42_method_66_code_0) rfl rfl ?_
    show Steps p.tables e below (s₁.setTop (mkF m 1 #[.val (.ref xs), .val (.ref xs), .unset] [(.ref xs)])) _
    refine XS.aloadN X0.here hx rfl (hb hby d_jdk_42_method_66_code_1) rfl rfl ?_
    show Steps p.tables e below (s₁.setTop (mkF m 2 #[.val (.ref xs), .val (.ref xs), .unset] [(.ref xs), (.ref xs)])) _
    refine Jvm.RoadKit.acmp (g := (mkF m 2 #[.val (.ref xs), .val (.ref xs), .unset] [(.ref xs), (.ref xs)])) X0 hx rfl rfl rfl (pc0 := 2) (pc' := 5) (same := true) rfl (hb hby d_jdk_42_method_66_code_2) rfl (decide_eq_true rfl) (by decide) (by decide) ?_
    show Steps p.tables e below (s₁.setTop (mkF m 5 #[.val (.ref xs), .val (.ref xs), .unset] [])) _
    refine XS.iconst X0.here hx rfl (hb hby d_jdk_42_method_66_code_5) ?_
    show Steps p.tables e below (s₁.setTop (mkF m 6 #[.val (.ref xs), .val (.ref xs), .unset] [(.int (1 : Int32))])) _
    exact retN X0 hx (t := .boolean) Bd.returns (by simp) (hb hby d_jdk_42_method_66_code_6) hr
  · show Q_eqS Z xs h0 n0 _ s₁.heap _
    rw [e0]
    exact ⟨rfl, N0, rfl⟩
theorem pd_10 : parseMethodDescriptor "(IIIII)[C" = some ⟨[.int, .int, .int, .int, .int], some (.array .char)⟩ := by decide +kernel
theorem pd_11 : parseMethodDescriptor "([C)V" = some ⟨[(.array .char)], none⟩ := by decide +kernel
theorem pd_12 : parseMethodDescriptor "(Ljava/lang/String;)Ljava/lang/String;" = some ⟨[(.object "java/lang/String")], some (.object "java/lang/String")⟩ := by decide +kernel
theorem pd_13 : parseMethodDescriptor "()I" = some ⟨[], some .int⟩ := by decide +kernel
theorem pd_14 : parseMethodDescriptor "(Ljava/lang/Object;)Z" = some ⟨[(.object "java/lang/Object")], some .boolean⟩ := by decide +kernel
theorem ef_11 (m : MethodId) (x0 : Int32) (x1 : Int32) (x2 : Int32) (x3 : Int32) (x4 : Int32) : entryFrame m #[(.int x0), (.int x1), (.int x2), (.int x3), (.int x4)] maxLocals = mkF m 0 #[.val (.int x0), .val (.int x1), .val (.int x2), .val (.int x3), .val (.int x4), .unset, .unset, .unset] [] := by first | (simp [entryFrame, mkF, argsToLocals, Value.category, maxLocals]; done) | rfl
def Q_law (Z : State) (i0 : Int32) (i1 : Int32) (i2 : Int32) (i3 : Int32) (i4 : Int32) (G : Int32) (h0 : Heap) (n0 : Nat) (v : Option Value) (h : Heap) (L : List Loc) : Prop := (v = some (.int (1 : Int32))) ∧ (Fr n0 L)
set_option maxRecDepth 65536 in
set_option maxHeartbeats 40000000 in
theorem rm_law (l : Launch) (Z : State) (a0 : Array Value) (hw : ∀ d ∈ tables_1, d.before a0 Z = true) (ws : List Jvm.Cond) (i0 : Int32) (i1 : Int32) (i2 : Int32) (i3 : Int32) (i4 : Int32) (G : Int32) (h0 : Heap) (n0 : Nat) (Z0 : n0 ≤ h0.size) (q0 : Sta Z Z.heap "java/lang/String" "COMPACT_STRINGS" "Z" (.int G)) (hCS : ¬ (G = (0 : Int32))) (q2 : Sta Z Z.heap "java/lang/StringUTF16" "$assertionsDisabled" "Z" (.int (1 : Int32))) (q3 : Sta Z Z.heap "java/lang/StringUTF16" "HI_BYTE_SHIFT" "I" (.int (0 : Int32))) (q4 : Sta Z Z.heap "java/lang/StringUTF16" "LO_BYTE_SHIFT" "I" (.int (8 : Int32))) (q5 : Old Z n0 h0) :
    MetFree l x (head1 (Jvm.Cond.code x code maxLocals ret :: ws) room_1) (fun a₁ U₁ => a₁ = #[(.int i0), (.int i1), (.int i2), (.int i3), (.int i4)] ∧ Z.Warmed39 U₁.vm ∧ U₁.heap = h0) (fun _ _ _ _ _ => True) (fun _ U₁ o₁ U₂ => ∃ v₁ L₁, o₁ = .returned v₁ ∧ Q_law Z i0 i1 i2 i3 i4 G h0 n0 v₁ U₂.heap L₁ ∧ ReturnedEndW U₁ o₁ U₂ L₁ room_1.cells room_1.slots) := by
  refine MetFree.of_bodySF (plainFor_of_name pn_2) hisR ?_
  intro p e s m args below meth c s₁ Bd hml0 hP hK
  obtain ⟨rfl, hZ, hh⟩ := hP
  have hx := Bd.exec
  have hby := Bd.bytes
  have hml : c.maxLocals = 8 := hml0
  have hown : s.vm.findClass "com/example/data_to_domain/datatodomain/NamesFieldNamePinLaw" = some m.cls := findClass_of_methodNamed Bd.named
  have hnm := (name_of_methodNamed Bd.named Bd.method).1
  have X0 : Stand p l e room_1 (s.setVm s.vm) m #[(.int i0), (.int i1), (.int i2), (.int i3), (.int i4)] below meth c s₁ [] 0 0 := Stand.of_body Bd
  have e0 : s₁.heap = h0 := by rw [← hh, Bd.state]; rfl
  have N0 := Fr.nil n0
  have hZ0 : Z.Warmed39 (s.setVm s.vm).vm := hZ
  have hown0 : (s.setVm s.vm).vm.findClass "com/example/data_to_domain/datatodomain/NamesFieldNamePinLaw" = some m.cls := hown
  have hS0 : s.Since s.vm h0.size := (State.WarmedH.refl s).since _
  have hk0 : h0.size ≤ h0.size := Nat.le_refl _
  have pre0 : ∀ t, Steps p.tables e below (s₁.setTop (mkF m 0 #[.val (.int i0), .val (.int i1), .val (.int i2), .val (.int i3), .val (.int i4), .unset, .unset, .unset] [])) t → Steps p.tables e below (s₁.setTop (entryFrame m #[(.int i0), (.int i1), (.int i2), (.int i3), (.int i4)] maxLocals)) t := fun t k => castTop (ef_11 m i0 i1 i2 i3 i4) k
  have pre301 : ∀ t, Steps p.tables e below (s₁.setTop (mkF m 7 #[.val (.int i0), .val (.int i1), .val (.int i2), .val (.int i3), .val (.int i4), .val (.int ((i0 &&& (3 : Int32)) + (1 : Int32))), .unset, .unset] [])) t → Steps p.tables e below (s₁.setTop (entryFrame m #[(.int i0), (.int i1), (.int i2), (.int i3), (.int i4)] maxLocals)) t := fun t kk => pre0 t (by
    refine XS.iloadN X0.here hx rfl (hb hby at_0) rfl ?_
    show Steps p.tables e below (s₁.setTop (mkF m 1 #[.val (.int i0), .val (.int i1), .val (.int i2), .val (.int i3), .val (.int i4), .unset, .unset, .unset] [(.int i0)])) _
    refine XS.iconst X0.here hx rfl (hb hby at_1) ?_
    show Steps p.tables e below (s₁.setTop (mkF m 2 #[.val (.int i0), .val (.int i1), .val (.int i2), .val (.int i3), .val (.int i4), .unset, .unset, .unset] [(.int (3 : Int32)), (.int i0)])) _
    refine XS.iand X0.here hx rfl (hb hby at_2) rfl ?_
    show Steps p.tables e below (s₁.setTop (mkF m 3 #[.val (.int i0), .val (.int i1), .val (.int i2), .val (.int i3), .val (.int i4), .unset, .unset, .unset] [(.int (i0 &&& (3 : Int32)))])) _
    refine XS.iconst X0.here hx rfl (hb hby at_3) ?_
    show Steps p.tables e below (s₁.setTop (mkF m 4 #[.val (.int i0), .val (.int i1), .val (.int i2), .val (.int i3), .val (.int i4), .unset, .unset, .unset] [(.int (1 : Int32)), (.int (i0 &&& (3 : Int32)))])) _
    refine XS.iadd X0.here hx rfl (hb hby at_4) rfl ?_
    show Steps p.tables e below (s₁.setTop (mkF m 5 #[.val (.int i0), .val (.int i1), .val (.int i2), .val (.int i3), .val (.int i4), .unset, .unset, .unset] [(.int ((i0 &&& (3 : Int32)) + (1 : Int32)))])) _
    refine XS.istore X0.here hx rfl (hb hby at_5) rfl (l' := #[.val (.int i0), .val (.int i1), .val (.int i2), .val (.int i3), .val (.int i4), .val (.int ((i0 &&& (3 : Int32)) + (1 : Int32))), .unset, .unset]) rfl ?_
    show Steps p.tables e below (s₁.setTop (mkF m 7 #[.val (.int i0), .val (.int i1), .val (.int i2), .val (.int i3), .val (.int i4), .val (.int ((i0 &&& (3 : Int32)) + (1 : Int32))), .unset, .unset] [])) _
    exact kk)
  obtain ⟨nn, h_nn⟩ : ∃ z, z = ((i0 &&& (3 : Int32)) + (1 : Int32)) := ⟨_, rfl⟩
  rw [← h_nn] at pre301
  have hn : nn = (1 : Int32) ∨ nn = (2 : Int32) ∨ nn = (3 : Int32) ∨ nn = (4 : Int32) := by rw [h_nn]; exact own_n4 i0
  obtain ⟨T302, h302, X302, e302, E302, A302, D302, -, st302⟩ := newO X0 hx hZ0 hown0 (hw _ (List.mem_of_getElem? (i := 0) rfl)) (hw _ (List.mem_of_getElem? (i := 1) rfl)) (hw _ (List.mem_of_getElem? (i := 2) rfl)) e0 (g := (mkF m 7 #[.val (.int i0), .val (.int i1), .val (.int i2), .val (.int i3), .val (.int i4), .val (.int nn), .unset, .unset] [])) rfl (hb hby at_7) (by decide) (by decide)
  obtain ⟨b302, g302⟩ : ∃ z, z = h0.size := ⟨_, rfl⟩
  rw [← g302] at A302 D302 st302
  have D302_coder : Fld Z h302 b302 "java/lang/String" "coder" "B" (.int (0 : Int32)) := D302 (Or.inr (hw _ (List.mem_of_getElem? (i := 31) rfl))) (ty := .byte) (by decide)
  have D302_value : Fld Z h302 b302 "java/lang/String" "value" "[B" .null := D302 (Or.inr (hw _ (List.mem_of_getElem? (i := 33) rfl))) (ty := (.array .byte)) (by decide)
  obtain ⟨_, _, ⟨T303, L303, k303, n303⟩, -, X303, ⟨Lc303, hQ303, l303, y303, z303⟩, st303⟩ := Jvm.LawKit.callS X302 hx (y := (⟨"com/example/data_to_domain/datatodomain/NamesFieldNamePinLaw", "draw", "(IIIII)[C"⟩ : MethodName)) hown0 (mvT hZ0 (hw _ (List.mem_of_getElem? (i := 3) rfl))) (mvT hZ0 (hw _ (List.mem_of_getElem? (i := 4) rfl))) (mvT hZ0 (hw _ (List.mem_of_getElem? (i := 5) rfl))) (mvT hZ0 (hw _ (List.mem_of_getElem? (i := 6) rfl))) (by decide) (backOf (W := 2) (rm_draw l Z a0 hw [] nn i1 i2 i3 i4 h302 n0 (Nat.le_trans Z0 E302.1) (hn)) hZ0 (hw _ (List.mem_of_getElem? (i := 6) rfl)) (hw _ (List.mem_of_getElem? (i := 5) rfl)) (by decide) (by decide)) (g := (mkF m 18 #[.val (.int i0), .val (.int i1), .val (.int i2), .val (.int i3), .val (.int i4), .val (.int nn), .unset, .unset] [(.int i4), (.int i3), (.int i2), (.int i1), (.int nn), (.ref b302), (.ref b302)])) rfl (by rw [hml]; rfl) (argsL := [(.int nn), (.int i1), (.int i2), (.int i3), (.int i4)]) (rest := [(.ref b302), (.ref b302)]) (lenOf pd_10 rfl) rfl (by show 2 * 0 + _ ≤ _; exact Nat.le_of_eq rfl) (hb hby at_18) (fun _ _ => ⟨rfl, e302, (by decide : 1 + 1 ≤ _), (by decide : 4 + 4 ≤ _)⟩)
  dsimp only [Pt.U, Pt.locs, Pt.cells, Pt.slots] at X303 l303 y303 z303 st303 hQ303
  subst l303 y303 z303
  obtain ⟨ca_303, kc_303, cs_303, rfl, Nq303, K303, f303_0, f303_1, f303_2⟩ := hQ303
  have N303 := Fr.app N0 Nq303
  obtain ⟨hl1, hl2, hW⟩ := f303_2
  have hl4 : 0 < cs_303.length ∧ cs_303.length ≤ 4 := by rw [hl2]; rcases hn with h | h | h | h <;> rw [h] <;> decide
  have hle : cs_303.length ≤ 4000 := by omega
  have hne : ¬ cs_303.length = 0 := by omega
  have pre304 : ∀ t, Steps p.tables e below (T303.setTop (mkF m 21 #[.val (.int i0), .val (.int i1), .val (.int i2), .val (.int i3), .val (.int i4), .val (.int nn), .unset, .unset] [(.ref ca_303), (.ref b302), (.ref b302)])) t → Steps p.tables e below (s₁.setTop (entryFrame m #[(.int i0), (.int i1), (.int i2), (.int i3), (.int i4)] maxLocals)) t := fun t kk => pre301 t (by
    refine st302 _ ?_
    show Steps p.tables e below (T302.setTop (mkF m 10 #[.val (.int i0), .val (.int i1), .val (.int i2), .val (.int i3), .val (.int i4), .val (.int nn), .unset, .unset] [(.ref b302)])) _
    refine XS.dup X302.here hx rfl (hb hby at_10) rfl rfl ?_
    show Steps p.tables e below (T302.setTop (mkF m 11 #[.val (.int i0), .val (.int i1), .val (.int i2), .val (.int i3), .val (.int i4), .val (.int nn), .unset, .unset] [(.ref b302), (.ref b302)])) _
    refine XS.iload X302.here hx rfl (hb hby at_11) rfl ?_
    show Steps p.tables e below (T302.setTop (mkF m 13 #[.val (.int i0), .val (.int i1), .val (.int i2), .val (.int i3), .val (.int i4), .val (.int nn), .unset, .unset] [(.int nn), (.ref b302), (.ref b302)])) _
    refine XS.iloadN X302.here hx rfl (hb hby at_13) rfl ?_
    show Steps p.tables e below (T302.setTop (mkF m 14 #[.val (.int i0), .val (.int i1), .val (.int i2), .val (.int i3), .val (.int i4), .val (.int nn), .unset, .unset] [(.int i1), (.int nn), (.ref b302), (.ref b302)])) _
    refine XS.iloadN X302.here hx rfl (hb hby at_14) rfl ?_
    show Steps p.tables e below (T302.setTop (mkF m 15 #[.val (.int i0), .val (.int i1), .val (.int i2), .val (.int i3), .val (.int i4), .val (.int nn), .unset, .unset] [(.int i2), (.int i1), (.int nn), (.ref b302), (.ref b302)])) _
    refine XS.iloadN X302.here hx rfl (hb hby at_15) rfl ?_
    show Steps p.tables e below (T302.setTop (mkF m 16 #[.val (.int i0), .val (.int i1), .val (.int i2), .val (.int i3), .val (.int i4), .val (.int nn), .unset, .unset] [(.int i3), (.int i2), (.int i1), (.int nn), (.ref b302), (.ref b302)])) _
    refine XS.iload X302.here hx rfl (hb hby at_16) rfl ?_
    show Steps p.tables e below (T302.setTop (mkF m 18 #[.val (.int i0), .val (.int i1), .val (.int i2), .val (.int i3), .val (.int i4), .val (.int nn), .unset, .unset] [(.int i4), (.int i3), (.int i2), (.int i1), (.int nn), (.ref b302), (.ref b302)])) _
    refine st303 _ ?_
    show Steps p.tables e below (T303.setTop (mkF m 21 #[.val (.int i0), .val (.int i1), .val (.int i2), .val (.int i3), .val (.int i4), .val (.int nn), .unset, .unset] [(.ref ca_303), (.ref b302), (.ref b302)])) _
    exact kk)
  by_cases hwd : ∃ c ∈ cs_303, (255 : Int32) < c
  · obtain ⟨rr, hr1, hr2, hr3⟩ := own_first cs_303 hwd
    have hrm : own_W (cs_303.getD (0 + rr) 0) := hW _ (by rw [Nat.zero_add]; exact own_getmem hr1)
    have R305 : Arv Z T303.heap ca_303 kc_303 .char (Int32.ofNat cs_303.length) (cs_303.map Value.int) (.int (0 : Int32)) := by have q := f303_1; rw [← hl1]; exact q
    have c306 : Old Z n0 T303.heap := ((q5.ext E302).keep K303 all0)
    have c307 : Exa Z T303.heap b302 "java/lang/String" := (A302.keep K303)
    have c308 : Fld Z T303.heap b302 "java/lang/String" "value" "[B" .null := (D302_value.keep K303 nin0)
    have c309 : Fld Z T303.heap b302 "java/lang/String" "coder" "B" (.int (0 : Int32)) := (D302_coder.keep K303 nin0)
    have ge310 : n0 ≤ b302 := Nat.le_trans Z0 (Nat.le_trans (Nat.le_refl _) (Nat.le_of_eq g302.symm))
    obtain ⟨_, _, ⟨T311, L311, k311, n311⟩, -, X311, ⟨Lc311, hQ311, l311, y311, z311⟩, st311⟩ := X303.specialBack hx (y := (⟨"java/lang/String", "<init>", "([C)V"⟩ : MethodName)) rfl hown0 (mvT hZ0 (hw _ (List.mem_of_getElem? (i := 8) rfl))) (mvT hZ0 (hw _ (List.mem_of_getElem? (i := 9) rfl))) (mvT hZ0 (hw _ (List.mem_of_getElem? (i := 10) rfl))) (by decide) (backOf (W := 1) (rm_new1w l Z a0 hw [] b302 ca_303 kc_303 cs_303 (.int (0 : Int32)) rr G T303.heap n0 (Nat.le_trans Z0 (Nat.le_trans E302.1 K303.1)) q0 hCS q2 q3 q4 c306 R305 (hl4.2) (hr1) (hr2) (hr3) (hrm.1) (hrm.2) c307 c308 c309 ge310) hZ0 (hw _ (List.mem_of_getElem? (i := 10) rfl)) (hw _ (List.mem_of_getElem? (i := 2) rfl)) (by decide) (by decide)) (g := (mkF m 21 #[.val (.int i0), .val (.int i1), .val (.int i2), .val (.int i3), .val (.int i4), .val (.int nn), .unset, .unset] [(.ref ca_303), (.ref b302), (.ref b302)])) rfl (by rw [hml]; rfl) (Steps.refl _) (a := b302) (argsL := [(.ref ca_303)]) (rest := [(.ref b302)]) (lenOf pd_11 rfl) rfl (by show 2 * 0 + _ ≤ _; exact Nat.le_of_eq rfl) (hb hby at_21) (fun _ _ => ⟨rfl, rfl, (by decide : 2 + 2 ≤ _), (by decide : 8 + 12 ≤ _)⟩)
    dsimp only [Pt.U, Pt.locs, Pt.cells, Pt.slots] at X311 l311 y311 z311 st311 hQ311
    subst l311 y311 z311
    obtain ⟨tt_311, kt_311, rfl, Nq311, K311, f311_0, f311_1, f311_2, f311_3⟩ := hQ311
    have N311 := Fr.app N303 Nq311
    have hcd : StrChars.Road.CodA cs_303 1 (Int32.ofNat (2 * cs_303.length)) (StrChars.Road.wideBytes cs_303) := own_codw hwd
    have c312 : Old Z n0 T311.heap := (c306.keep K311 (allS ge310 all0))
    have c313 : Exa Z T311.heap b302 "java/lang/String" := (c307.keep K311)
    obtain ⟨_, _, ⟨T314, L314, k314, n314⟩, -, X314', hS314', hz314', ⟨Lc314, hQ314, l314, y314, z314⟩, st314⟩ := callSS X311 hx (y := (⟨"com/example/data_to_domain/datatodomain/Names", "fieldName", "(Ljava/lang/String;)Ljava/lang/String;"⟩ : MethodName)) hown0 (mvT hZ0 (hw _ (List.mem_of_getElem? (i := 34) rfl))) (mvT hZ0 (hw _ (List.mem_of_getElem? (i := 35) rfl))) (mvT hZ0 (hw _ (List.mem_of_getElem? (i := 36) rfl))) (mvT hZ0 (hw _ (List.mem_of_getElem? (i := 37) rfl))) (by decide) (backOfS (W := 0) (rm_fname l Z a0 hw [] b302 tt_311 kt_311 (Int32.ofNat (2 * cs_303.length)) (StrChars.Road.wideBytes cs_303) cs_303 (1 : Int32) G T311.heap n0 (Nat.le_trans Z0 (Nat.le_trans (Nat.le_trans E302.1 K303.1) K311.1)) q0 hCS c312 c313 f311_0 f311_1 f311_3 (hcd) (hW) (hle) (hne)) hZ0 (hw _ (List.mem_of_getElem? (i := 37) rfl)) (hw _ (List.mem_of_getElem? (i := 36) rfl)) (by decide) (by decide)) (g := (mkF m 28 #[.val (.int i0), .val (.int i1), .val (.int i2), .val (.int i3), .val (.int i4), .val (.int nn), .val (.ref b302), .unset] [(.ref b302)])) rfl (by rw [hml]; rfl) (argsL := [(.ref b302)]) (rest := []) (lenOf pd_12 rfl) rfl (by show 2 * 0 + _ ≤ _; exact Nat.le_of_eq rfl) (hb hby at_28) (fun _ _ => ⟨rfl, rfl, (by decide : 4 + 2 ≤ _), (by decide : 20 + 40 ≤ _)⟩)
    dsimp only [Pt.U, Pt.locs, Pt.cells, Pt.slots] at X314' l314 y314 z314 st314 hQ314 hS314' hz314'
    subst l314 y314 z314
    obtain ⟨rfl, Nq314, K314⟩ := hQ314
    have N314 := Fr.app N311 Nq314
    obtain ⟨X314, hS314, hZ314, hown314⟩ := rebS hS0 (Nat.le_trans hk0 (Nat.le_trans (Nat.le_trans E302.1 K303.1) K311.1)) X314' hS314' hz314' hZ0 hown0
    have c315 : Exa Z T314.heap b302 "java/lang/String" := (c313.keep K314)
    have c317 : Old Z n0 T314.heap := (c312.keep K314 all0)
    have c318 : Fld Z T314.heap b302 "java/lang/String" "value" "[B" (.ref tt_311) := (f311_0.keep K314 nin0)
    have c319 : Fld Z T314.heap b302 "java/lang/String" "coder" "B" (.int (1 : Int32)) := (f311_1.keep K314 nin0)
    have c320 : Arv Z T314.heap tt_311 kt_311 .byte (Int32.ofNat (2 * cs_303.length)) (StrChars.Road.wideBytes cs_303) (.int (0 : Int32)) := (f311_3.keep K314 nin0)
    obtain ⟨cq316, kq316, q316a, q316b, q316c⟩ := isOf hZ314 rfl c315
    obtain ⟨_, _, ⟨T316, L316, k316, n316⟩, -, X316, ⟨Lc316, hQ316, l316, y316, z316⟩, st316⟩ := X314.virtualBack hx (y := (⟨"java/lang/String", "length", "()I"⟩ : MethodName)) (z := (⟨"java/lang/String", "length", "()I"⟩ : MethodName)) hown314 (mvT hZ314 (hw _ (List.mem_of_getElem? (i := 50) rfl))) (mvT hZ314 (hw _ (List.mem_of_getElem? (i := 51) rfl))) (notFace_of_selects (args := #[]) (mvT hZ314 (hw _ (List.mem_of_getElem? (i := 53) rfl)))) (mvT hZ314 (hw _ (List.mem_of_getElem? (i := 53) rfl))) (mvT hZ314 (hw _ (List.mem_of_getElem? (i := 52) rfl))) (by decide) (StrChars.Road.lenW (W := 0) hZ314 (own_hw_lenW hw) (kI := 4) (hw _ (List.mem_of_getElem? (i := 1) rfl)) c315 c318 c319 c320 hcd hW (q0.ext c317.2) hCS hle (by decide) (by decide)) q316a q316c (g := (mkF m 40 #[.val (.int i0), .val (.int i1), .val (.int i2), .val (.int i3), .val (.int i4), .val (.int nn), .val (.ref b302), .val (.ref b302)] [(.ref b302)])) rfl (by rw [hml]; rfl) (Steps.refl _) (argsL := []) (rest := []) (lenOf pd_13 rfl) rfl (by show 2 * 0 + _ ≤ _; exact Nat.le_of_eq rfl) (hb hby at_40) (fun _ _ => ⟨rfl, rfl, (by decide : 6 + 0 ≤ _), (by decide : 60 + 0 ≤ _)⟩)
    dsimp only [Pt.U, Pt.locs, Pt.cells, Pt.slots] at X316 l316 y316 z316 st316 hQ316
    subst l316 y316 z316
    obtain ⟨rfl, rfl, e316⟩ := hQ316
    have N316 := Fr.app N314 (Fr.nil n0)
    obtain ⟨cq321, kq321, q321a, q321b, q321c⟩ := isOf hZ314 e316 c315
    obtain ⟨_, _, ⟨T321, L321, k321, n321⟩, -, X321, ⟨Lc321, hQ321, l321, y321, z321⟩, st321⟩ := X316.virtualBack hx (y := (⟨"java/lang/String", "equals", "(Ljava/lang/Object;)Z"⟩ : MethodName)) (z := (⟨"java/lang/String", "equals", "(Ljava/lang/Object;)Z"⟩ : MethodName)) hown314 (mvT hZ314 (hw _ (List.mem_of_getElem? (i := 60) rfl))) (mvT hZ314 (hw _ (List.mem_of_getElem? (i := 61) rfl))) (notFace_of_selects (args := #[]) (mvT hZ314 (hw _ (List.mem_of_getElem? (i := 63) rfl)))) (mvT hZ314 (hw _ (List.mem_of_getElem? (i := 63) rfl))) (mvT hZ314 (hw _ (List.mem_of_getElem? (i := 62) rfl))) (by decide) (backOf (W := 0) (rm_eqS l Z a0 hw [] b302 T314.heap n0 (Nat.le_trans Z0 (Nat.le_trans (Nat.le_trans (Nat.le_trans E302.1 K303.1) K311.1) K314.1)) ) hZ314 (hw _ (List.mem_of_getElem? (i := 64) rfl)) (hw _ (List.mem_of_getElem? (i := 2) rfl)) (by decide) (by decide)) q321a q321c (g := (mkF m 52 #[.val (.int i0), .val (.int i1), .val (.int i2), .val (.int i3), .val (.int i4), .val (.int nn), .val (.ref b302), .val (.ref b302)] [(.ref b302), (.ref b302)])) rfl (by rw [hml]; rfl) (Steps.refl _) (argsL := [(.ref b302)]) (rest := []) (lenOf pd_14 rfl) rfl (by show 2 * 0 + _ ≤ _; exact Nat.le_of_eq rfl) (hb hby at_52) (fun _ _ => ⟨rfl, e316, (by decide : 6 + 0 ≤ _), (by decide : 60 + 0 ≤ _)⟩)
    dsimp only [Pt.U, Pt.locs, Pt.cells, Pt.slots] at X321 l321 y321 z321 st321 hQ321
    subst l321 y321 z321
    obtain ⟨rfl, Nq321, e321⟩ := hQ321
    have N321 := Fr.app N316 Nq321
    obtain ⟨fs, hr, hrun, hended, hEnd⟩ := X321.leaveW hS314 (by rw [e321]; exact (Nat.le_refl _)) (v := some (.int (1 : Int32))) (fun h => by rw [Bd.returns] at h; cases h)
    refine ⟨_, _, pre304 _ ?_, hrun, hended, _, _, rfl, ?_, hEnd.1, hEnd.2.1, hEnd.2.2.1, hEnd.2.2.2.mono (by decide) (by decide)⟩
    · refine st311.trans ?_
      show Steps p.tables e below (T311.setTop (mkF m 24 #[.val (.int i0), .val (.int i1), .val (.int i2), .val (.int i3), .val (.int i4), .val (.int nn), .unset, .unset] [(.ref b302)])) _
      refine XS.astore X311.here hx rfl (hb hby at_24) rfl rfl (l' := #[.val (.int i0), .val (.int i1), .val (.int i2), .val (.int i3), .val (.int i4), .val (.int nn), .val (.ref b302), .unset]) rfl ?_
      show Steps p.tables e below (T311.setTop (mkF m 26 #[.val (.int i0), .val (.int i1), .val (.int i2), .val (.int i3), .val (.int i4), .val (.int nn), .val (.ref b302), .unset] [])) _
      refine XS.aload X311.here hx rfl (hb hby at_26) rfl rfl ?_
      show Steps p.tables e below (T311.setTop (mkF m 28 #[.val (.int i0), .val (.int i1), .val (.int i2), .val (.int i3), .val (.int i4), .val (.int nn), .val (.ref b302), .unset] [(.ref b302)])) _
      refine st314.trans ?_
      show Steps p.tables e below (T314.setTop (mkF m 31 #[.val (.int i0), .val (.int i1), .val (.int i2), .val (.int i3), .val (.int i4), .val (.int nn), .val (.ref b302), .unset] [(.ref b302)])) _
      refine XS.astore X314.here hx rfl (hb hby at_31) rfl rfl (l' := #[.val (.int i0), .val (.int i1), .val (.int i2), .val (.int i3), .val (.int i4), .val (.int nn), .val (.ref b302), .val (.ref b302)]) rfl ?_
      show Steps p.tables e below (T314.setTop (mkF m 33 #[.val (.int i0), .val (.int i1), .val (.int i2), .val (.int i3), .val (.int i4), .val (.int nn), .val (.ref b302), .val (.ref b302)] [])) _
      refine XS.aload X314.here hx rfl (hb hby at_33) rfl rfl ?_
      show Steps p.tables e below (T314.setTop (mkF m 35 #[.val (.int i0), .val (.int i1), .val (.int i2), .val (.int i3), .val (.int i4), .val (.int nn), .val (.ref b302), .val (.ref b302)] [(.ref b302)])) _
      refine XS.ifnullNo X314.here hx rfl (hb hby at_35) rfl ?_
      show Steps p.tables e below (T314.setTop (mkF m 38 #[.val (.int i0), .val (.int i1), .val (.int i2), .val (.int i3), .val (.int i4), .val (.int nn), .val (.ref b302), .val (.ref b302)] [])) _
      refine XS.aload X314.here hx rfl (hb hby at_38) rfl rfl ?_
      show Steps p.tables e below (T314.setTop (mkF m 40 #[.val (.int i0), .val (.int i1), .val (.int i2), .val (.int i3), .val (.int i4), .val (.int nn), .val (.ref b302), .val (.ref b302)] [(.ref b302)])) _
      refine st316.trans ?_
      show Steps p.tables e below (T316.setTop (mkF m 43 #[.val (.int i0), .val (.int i1), .val (.int i2), .val (.int i3), .val (.int i4), .val (.int nn), .val (.ref b302), .val (.ref b302)] [(.int (Int32.ofNat (cs_303).length))])) _
      refine XS.iload X316.here hx rfl (hb hby at_43) rfl ?_
      show Steps p.tables e below (T316.setTop (mkF m 45 #[.val (.int i0), .val (.int i1), .val (.int i2), .val (.int i3), .val (.int i4), .val (.int nn), .val (.ref b302), .val (.ref b302)] [(.int nn), (.int (Int32.ofNat (cs_303).length))])) _
      refine XS.icmpNo X316.here hx rfl (hb hby at_45) rfl (teq (hl1.symm : (Int32.ofNat (cs_303).length) = nn)).2 ?_
      show Steps p.tables e below (T316.setTop (mkF m 48 #[.val (.int i0), .val (.int i1), .val (.int i2), .val (.int i3), .val (.int i4), .val (.int nn), .val (.ref b302), .val (.ref b302)] [])) _
      refine XS.aload X316.here hx rfl (hb hby at_48) rfl rfl ?_
      show Steps p.tables e below (T316.setTop (mkF m 50 #[.val (.int i0), .val (.int i1), .val (.int i2), .val (.int i3), .val (.int i4), .val (.int nn), .val (.ref b302), .val (.ref b302)] [(.ref b302)])) _
      refine XS.aload X316.here hx rfl (hb hby at_50) rfl rfl ?_
      show Steps p.tables e below (T316.setTop (mkF m 52 #[.val (.int i0), .val (.int i1), .val (.int i2), .val (.int i3), .val (.int i4), .val (.int nn), .val (.ref b302), .val (.ref b302)] [(.ref b302), (.ref b302)])) _
      refine st321.trans ?_
      show Steps p.tables e below (T321.setTop (mkF m 55 #[.val (.int i0), .val (.int i1), .val (.int i2), .val (.int i3), .val (.int i4), .val (.int nn), .val (.ref b302), .val (.ref b302)] [(.int (1 : Int32))])) _
      refine XS.ifNo X321.here hx rfl (hb hby at_55) rfl ((if0 _ _).trans (feq ((by decide) : ¬ ((1 : Int32) = (0 : Int32)))).1) ?_
      show Steps p.tables e below (T321.setTop (mkF m 58 #[.val (.int i0), .val (.int i1), .val (.int i2), .val (.int i3), .val (.int i4), .val (.int nn), .val (.ref b302), .val (.ref b302)] [])) _
      refine XS.iconst X321.here hx rfl (hb hby at_58) ?_
      show Steps p.tables e below (T321.setTop (mkF m 59 #[.val (.int i0), .val (.int i1), .val (.int i2), .val (.int i3), .val (.int i4), .val (.int nn), .val (.ref b302), .val (.ref b302)] [(.int (1 : Int32))])) _
      refine XS.goto X321.here hx rfl (pc0 := 59) (pc' := 63) rfl (hb hby at_59) (by decide) (by decide) ?_
      show Steps p.tables e below (T321.setTop (mkF m 63 #[.val (.int i0), .val (.int i1), .val (.int i2), .val (.int i3), .val (.int i4), .val (.int nn), .val (.ref b302), .val (.ref b302)] [(.int (1 : Int32))])) _
      exact retN X321 hx (t := .boolean) Bd.returns (by simp) (hb hby at_63) hr
    · show Q_law Z i0 i1 i2 i3 i4 G h0 n0 _ T321.heap _
      rw [e321]
      exact ⟨rfl, N321⟩
  · have hp : ∀ c ∈ cs_303, ¬ c < 0 ∧ ¬ (255 : Int32) < c := fun c hc => ⟨(hW c hc).1, fun q => hwd ⟨c, hc, q⟩⟩
    rcases hn with hn | hn | hn | hn
    · subst hn
      have hl3 : cs_303.length = 1 := hl2
      have c323 : Old Z n0 T303.heap := ((q5.ext E302).keep K303 all0)
      have c324 : Exa Z T303.heap b302 "java/lang/String" := (A302.keep K303)
      have c325 : Fld Z T303.heap b302 "java/lang/String" "value" "[B" .null := (D302_value.keep K303 nin0)
      have c326 : Fld Z T303.heap b302 "java/lang/String" "coder" "B" (.int (0 : Int32)) := (D302_coder.keep K303 nin0)
      have ge327 : n0 ≤ b302 := Nat.le_trans Z0 (Nat.le_trans (Nat.le_refl _) (Nat.le_of_eq g302.symm))
      obtain ⟨_, _, ⟨T322, L322, k322, n322⟩, -, X322, ⟨Lc322, hQ322, l322, y322, z322⟩, st322⟩ := X303.specialBack hx (y := (⟨"java/lang/String", "<init>", "([C)V"⟩ : MethodName)) rfl hown0 (mvT hZ0 (hw _ (List.mem_of_getElem? (i := 8) rfl))) (mvT hZ0 (hw _ (List.mem_of_getElem? (i := 9) rfl))) (mvT hZ0 (hw _ (List.mem_of_getElem? (i := 10) rfl))) (by decide) (StrChars.Road.backV (W := 1) hZ0 (own_hw_backV hw) (kI := 4) (hw _ (List.mem_of_getElem? (i := 1) rfl)) (cs := cs_303) (bs := (cs_303).map (fun c => c.toInt8.toInt32)) (n := 1) ge327 (Nat.le_trans Z0 (Nat.le_trans E302.1 K303.1)) c324 c325 c326 f303_1 (q0.ext c323.2) hCS hl3 rfl (by decide) (by decide) hp rfl (by decide) (by decide)) (g := (mkF m 21 #[.val (.int i0), .val (.int i1), .val (.int i2), .val (.int i3), .val (.int i4), .val (.int (1 : Int32)), .unset, .unset] [(.ref ca_303), (.ref b302), (.ref b302)])) rfl (by rw [hml]; rfl) (Steps.refl _) (a := b302) (argsL := [(.ref ca_303)]) (rest := [(.ref b302)]) (lenOf pd_11 rfl) rfl (by show 2 * 0 + _ ≤ _; exact Nat.le_of_eq rfl) (hb hby at_21) (fun _ _ => ⟨rfl, rfl, (by decide : 2 + 1 ≤ _), (by decide : 8 + 1 ≤ _)⟩)
      dsimp only [Pt.U, Pt.locs, Pt.cells, Pt.slots] at X322 l322 y322 z322 st322 hQ322
      subst l322 y322 z322
      obtain ⟨rfl, Nq322, K322, fE322, fC322, t322, kb322, gt322, sz322, nt322, fV322, fA322⟩ := hQ322
      have N322 := Fr.app N303 Nq322
      have hcd322 : StrChars.Road.CodA cs_303 0 (1 : Int32) (((cs_303).map (fun c => c.toInt8.toInt32)).map Value.int) := StrChars.Road.codOf (n := 1) hl3 (fun c hc => (hp c hc).2)
      have c328 : Old Z n0 T322.heap := (c323.keep K322 (allS ge327 all0))
      obtain ⟨_, _, ⟨T329, L329, k329, n329⟩, -, X329', hS329', hz329', ⟨Lc329, hQ329, l329, y329, z329⟩, st329⟩ := callSS X322 hx (y := (⟨"com/example/data_to_domain/datatodomain/Names", "fieldName", "(Ljava/lang/String;)Ljava/lang/String;"⟩ : MethodName)) hown0 (mvT hZ0 (hw _ (List.mem_of_getElem? (i := 34) rfl))) (mvT hZ0 (hw _ (List.mem_of_getElem? (i := 35) rfl))) (mvT hZ0 (hw _ (List.mem_of_getElem? (i := 36) rfl))) (mvT hZ0 (hw _ (List.mem_of_getElem? (i := 37) rfl))) (by decide) (backOfS (W := 0) (rm_fname l Z a0 hw [] b302 t322 kb322 (1 : Int32) (((cs_303).map (fun c => c.toInt8.toInt32)).map Value.int) cs_303 (0 : Int32) G T322.heap n0 (Nat.le_trans Z0 (Nat.le_trans (Nat.le_trans E302.1 K303.1) K322.1)) q0 hCS c328 fE322 fV322 fC322 fA322 (hcd322) (hW) (hle) (hne)) hZ0 (hw _ (List.mem_of_getElem? (i := 37) rfl)) (hw _ (List.mem_of_getElem? (i := 36) rfl)) (by decide) (by decide)) (g := (mkF m 28 #[.val (.int i0), .val (.int i1), .val (.int i2), .val (.int i3), .val (.int i4), .val (.int (1 : Int32)), .val (.ref b302), .unset] [(.ref b302)])) rfl (by rw [hml]; rfl) (argsL := [(.ref b302)]) (rest := []) (lenOf pd_12 rfl) rfl (by show 2 * 0 + _ ≤ _; exact Nat.le_of_eq rfl) (hb hby at_28) (fun _ _ => ⟨rfl, rfl, (by decide : 3 + 2 ≤ _), (by decide : 9 + 40 ≤ _)⟩)
      dsimp only [Pt.U, Pt.locs, Pt.cells, Pt.slots] at X329' l329 y329 z329 st329 hQ329 hS329' hz329'
      subst l329 y329 z329
      obtain ⟨rfl, Nq329, K329⟩ := hQ329
      have N329 := Fr.app N322 Nq329
      obtain ⟨X329, hS329, hZ329, hown329⟩ := rebS hS0 (Nat.le_trans hk0 (Nat.le_trans (Nat.le_trans E302.1 K303.1) K322.1)) X329' hS329' hz329' hZ0 hown0
      have c330 : Exa Z T329.heap b302 "java/lang/String" := (fE322.keep K329)
      have c332 : Old Z n0 T329.heap := (c328.keep K329 all0)
      have c333 : Fld Z T329.heap b302 "java/lang/String" "value" "[B" (.ref t322) := (fV322.keep K329 nin0)
      have c334 : Fld Z T329.heap b302 "java/lang/String" "coder" "B" (.int (0 : Int32)) := (fC322.keep K329 nin0)
      have c335 : Arv Z T329.heap t322 kb322 .byte (1 : Int32) (((cs_303).map (fun c => c.toInt8.toInt32)).map Value.int) (.int 0) := (fA322.keep K329 nin0)
      obtain ⟨cq331, kq331, q331a, q331b, q331c⟩ := isOf hZ329 rfl c330
      obtain ⟨_, _, ⟨T331, L331, k331, n331⟩, -, X331, ⟨Lc331, hQ331, l331, y331, z331⟩, st331⟩ := X329.virtualBack hx (y := (⟨"java/lang/String", "length", "()I"⟩ : MethodName)) (z := (⟨"java/lang/String", "length", "()I"⟩ : MethodName)) hown329 (mvT hZ329 (hw _ (List.mem_of_getElem? (i := 50) rfl))) (mvT hZ329 (hw _ (List.mem_of_getElem? (i := 51) rfl))) (notFace_of_selects (args := #[]) (mvT hZ329 (hw _ (List.mem_of_getElem? (i := 53) rfl)))) (mvT hZ329 (hw _ (List.mem_of_getElem? (i := 53) rfl))) (mvT hZ329 (hw _ (List.mem_of_getElem? (i := 52) rfl))) (by decide) (StrChars.Road.lenW (W := 0) hZ329 (own_hw_lenW hw) (kI := 4) (hw _ (List.mem_of_getElem? (i := 1) rfl)) c330 c333 c334 c335 hcd322 hW (q0.ext c332.2) hCS hle (by decide) (by decide)) q331a q331c (g := (mkF m 40 #[.val (.int i0), .val (.int i1), .val (.int i2), .val (.int i3), .val (.int i4), .val (.int (1 : Int32)), .val (.ref b302), .val (.ref b302)] [(.ref b302)])) rfl (by rw [hml]; rfl) (Steps.refl _) (argsL := []) (rest := []) (lenOf pd_13 rfl) rfl (by show 2 * 0 + _ ≤ _; exact Nat.le_of_eq rfl) (hb hby at_40) (fun _ _ => ⟨rfl, rfl, (by decide : 5 + 0 ≤ _), (by decide : 49 + 0 ≤ _)⟩)
      dsimp only [Pt.U, Pt.locs, Pt.cells, Pt.slots] at X331 l331 y331 z331 st331 hQ331
      subst l331 y331 z331
      obtain ⟨rfl, rfl, e331⟩ := hQ331
      have N331 := Fr.app N329 (Fr.nil n0)
      obtain ⟨cq336, kq336, q336a, q336b, q336c⟩ := isOf hZ329 e331 c330
      obtain ⟨_, _, ⟨T336, L336, k336, n336⟩, -, X336, ⟨Lc336, hQ336, l336, y336, z336⟩, st336⟩ := X331.virtualBack hx (y := (⟨"java/lang/String", "equals", "(Ljava/lang/Object;)Z"⟩ : MethodName)) (z := (⟨"java/lang/String", "equals", "(Ljava/lang/Object;)Z"⟩ : MethodName)) hown329 (mvT hZ329 (hw _ (List.mem_of_getElem? (i := 60) rfl))) (mvT hZ329 (hw _ (List.mem_of_getElem? (i := 61) rfl))) (notFace_of_selects (args := #[]) (mvT hZ329 (hw _ (List.mem_of_getElem? (i := 63) rfl)))) (mvT hZ329 (hw _ (List.mem_of_getElem? (i := 63) rfl))) (mvT hZ329 (hw _ (List.mem_of_getElem? (i := 62) rfl))) (by decide) (backOf (W := 0) (rm_eqS l Z a0 hw [] b302 T329.heap n0 (Nat.le_trans Z0 (Nat.le_trans (Nat.le_trans (Nat.le_trans E302.1 K303.1) K322.1) K329.1)) ) hZ329 (hw _ (List.mem_of_getElem? (i := 64) rfl)) (hw _ (List.mem_of_getElem? (i := 2) rfl)) (by decide) (by decide)) q336a q336c (g := (mkF m 52 #[.val (.int i0), .val (.int i1), .val (.int i2), .val (.int i3), .val (.int i4), .val (.int (1 : Int32)), .val (.ref b302), .val (.ref b302)] [(.ref b302), (.ref b302)])) rfl (by rw [hml]; rfl) (Steps.refl _) (argsL := [(.ref b302)]) (rest := []) (lenOf pd_14 rfl) rfl (by show 2 * 0 + _ ≤ _; exact Nat.le_of_eq rfl) (hb hby at_52) (fun _ _ => ⟨rfl, e331, (by decide : 5 + 0 ≤ _), (by decide : 49 + 0 ≤ _)⟩)
      dsimp only [Pt.U, Pt.locs, Pt.cells, Pt.slots] at X336 l336 y336 z336 st336 hQ336
      subst l336 y336 z336
      obtain ⟨rfl, Nq336, e336⟩ := hQ336
      have N336 := Fr.app N331 Nq336
      obtain ⟨fs, hr, hrun, hended, hEnd⟩ := X336.leaveW hS329 (by rw [e336]; exact (Nat.le_refl _)) (v := some (.int (1 : Int32))) (fun h => by rw [Bd.returns] at h; cases h)
      refine ⟨_, _, pre304 _ ?_, hrun, hended, _, _, rfl, ?_, hEnd.1, hEnd.2.1, hEnd.2.2.1, hEnd.2.2.2.mono (by decide) (by decide)⟩
      · refine st322.trans ?_
        show Steps p.tables e below (T322.setTop (mkF m 24 #[.val (.int i0), .val (.int i1), .val (.int i2), .val (.int i3), .val (.int i4), .val (.int (1 : Int32)), .unset, .unset] [(.ref b302)])) _
        refine XS.astore X322.here hx rfl (hb hby at_24) rfl rfl (l' := #[.val (.int i0), .val (.int i1), .val (.int i2), .val (.int i3), .val (.int i4), .val (.int (1 : Int32)), .val (.ref b302), .unset]) rfl ?_
        show Steps p.tables e below (T322.setTop (mkF m 26 #[.val (.int i0), .val (.int i1), .val (.int i2), .val (.int i3), .val (.int i4), .val (.int (1 : Int32)), .val (.ref b302), .unset] [])) _
        refine XS.aload X322.here hx rfl (hb hby at_26) rfl rfl ?_
        show Steps p.tables e below (T322.setTop (mkF m 28 #[.val (.int i0), .val (.int i1), .val (.int i2), .val (.int i3), .val (.int i4), .val (.int (1 : Int32)), .val (.ref b302), .unset] [(.ref b302)])) _
        refine st329.trans ?_
        show Steps p.tables e below (T329.setTop (mkF m 31 #[.val (.int i0), .val (.int i1), .val (.int i2), .val (.int i3), .val (.int i4), .val (.int (1 : Int32)), .val (.ref b302), .unset] [(.ref b302)])) _
        refine XS.astore X329.here hx rfl (hb hby at_31) rfl rfl (l' := #[.val (.int i0), .val (.int i1), .val (.int i2), .val (.int i3), .val (.int i4), .val (.int (1 : Int32)), .val (.ref b302), .val (.ref b302)]) rfl ?_
        show Steps p.tables e below (T329.setTop (mkF m 33 #[.val (.int i0), .val (.int i1), .val (.int i2), .val (.int i3), .val (.int i4), .val (.int (1 : Int32)), .val (.ref b302), .val (.ref b302)] [])) _
        refine XS.aload X329.here hx rfl (hb hby at_33) rfl rfl ?_
        show Steps p.tables e below (T329.setTop (mkF m 35 #[.val (.int i0), .val (.int i1), .val (.int i2), .val (.int i3), .val (.int i4), .val (.int (1 : Int32)), .val (.ref b302), .val (.ref b302)] [(.ref b302)])) _
        refine XS.ifnullNo X329.here hx rfl (hb hby at_35) rfl ?_
        show Steps p.tables e below (T329.setTop (mkF m 38 #[.val (.int i0), .val (.int i1), .val (.int i2), .val (.int i3), .val (.int i4), .val (.int (1 : Int32)), .val (.ref b302), .val (.ref b302)] [])) _
        refine XS.aload X329.here hx rfl (hb hby at_38) rfl rfl ?_
        show Steps p.tables e below (T329.setTop (mkF m 40 #[.val (.int i0), .val (.int i1), .val (.int i2), .val (.int i3), .val (.int i4), .val (.int (1 : Int32)), .val (.ref b302), .val (.ref b302)] [(.ref b302)])) _
        refine st331.trans ?_
        show Steps p.tables e below (T331.setTop (mkF m 43 #[.val (.int i0), .val (.int i1), .val (.int i2), .val (.int i3), .val (.int i4), .val (.int (1 : Int32)), .val (.ref b302), .val (.ref b302)] [(.int (Int32.ofNat (cs_303).length))])) _
        refine XS.iload X331.here hx rfl (hb hby at_43) rfl ?_
        show Steps p.tables e below (T331.setTop (mkF m 45 #[.val (.int i0), .val (.int i1), .val (.int i2), .val (.int i3), .val (.int i4), .val (.int (1 : Int32)), .val (.ref b302), .val (.ref b302)] [(.int (1 : Int32)), (.int (Int32.ofNat (cs_303).length))])) _
        refine XS.icmpNo X331.here hx rfl (hb hby at_45) rfl (teq (hl1.symm : (Int32.ofNat (cs_303).length) = (1 : Int32))).2 ?_
        show Steps p.tables e below (T331.setTop (mkF m 48 #[.val (.int i0), .val (.int i1), .val (.int i2), .val (.int i3), .val (.int i4), .val (.int (1 : Int32)), .val (.ref b302), .val (.ref b302)] [])) _
        refine XS.aload X331.here hx rfl (hb hby at_48) rfl rfl ?_
        show Steps p.tables e below (T331.setTop (mkF m 50 #[.val (.int i0), .val (.int i1), .val (.int i2), .val (.int i3), .val (.int i4), .val (.int (1 : Int32)), .val (.ref b302), .val (.ref b302)] [(.ref b302)])) _
        refine XS.aload X331.here hx rfl (hb hby at_50) rfl rfl ?_
        show Steps p.tables e below (T331.setTop (mkF m 52 #[.val (.int i0), .val (.int i1), .val (.int i2), .val (.int i3), .val (.int i4), .val (.int (1 : Int32)), .val (.ref b302), .val (.ref b302)] [(.ref b302), (.ref b302)])) _
        refine st336.trans ?_
        show Steps p.tables e below (T336.setTop (mkF m 55 #[.val (.int i0), .val (.int i1), .val (.int i2), .val (.int i3), .val (.int i4), .val (.int (1 : Int32)), .val (.ref b302), .val (.ref b302)] [(.int (1 : Int32))])) _
        refine XS.ifNo X336.here hx rfl (hb hby at_55) rfl ((if0 _ _).trans (feq ((by decide) : ¬ ((1 : Int32) = (0 : Int32)))).1) ?_
        show Steps p.tables e below (T336.setTop (mkF m 58 #[.val (.int i0), .val (.int i1), .val (.int i2), .val (.int i3), .val (.int i4), .val (.int (1 : Int32)), .val (.ref b302), .val (.ref b302)] [])) _
        refine XS.iconst X336.here hx rfl (hb hby at_58) ?_
        show Steps p.tables e below (T336.setTop (mkF m 59 #[.val (.int i0), .val (.int i1), .val (.int i2), .val (.int i3), .val (.int i4), .val (.int (1 : Int32)), .val (.ref b302), .val (.ref b302)] [(.int (1 : Int32))])) _
        refine XS.goto X336.here hx rfl (pc0 := 59) (pc' := 63) rfl (hb hby at_59) (by decide) (by decide) ?_
        show Steps p.tables e below (T336.setTop (mkF m 63 #[.val (.int i0), .val (.int i1), .val (.int i2), .val (.int i3), .val (.int i4), .val (.int (1 : Int32)), .val (.ref b302), .val (.ref b302)] [(.int (1 : Int32))])) _
        exact retN X336 hx (t := .boolean) Bd.returns (by simp) (hb hby at_63) hr
      · show Q_law Z i0 i1 i2 i3 i4 G h0 n0 _ T336.heap _
        rw [e336]
        exact ⟨rfl, N336⟩
    · subst hn
      have hl3 : cs_303.length = 2 := hl2
      have c338 : Old Z n0 T303.heap := ((q5.ext E302).keep K303 all0)
      have c339 : Exa Z T303.heap b302 "java/lang/String" := (A302.keep K303)
      have c340 : Fld Z T303.heap b302 "java/lang/String" "value" "[B" .null := (D302_value.keep K303 nin0)
      have c341 : Fld Z T303.heap b302 "java/lang/String" "coder" "B" (.int (0 : Int32)) := (D302_coder.keep K303 nin0)
      have ge342 : n0 ≤ b302 := Nat.le_trans Z0 (Nat.le_trans (Nat.le_refl _) (Nat.le_of_eq g302.symm))
      obtain ⟨_, _, ⟨T337, L337, k337, n337⟩, -, X337, ⟨Lc337, hQ337, l337, y337, z337⟩, st337⟩ := X303.specialBack hx (y := (⟨"java/lang/String", "<init>", "([C)V"⟩ : MethodName)) rfl hown0 (mvT hZ0 (hw _ (List.mem_of_getElem? (i := 8) rfl))) (mvT hZ0 (hw _ (List.mem_of_getElem? (i := 9) rfl))) (mvT hZ0 (hw _ (List.mem_of_getElem? (i := 10) rfl))) (by decide) (StrChars.Road.backV (W := 1) hZ0 (own_hw_backV hw) (kI := 4) (hw _ (List.mem_of_getElem? (i := 1) rfl)) (cs := cs_303) (bs := (cs_303).map (fun c => c.toInt8.toInt32)) (n := 2) ge342 (Nat.le_trans Z0 (Nat.le_trans E302.1 K303.1)) c339 c340 c341 f303_1 (q0.ext c338.2) hCS hl3 rfl (by decide) (by decide) hp rfl (by decide) (by decide)) (g := (mkF m 21 #[.val (.int i0), .val (.int i1), .val (.int i2), .val (.int i3), .val (.int i4), .val (.int (2 : Int32)), .unset, .unset] [(.ref ca_303), (.ref b302), (.ref b302)])) rfl (by rw [hml]; rfl) (Steps.refl _) (a := b302) (argsL := [(.ref ca_303)]) (rest := [(.ref b302)]) (lenOf pd_11 rfl) rfl (by show 2 * 0 + _ ≤ _; exact Nat.le_of_eq rfl) (hb hby at_21) (fun _ _ => ⟨rfl, rfl, (by decide : 2 + 1 ≤ _), (by decide : 8 + 2 ≤ _)⟩)
      dsimp only [Pt.U, Pt.locs, Pt.cells, Pt.slots] at X337 l337 y337 z337 st337 hQ337
      subst l337 y337 z337
      obtain ⟨rfl, Nq337, K337, fE337, fC337, t337, kb337, gt337, sz337, nt337, fV337, fA337⟩ := hQ337
      have N337 := Fr.app N303 Nq337
      have hcd337 : StrChars.Road.CodA cs_303 0 (2 : Int32) (((cs_303).map (fun c => c.toInt8.toInt32)).map Value.int) := StrChars.Road.codOf (n := 2) hl3 (fun c hc => (hp c hc).2)
      have c343 : Old Z n0 T337.heap := (c338.keep K337 (allS ge342 all0))
      obtain ⟨_, _, ⟨T344, L344, k344, n344⟩, -, X344', hS344', hz344', ⟨Lc344, hQ344, l344, y344, z344⟩, st344⟩ := callSS X337 hx (y := (⟨"com/example/data_to_domain/datatodomain/Names", "fieldName", "(Ljava/lang/String;)Ljava/lang/String;"⟩ : MethodName)) hown0 (mvT hZ0 (hw _ (List.mem_of_getElem? (i := 34) rfl))) (mvT hZ0 (hw _ (List.mem_of_getElem? (i := 35) rfl))) (mvT hZ0 (hw _ (List.mem_of_getElem? (i := 36) rfl))) (mvT hZ0 (hw _ (List.mem_of_getElem? (i := 37) rfl))) (by decide) (backOfS (W := 0) (rm_fname l Z a0 hw [] b302 t337 kb337 (2 : Int32) (((cs_303).map (fun c => c.toInt8.toInt32)).map Value.int) cs_303 (0 : Int32) G T337.heap n0 (Nat.le_trans Z0 (Nat.le_trans (Nat.le_trans E302.1 K303.1) K337.1)) q0 hCS c343 fE337 fV337 fC337 fA337 (hcd337) (hW) (hle) (hne)) hZ0 (hw _ (List.mem_of_getElem? (i := 37) rfl)) (hw _ (List.mem_of_getElem? (i := 36) rfl)) (by decide) (by decide)) (g := (mkF m 28 #[.val (.int i0), .val (.int i1), .val (.int i2), .val (.int i3), .val (.int i4), .val (.int (2 : Int32)), .val (.ref b302), .unset] [(.ref b302)])) rfl (by rw [hml]; rfl) (argsL := [(.ref b302)]) (rest := []) (lenOf pd_12 rfl) rfl (by show 2 * 0 + _ ≤ _; exact Nat.le_of_eq rfl) (hb hby at_28) (fun _ _ => ⟨rfl, rfl, (by decide : 3 + 2 ≤ _), (by decide : 10 + 40 ≤ _)⟩)
      dsimp only [Pt.U, Pt.locs, Pt.cells, Pt.slots] at X344' l344 y344 z344 st344 hQ344 hS344' hz344'
      subst l344 y344 z344
      obtain ⟨rfl, Nq344, K344⟩ := hQ344
      have N344 := Fr.app N337 Nq344
      obtain ⟨X344, hS344, hZ344, hown344⟩ := rebS hS0 (Nat.le_trans hk0 (Nat.le_trans (Nat.le_trans E302.1 K303.1) K337.1)) X344' hS344' hz344' hZ0 hown0
      have c345 : Exa Z T344.heap b302 "java/lang/String" := (fE337.keep K344)
      have c347 : Old Z n0 T344.heap := (c343.keep K344 all0)
      have c348 : Fld Z T344.heap b302 "java/lang/String" "value" "[B" (.ref t337) := (fV337.keep K344 nin0)
      have c349 : Fld Z T344.heap b302 "java/lang/String" "coder" "B" (.int (0 : Int32)) := (fC337.keep K344 nin0)
      have c350 : Arv Z T344.heap t337 kb337 .byte (2 : Int32) (((cs_303).map (fun c => c.toInt8.toInt32)).map Value.int) (.int 0) := (fA337.keep K344 nin0)
      obtain ⟨cq346, kq346, q346a, q346b, q346c⟩ := isOf hZ344 rfl c345
      obtain ⟨_, _, ⟨T346, L346, k346, n346⟩, -, X346, ⟨Lc346, hQ346, l346, y346, z346⟩, st346⟩ := X344.virtualBack hx (y := (⟨"java/lang/String", "length", "()I"⟩ : MethodName)) (z := (⟨"java/lang/String", "length", "()I"⟩ : MethodName)) hown344 (mvT hZ344 (hw _ (List.mem_of_getElem? (i := 50) rfl))) (mvT hZ344 (hw _ (List.mem_of_getElem? (i := 51) rfl))) (notFace_of_selects (args := #[]) (mvT hZ344 (hw _ (List.mem_of_getElem? (i := 53) rfl)))) (mvT hZ344 (hw _ (List.mem_of_getElem? (i := 53) rfl))) (mvT hZ344 (hw _ (List.mem_of_getElem? (i := 52) rfl))) (by decide) (StrChars.Road.lenW (W := 0) hZ344 (own_hw_lenW hw) (kI := 4) (hw _ (List.mem_of_getElem? (i := 1) rfl)) c345 c348 c349 c350 hcd337 hW (q0.ext c347.2) hCS hle (by decide) (by decide)) q346a q346c (g := (mkF m 40 #[.val (.int i0), .val (.int i1), .val (.int i2), .val (.int i3), .val (.int i4), .val (.int (2 : Int32)), .val (.ref b302), .val (.ref b302)] [(.ref b302)])) rfl (by rw [hml]; rfl) (Steps.refl _) (argsL := []) (rest := []) (lenOf pd_13 rfl) rfl (by show 2 * 0 + _ ≤ _; exact Nat.le_of_eq rfl) (hb hby at_40) (fun _ _ => ⟨rfl, rfl, (by decide : 5 + 0 ≤ _), (by decide : 50 + 0 ≤ _)⟩)
      dsimp only [Pt.U, Pt.locs, Pt.cells, Pt.slots] at X346 l346 y346 z346 st346 hQ346
      subst l346 y346 z346
      obtain ⟨rfl, rfl, e346⟩ := hQ346
      have N346 := Fr.app N344 (Fr.nil n0)
      obtain ⟨cq351, kq351, q351a, q351b, q351c⟩ := isOf hZ344 e346 c345
      obtain ⟨_, _, ⟨T351, L351, k351, n351⟩, -, X351, ⟨Lc351, hQ351, l351, y351, z351⟩, st351⟩ := X346.virtualBack hx (y := (⟨"java/lang/String", "equals", "(Ljava/lang/Object;)Z"⟩ : MethodName)) (z := (⟨"java/lang/String", "equals", "(Ljava/lang/Object;)Z"⟩ : MethodName)) hown344 (mvT hZ344 (hw _ (List.mem_of_getElem? (i := 60) rfl))) (mvT hZ344 (hw _ (List.mem_of_getElem? (i := 61) rfl))) (notFace_of_selects (args := #[]) (mvT hZ344 (hw _ (List.mem_of_getElem? (i := 63) rfl)))) (mvT hZ344 (hw _ (List.mem_of_getElem? (i := 63) rfl))) (mvT hZ344 (hw _ (List.mem_of_getElem? (i := 62) rfl))) (by decide) (backOf (W := 0) (rm_eqS l Z a0 hw [] b302 T344.heap n0 (Nat.le_trans Z0 (Nat.le_trans (Nat.le_trans (Nat.le_trans E302.1 K303.1) K337.1) K344.1)) ) hZ344 (hw _ (List.mem_of_getElem? (i := 64) rfl)) (hw _ (List.mem_of_getElem? (i := 2) rfl)) (by decide) (by decide)) q351a q351c (g := (mkF m 52 #[.val (.int i0), .val (.int i1), .val (.int i2), .val (.int i3), .val (.int i4), .val (.int (2 : Int32)), .val (.ref b302), .val (.ref b302)] [(.ref b302), (.ref b302)])) rfl (by rw [hml]; rfl) (Steps.refl _) (argsL := [(.ref b302)]) (rest := []) (lenOf pd_14 rfl) rfl (by show 2 * 0 + _ ≤ _; exact Nat.le_of_eq rfl) (hb hby at_52) (fun _ _ => ⟨rfl, e346, (by decide : 5 + 0 ≤ _), (by decide : 50 + 0 ≤ _)⟩)
      dsimp only [Pt.U, Pt.locs, Pt.cells, Pt.slots] at X351 l351 y351 z351 st351 hQ351
      subst l351 y351 z351
      obtain ⟨rfl, Nq351, e351⟩ := hQ351
      have N351 := Fr.app N346 Nq351
      obtain ⟨fs, hr, hrun, hended, hEnd⟩ := X351.leaveW hS344 (by rw [e351]; exact (Nat.le_refl _)) (v := some (.int (1 : Int32))) (fun h => by rw [Bd.returns] at h; cases h)
      refine ⟨_, _, pre304 _ ?_, hrun, hended, _, _, rfl, ?_, hEnd.1, hEnd.2.1, hEnd.2.2.1, hEnd.2.2.2.mono (by decide) (by decide)⟩
      · refine st337.trans ?_
        show Steps p.tables e below (T337.setTop (mkF m 24 #[.val (.int i0), .val (.int i1), .val (.int i2), .val (.int i3), .val (.int i4), .val (.int (2 : Int32)), .unset, .unset] [(.ref b302)])) _
        refine XS.astore X337.here hx rfl (hb hby at_24) rfl rfl (l' := #[.val (.int i0), .val (.int i1), .val (.int i2), .val (.int i3), .val (.int i4), .val (.int (2 : Int32)), .val (.ref b302), .unset]) rfl ?_
        show Steps p.tables e below (T337.setTop (mkF m 26 #[.val (.int i0), .val (.int i1), .val (.int i2), .val (.int i3), .val (.int i4), .val (.int (2 : Int32)), .val (.ref b302), .unset] [])) _
        refine XS.aload X337.here hx rfl (hb hby at_26) rfl rfl ?_
        show Steps p.tables e below (T337.setTop (mkF m 28 #[.val (.int i0), .val (.int i1), .val (.int i2), .val (.int i3), .val (.int i4), .val (.int (2 : Int32)), .val (.ref b302), .unset] [(.ref b302)])) _
        refine st344.trans ?_
        show Steps p.tables e below (T344.setTop (mkF m 31 #[.val (.int i0), .val (.int i1), .val (.int i2), .val (.int i3), .val (.int i4), .val (.int (2 : Int32)), .val (.ref b302), .unset] [(.ref b302)])) _
        refine XS.astore X344.here hx rfl (hb hby at_31) rfl rfl (l' := #[.val (.int i0), .val (.int i1), .val (.int i2), .val (.int i3), .val (.int i4), .val (.int (2 : Int32)), .val (.ref b302), .val (.ref b302)]) rfl ?_
        show Steps p.tables e below (T344.setTop (mkF m 33 #[.val (.int i0), .val (.int i1), .val (.int i2), .val (.int i3), .val (.int i4), .val (.int (2 : Int32)), .val (.ref b302), .val (.ref b302)] [])) _
        refine XS.aload X344.here hx rfl (hb hby at_33) rfl rfl ?_
        show Steps p.tables e below (T344.setTop (mkF m 35 #[.val (.int i0), .val (.int i1), .val (.int i2), .val (.int i3), .val (.int i4), .val (.int (2 : Int32)), .val (.ref b302), .val (.ref b302)] [(.ref b302)])) _
        refine XS.ifnullNo X344.here hx rfl (hb hby at_35) rfl ?_
        show Steps p.tables e below (T344.setTop (mkF m 38 #[.val (.int i0), .val (.int i1), .val (.int i2), .val (.int i3), .val (.int i4), .val (.int (2 : Int32)), .val (.ref b302), .val (.ref b302)] [])) _
        refine XS.aload X344.here hx rfl (hb hby at_38) rfl rfl ?_
        show Steps p.tables e below (T344.setTop (mkF m 40 #[.val (.int i0), .val (.int i1), .val (.int i2), .val (.int i3), .val (.int i4), .val (.int (2 : Int32)), .val (.ref b302), .val (.ref b302)] [(.ref b302)])) _
        refine st346.trans ?_
        show Steps p.tables e below (T346.setTop (mkF m 43 #[.val (.int i0), .val (.int i1), .val (.int i2), .val (.int i3), .val (.int i4), .val (.int (2 : Int32)), .val (.ref b302), .val (.ref b302)] [(.int (Int32.ofNat (cs_303).length))])) _
        refine XS.iload X346.here hx rfl (hb hby at_43) rfl ?_
        show Steps p.tables e below (T346.setTop (mkF m 45 #[.val (.int i0), .val (.int i1), .val (.int i2), .val (.int i3), .val (.int i4), .val (.int (2 : Int32)), .val (.ref b302), .val (.ref b302)] [(.int (2 : Int32)), (.int (Int32.ofNat (cs_303).length))])) _
        refine XS.icmpNo X346.here hx rfl (hb hby at_45) rfl (teq (hl1.symm : (Int32.ofNat (cs_303).length) = (2 : Int32))).2 ?_
        show Steps p.tables e below (T346.setTop (mkF m 48 #[.val (.int i0), .val (.int i1), .val (.int i2), .val (.int i3), .val (.int i4), .val (.int (2 : Int32)), .val (.ref b302), .val (.ref b302)] [])) _
        refine XS.aload X346.here hx rfl (hb hby at_48) rfl rfl ?_
        show Steps p.tables e below (T346.setTop (mkF m 50 #[.val (.int i0), .val (.int i1), .val (.int i2), .val (.int i3), .val (.int i4), .val (.int (2 : Int32)), .val (.ref b302), .val (.ref b302)] [(.ref b302)])) _
        refine XS.aload X346.here hx rfl (hb hby at_50) rfl rfl ?_
        show Steps p.tables e below (T346.setTop (mkF m 52 #[.val (.int i0), .val (.int i1), .val (.int i2), .val (.int i3), .val (.int i4), .val (.int (2 : Int32)), .val (.ref b302), .val (.ref b302)] [(.ref b302), (.ref b302)])) _
        refine st351.trans ?_
        show Steps p.tables e below (T351.setTop (mkF m 55 #[.val (.int i0), .val (.int i1), .val (.int i2), .val (.int i3), .val (.int i4), .val (.int (2 : Int32)), .val (.ref b302), .val (.ref b302)] [(.int (1 : Int32))])) _
        refine XS.ifNo X351.here hx rfl (hb hby at_55) rfl ((if0 _ _).trans (feq ((by decide) : ¬ ((1 : Int32) = (0 : Int32)))).1) ?_
        show Steps p.tables e below (T351.setTop (mkF m 58 #[.val (.int i0), .val (.int i1), .val (.int i2), .val (.int i3), .val (.int i4), .val (.int (2 : Int32)), .val (.ref b302), .val (.ref b302)] [])) _
        refine XS.iconst X351.here hx rfl (hb hby at_58) ?_
        show Steps p.tables e below (T351.setTop (mkF m 59 #[.val (.int i0), .val (.int i1), .val (.int i2), .val (.int i3), .val (.int i4), .val (.int (2 : Int32)), .val (.ref b302), .val (.ref b302)] [(.int (1 : Int32))])) _
        refine XS.goto X351.here hx rfl (pc0 := 59) (pc' := 63) rfl (hb hby at_59) (by decide) (by decide) ?_
        show Steps p.tables e below (T351.setTop (mkF m 63 #[.val (.int i0), .val (.int i1), .val (.int i2), .val (.int i3), .val (.int i4), .val (.int (2 : Int32)), .val (.ref b302), .val (.ref b302)] [(.int (1 : Int32))])) _
        exact retN X351 hx (t := .boolean) Bd.returns (by simp) (hb hby at_63) hr
      · show Q_law Z i0 i1 i2 i3 i4 G h0 n0 _ T351.heap _
        rw [e351]
        exact ⟨rfl, N351⟩
    · subst hn
      have hl3 : cs_303.length = 3 := hl2
      have c353 : Old Z n0 T303.heap := ((q5.ext E302).keep K303 all0)
      have c354 : Exa Z T303.heap b302 "java/lang/String" := (A302.keep K303)
      have c355 : Fld Z T303.heap b302 "java/lang/String" "value" "[B" .null := (D302_value.keep K303 nin0)
      have c356 : Fld Z T303.heap b302 "java/lang/String" "coder" "B" (.int (0 : Int32)) := (D302_coder.keep K303 nin0)
      have ge357 : n0 ≤ b302 := Nat.le_trans Z0 (Nat.le_trans (Nat.le_refl _) (Nat.le_of_eq g302.symm))
      obtain ⟨_, _, ⟨T352, L352, k352, n352⟩, -, X352, ⟨Lc352, hQ352, l352, y352, z352⟩, st352⟩ := X303.specialBack hx (y := (⟨"java/lang/String", "<init>", "([C)V"⟩ : MethodName)) rfl hown0 (mvT hZ0 (hw _ (List.mem_of_getElem? (i := 8) rfl))) (mvT hZ0 (hw _ (List.mem_of_getElem? (i := 9) rfl))) (mvT hZ0 (hw _ (List.mem_of_getElem? (i := 10) rfl))) (by decide) (StrChars.Road.backV (W := 1) hZ0 (own_hw_backV hw) (kI := 4) (hw _ (List.mem_of_getElem? (i := 1) rfl)) (cs := cs_303) (bs := (cs_303).map (fun c => c.toInt8.toInt32)) (n := 3) ge357 (Nat.le_trans Z0 (Nat.le_trans E302.1 K303.1)) c354 c355 c356 f303_1 (q0.ext c353.2) hCS hl3 rfl (by decide) (by decide) hp rfl (by decide) (by decide)) (g := (mkF m 21 #[.val (.int i0), .val (.int i1), .val (.int i2), .val (.int i3), .val (.int i4), .val (.int (3 : Int32)), .unset, .unset] [(.ref ca_303), (.ref b302), (.ref b302)])) rfl (by rw [hml]; rfl) (Steps.refl _) (a := b302) (argsL := [(.ref ca_303)]) (rest := [(.ref b302)]) (lenOf pd_11 rfl) rfl (by show 2 * 0 + _ ≤ _; exact Nat.le_of_eq rfl) (hb hby at_21) (fun _ _ => ⟨rfl, rfl, (by decide : 2 + 1 ≤ _), (by decide : 8 + 3 ≤ _)⟩)
      dsimp only [Pt.U, Pt.locs, Pt.cells, Pt.slots] at X352 l352 y352 z352 st352 hQ352
      subst l352 y352 z352
      obtain ⟨rfl, Nq352, K352, fE352, fC352, t352, kb352, gt352, sz352, nt352, fV352, fA352⟩ := hQ352
      have N352 := Fr.app N303 Nq352
      have hcd352 : StrChars.Road.CodA cs_303 0 (3 : Int32) (((cs_303).map (fun c => c.toInt8.toInt32)).map Value.int) := StrChars.Road.codOf (n := 3) hl3 (fun c hc => (hp c hc).2)
      have c358 : Old Z n0 T352.heap := (c353.keep K352 (allS ge357 all0))
      obtain ⟨_, _, ⟨T359, L359, k359, n359⟩, -, X359', hS359', hz359', ⟨Lc359, hQ359, l359, y359, z359⟩, st359⟩ := callSS X352 hx (y := (⟨"com/example/data_to_domain/datatodomain/Names", "fieldName", "(Ljava/lang/String;)Ljava/lang/String;"⟩ : MethodName)) hown0 (mvT hZ0 (hw _ (List.mem_of_getElem? (i := 34) rfl))) (mvT hZ0 (hw _ (List.mem_of_getElem? (i := 35) rfl))) (mvT hZ0 (hw _ (List.mem_of_getElem? (i := 36) rfl))) (mvT hZ0 (hw _ (List.mem_of_getElem? (i := 37) rfl))) (by decide) (backOfS (W := 0) (rm_fname l Z a0 hw [] b302 t352 kb352 (3 : Int32) (((cs_303).map (fun c => c.toInt8.toInt32)).map Value.int) cs_303 (0 : Int32) G T352.heap n0 (Nat.le_trans Z0 (Nat.le_trans (Nat.le_trans E302.1 K303.1) K352.1)) q0 hCS c358 fE352 fV352 fC352 fA352 (hcd352) (hW) (hle) (hne)) hZ0 (hw _ (List.mem_of_getElem? (i := 37) rfl)) (hw _ (List.mem_of_getElem? (i := 36) rfl)) (by decide) (by decide)) (g := (mkF m 28 #[.val (.int i0), .val (.int i1), .val (.int i2), .val (.int i3), .val (.int i4), .val (.int (3 : Int32)), .val (.ref b302), .unset] [(.ref b302)])) rfl (by rw [hml]; rfl) (argsL := [(.ref b302)]) (rest := []) (lenOf pd_12 rfl) rfl (by show 2 * 0 + _ ≤ _; exact Nat.le_of_eq rfl) (hb hby at_28) (fun _ _ => ⟨rfl, rfl, (by decide : 3 + 2 ≤ _), (by decide : 11 + 40 ≤ _)⟩)
      dsimp only [Pt.U, Pt.locs, Pt.cells, Pt.slots] at X359' l359 y359 z359 st359 hQ359 hS359' hz359'
      subst l359 y359 z359
      obtain ⟨rfl, Nq359, K359⟩ := hQ359
      have N359 := Fr.app N352 Nq359
      obtain ⟨X359, hS359, hZ359, hown359⟩ := rebS hS0 (Nat.le_trans hk0 (Nat.le_trans (Nat.le_trans E302.1 K303.1) K352.1)) X359' hS359' hz359' hZ0 hown0
      have c360 : Exa Z T359.heap b302 "java/lang/String" := (fE352.keep K359)
      have c362 : Old Z n0 T359.heap := (c358.keep K359 all0)
      have c363 : Fld Z T359.heap b302 "java/lang/String" "value" "[B" (.ref t352) := (fV352.keep K359 nin0)
      have c364 : Fld Z T359.heap b302 "java/lang/String" "coder" "B" (.int (0 : Int32)) := (fC352.keep K359 nin0)
      have c365 : Arv Z T359.heap t352 kb352 .byte (3 : Int32) (((cs_303).map (fun c => c.toInt8.toInt32)).map Value.int) (.int 0) := (fA352.keep K359 nin0)
      obtain ⟨cq361, kq361, q361a, q361b, q361c⟩ := isOf hZ359 rfl c360
      obtain ⟨_, _, ⟨T361, L361, k361, n361⟩, -, X361, ⟨Lc361, hQ361, l361, y361, z361⟩, st361⟩ := X359.virtualBack hx (y := (⟨"java/lang/String", "length", "()I"⟩ : MethodName)) (z := (⟨"java/lang/String", "length", "()I"⟩ : MethodName)) hown359 (mvT hZ359 (hw _ (List.mem_of_getElem? (i := 50) rfl))) (mvT hZ359 (hw _ (List.mem_of_getElem? (i := 51) rfl))) (notFace_of_selects (args := #[]) (mvT hZ359 (hw _ (List.mem_of_getElem? (i := 53) rfl)))) (mvT hZ359 (hw _ (List.mem_of_getElem? (i := 53) rfl))) (mvT hZ359 (hw _ (List.mem_of_getElem? (i := 52) rfl))) (by decide) (StrChars.Road.lenW (W := 0) hZ359 (own_hw_lenW hw) (kI := 4) (hw _ (List.mem_of_getElem? (i := 1) rfl)) c360 c363 c364 c365 hcd352 hW (q0.ext c362.2) hCS hle (by decide) (by decide)) q361a q361c (g := (mkF m 40 #[.val (.int i0), .val (.int i1), .val (.int i2), .val (.int i3), .val (.int i4), .val (.int (3 : Int32)), .val (.ref b302), .val (.ref b302)] [(.ref b302)])) rfl (by rw [hml]; rfl) (Steps.refl _) (argsL := []) (rest := []) (lenOf pd_13 rfl) rfl (by show 2 * 0 + _ ≤ _; exact Nat.le_of_eq rfl) (hb hby at_40) (fun _ _ => ⟨rfl, rfl, (by decide : 5 + 0 ≤ _), (by decide : 51 + 0 ≤ _)⟩)
      dsimp only [Pt.U, Pt.locs, Pt.cells, Pt.slots] at X361 l361 y361 z361 st361 hQ361
      subst l361 y361 z361
      obtain ⟨rfl, rfl, e361⟩ := hQ361
      have N361 := Fr.app N359 (Fr.nil n0)
      obtain ⟨cq366, kq366, q366a, q366b, q366c⟩ := isOf hZ359 e361 c360
      obtain ⟨_, _, ⟨T366, L366, k366, n366⟩, -, X366, ⟨Lc366, hQ366, l366, y366, z366⟩, st366⟩ := X361.virtualBack hx (y := (⟨"java/lang/String", "equals", "(Ljava/lang/Object;)Z"⟩ : MethodName)) (z := (⟨"java/lang/String", "equals", "(Ljava/lang/Object;)Z"⟩ : MethodName)) hown359 (mvT hZ359 (hw _ (List.mem_of_getElem? (i := 60) rfl))) (mvT hZ359 (hw _ (List.mem_of_getElem? (i := 61) rfl))) (notFace_of_selects (args := #[]) (mvT hZ359 (hw _ (List.mem_of_getElem? (i := 63) rfl)))) (mvT hZ359 (hw _ (List.mem_of_getElem? (i := 63) rfl))) (mvT hZ359 (hw _ (List.mem_of_getElem? (i := 62) rfl))) (by decide) (backOf (W := 0) (rm_eqS l Z a0 hw [] b302 T359.heap n0 (Nat.le_trans Z0 (Nat.le_trans (Nat.le_trans (Nat.le_trans E302.1 K303.1) K352.1) K359.1)) ) hZ359 (hw _ (List.mem_of_getElem? (i := 64) rfl)) (hw _ (List.mem_of_getElem? (i := 2) rfl)) (by decide) (by decide)) q366a q366c (g := (mkF m 52 #[.val (.int i0), .val (.int i1), .val (.int i2), .val (.int i3), .val (.int i4), .val (.int (3 : Int32)), .val (.ref b302), .val (.ref b302)] [(.ref b302), (.ref b302)])) rfl (by rw [hml]; rfl) (Steps.refl _) (argsL := [(.ref b302)]) (rest := []) (lenOf pd_14 rfl) rfl (by show 2 * 0 + _ ≤ _; exact Nat.le_of_eq rfl) (hb hby at_52) (fun _ _ => ⟨rfl, e361, (by decide : 5 + 0 ≤ _), (by decide : 51 + 0 ≤ _)⟩)
      dsimp only [Pt.U, Pt.locs, Pt.cells, Pt.slots] at X366 l366 y366 z366 st366 hQ366
      subst l366 y366 z366
      obtain ⟨rfl, Nq366, e366⟩ := hQ366
      have N366 := Fr.app N361 Nq366
      obtain ⟨fs, hr, hrun, hended, hEnd⟩ := X366.leaveW hS359 (by rw [e366]; exact (Nat.le_refl _)) (v := some (.int (1 : Int32))) (fun h => by rw [Bd.returns] at h; cases h)
      refine ⟨_, _, pre304 _ ?_, hrun, hended, _, _, rfl, ?_, hEnd.1, hEnd.2.1, hEnd.2.2.1, hEnd.2.2.2.mono (by decide) (by decide)⟩
      · refine st352.trans ?_
        show Steps p.tables e below (T352.setTop (mkF m 24 #[.val (.int i0), .val (.int i1), .val (.int i2), .val (.int i3), .val (.int i4), .val (.int (3 : Int32)), .unset, .unset] [(.ref b302)])) _
        refine XS.astore X352.here hx rfl (hb hby at_24) rfl rfl (l' := #[.val (.int i0), .val (.int i1), .val (.int i2), .val (.int i3), .val (.int i4), .val (.int (3 : Int32)), .val (.ref b302), .unset]) rfl ?_
        show Steps p.tables e below (T352.setTop (mkF m 26 #[.val (.int i0), .val (.int i1), .val (.int i2), .val (.int i3), .val (.int i4), .val (.int (3 : Int32)), .val (.ref b302), .unset] [])) _
        refine XS.aload X352.here hx rfl (hb hby at_26) rfl rfl ?_
        show Steps p.tables e below (T352.setTop (mkF m 28 #[.val (.int i0), .val (.int i1), .val (.int i2), .val (.int i3), .val (.int i4), .val (.int (3 : Int32)), .val (.ref b302), .unset] [(.ref b302)])) _
        refine st359.trans ?_
        show Steps p.tables e below (T359.setTop (mkF m 31 #[.val (.int i0), .val (.int i1), .val (.int i2), .val (.int i3), .val (.int i4), .val (.int (3 : Int32)), .val (.ref b302), .unset] [(.ref b302)])) _
        refine XS.astore X359.here hx rfl (hb hby at_31) rfl rfl (l' := #[.val (.int i0), .val (.int i1), .val (.int i2), .val (.int i3), .val (.int i4), .val (.int (3 : Int32)), .val (.ref b302), .val (.ref b302)]) rfl ?_
        show Steps p.tables e below (T359.setTop (mkF m 33 #[.val (.int i0), .val (.int i1), .val (.int i2), .val (.int i3), .val (.int i4), .val (.int (3 : Int32)), .val (.ref b302), .val (.ref b302)] [])) _
        refine XS.aload X359.here hx rfl (hb hby at_33) rfl rfl ?_
        show Steps p.tables e below (T359.setTop (mkF m 35 #[.val (.int i0), .val (.int i1), .val (.int i2), .val (.int i3), .val (.int i4), .val (.int (3 : Int32)), .val (.ref b302), .val (.ref b302)] [(.ref b302)])) _
        refine XS.ifnullNo X359.here hx rfl (hb hby at_35) rfl ?_
        show Steps p.tables e below (T359.setTop (mkF m 38 #[.val (.int i0), .val (.int i1), .val (.int i2), .val (.int i3), .val (.int i4), .val (.int (3 : Int32)), .val (.ref b302), .val (.ref b302)] [])) _
        refine XS.aload X359.here hx rfl (hb hby at_38) rfl rfl ?_
        show Steps p.tables e below (T359.setTop (mkF m 40 #[.val (.int i0), .val (.int i1), .val (.int i2), .val (.int i3), .val (.int i4), .val (.int (3 : Int32)), .val (.ref b302), .val (.ref b302)] [(.ref b302)])) _
        refine st361.trans ?_
        show Steps p.tables e below (T361.setTop (mkF m 43 #[.val (.int i0), .val (.int i1), .val (.int i2), .val (.int i3), .val (.int i4), .val (.int (3 : Int32)), .val (.ref b302), .val (.ref b302)] [(.int (Int32.ofNat (cs_303).length))])) _
        refine XS.iload X361.here hx rfl (hb hby at_43) rfl ?_
        show Steps p.tables e below (T361.setTop (mkF m 45 #[.val (.int i0), .val (.int i1), .val (.int i2), .val (.int i3), .val (.int i4), .val (.int (3 : Int32)), .val (.ref b302), .val (.ref b302)] [(.int (3 : Int32)), (.int (Int32.ofNat (cs_303).length))])) _
        refine XS.icmpNo X361.here hx rfl (hb hby at_45) rfl (teq (hl1.symm : (Int32.ofNat (cs_303).length) = (3 : Int32))).2 ?_
        show Steps p.tables e below (T361.setTop (mkF m 48 #[.val (.int i0), .val (.int i1), .val (.int i2), .val (.int i3), .val (.int i4), .val (.int (3 : Int32)), .val (.ref b302), .val (.ref b302)] [])) _
        refine XS.aload X361.here hx rfl (hb hby at_48) rfl rfl ?_
        show Steps p.tables e below (T361.setTop (mkF m 50 #[.val (.int i0), .val (.int i1), .val (.int i2), .val (.int i3), .val (.int i4), .val (.int (3 : Int32)), .val (.ref b302), .val (.ref b302)] [(.ref b302)])) _
        refine XS.aload X361.here hx rfl (hb hby at_50) rfl rfl ?_
        show Steps p.tables e below (T361.setTop (mkF m 52 #[.val (.int i0), .val (.int i1), .val (.int i2), .val (.int i3), .val (.int i4), .val (.int (3 : Int32)), .val (.ref b302), .val (.ref b302)] [(.ref b302), (.ref b302)])) _
        refine st366.trans ?_
        show Steps p.tables e below (T366.setTop (mkF m 55 #[.val (.int i0), .val (.int i1), .val (.int i2), .val (.int i3), .val (.int i4), .val (.int (3 : Int32)), .val (.ref b302), .val (.ref b302)] [(.int (1 : Int32))])) _
        refine XS.ifNo X366.here hx rfl (hb hby at_55) rfl ((if0 _ _).trans (feq ((by decide) : ¬ ((1 : Int32) = (0 : Int32)))).1) ?_
        show Steps p.tables e below (T366.setTop (mkF m 58 #[.val (.int i0), .val (.int i1), .val (.int i2), .val (.int i3), .val (.int i4), .val (.int (3 : Int32)), .val (.ref b302), .val (.ref b302)] [])) _
        refine XS.iconst X366.here hx rfl (hb hby at_58) ?_
        show Steps p.tables e below (T366.setTop (mkF m 59 #[.val (.int i0), .val (.int i1), .val (.int i2), .val (.int i3), .val (.int i4), .val (.int (3 : Int32)), .val (.ref b302), .val (.ref b302)] [(.int (1 : Int32))])) _
        refine XS.goto X366.here hx rfl (pc0 := 59) (pc' := 63) rfl (hb hby at_59) (by decide) (by decide) ?_
        show Steps p.tables e below (T366.setTop (mkF m 63 #[.val (.int i0), .val (.int i1), .val (.int i2), .val (.int i3), .val (.int i4), .val (.int (3 : Int32)), .val (.ref b302), .val (.ref b302)] [(.int (1 : Int32))])) _
        exact retN X366 hx (t := .boolean) Bd.returns (by simp) (hb hby at_63) hr
      · show Q_law Z i0 i1 i2 i3 i4 G h0 n0 _ T366.heap _
        rw [e366]
        exact ⟨rfl, N366⟩
    · subst hn
      have hl3 : cs_303.length = 4 := hl2
      have c368 : Old Z n0 T303.heap := ((q5.ext E302).keep K303 all0)
      have c369 : Exa Z T303.heap b302 "java/lang/String" := (A302.keep K303)
      have c370 : Fld Z T303.heap b302 "java/lang/String" "value" "[B" .null := (D302_value.keep K303 nin0)
      have c371 : Fld Z T303.heap b302 "java/lang/String" "coder" "B" (.int (0 : Int32)) := (D302_coder.keep K303 nin0)
      have ge372 : n0 ≤ b302 := Nat.le_trans Z0 (Nat.le_trans (Nat.le_refl _) (Nat.le_of_eq g302.symm))
      obtain ⟨_, _, ⟨T367, L367, k367, n367⟩, -, X367, ⟨Lc367, hQ367, l367, y367, z367⟩, st367⟩ := X303.specialBack hx (y := (⟨"java/lang/String", "<init>", "([C)V"⟩ : MethodName)) rfl hown0 (mvT hZ0 (hw _ (List.mem_of_getElem? (i := 8) rfl))) (mvT hZ0 (hw _ (List.mem_of_getElem? (i := 9) rfl))) (mvT hZ0 (hw _ (List.mem_of_getElem? (i := 10) rfl))) (by decide) (StrChars.Road.backV (W := 1) hZ0 (own_hw_backV hw) (kI := 4) (hw _ (List.mem_of_getElem? (i := 1) rfl)) (cs := cs_303) (bs := (cs_303).map (fun c => c.toInt8.toInt32)) (n := 4) ge372 (Nat.le_trans Z0 (Nat.le_trans E302.1 K303.1)) c369 c370 c371 f303_1 (q0.ext c368.2) hCS hl3 rfl (by decide) (by decide) hp rfl (by decide) (by decide)) (g := (mkF m 21 #[.val (.int i0), .val (.int i1), .val (.int i2), .val (.int i3), .val (.int i4), .val (.int (4 : Int32)), .unset, .unset] [(.ref ca_303), (.ref b302), (.ref b302)])) rfl (by rw [hml]; rfl) (Steps.refl _) (a := b302) (argsL := [(.ref ca_303)]) (rest := [(.ref b302)]) (lenOf pd_11 rfl) rfl (by show 2 * 0 + _ ≤ _; exact Nat.le_of_eq rfl) (hb hby at_21) (fun _ _ => ⟨rfl, rfl, (by decide : 2 + 1 ≤ _), (by decide : 8 + 4 ≤ _)⟩)
      dsimp only [Pt.U, Pt.locs, Pt.cells, Pt.slots] at X367 l367 y367 z367 st367 hQ367
      subst l367 y367 z367
      obtain ⟨rfl, Nq367, K367, fE367, fC367, t367, kb367, gt367, sz367, nt367, fV367, fA367⟩ := hQ367
      have N367 := Fr.app N303 Nq367
      have hcd367 : StrChars.Road.CodA cs_303 0 (4 : Int32) (((cs_303).map (fun c => c.toInt8.toInt32)).map Value.int) := StrChars.Road.codOf (n := 4) hl3 (fun c hc => (hp c hc).2)
      have c373 : Old Z n0 T367.heap := (c368.keep K367 (allS ge372 all0))
      obtain ⟨_, _, ⟨T374, L374, k374, n374⟩, -, X374', hS374', hz374', ⟨Lc374, hQ374, l374, y374, z374⟩, st374⟩ := callSS X367 hx (y := (⟨"com/example/data_to_domain/datatodomain/Names", "fieldName", "(Ljava/lang/String;)Ljava/lang/String;"⟩ : MethodName)) hown0 (mvT hZ0 (hw _ (List.mem_of_getElem? (i := 34) rfl))) (mvT hZ0 (hw _ (List.mem_of_getElem? (i := 35) rfl))) (mvT hZ0 (hw _ (List.mem_of_getElem? (i := 36) rfl))) (mvT hZ0 (hw _ (List.mem_of_getElem? (i := 37) rfl))) (by decide) (backOfS (W := 0) (rm_fname l Z a0 hw [] b302 t367 kb367 (4 : Int32) (((cs_303).map (fun c => c.toInt8.toInt32)).map Value.int) cs_303 (0 : Int32) G T367.heap n0 (Nat.le_trans Z0 (Nat.le_trans (Nat.le_trans E302.1 K303.1) K367.1)) q0 hCS c373 fE367 fV367 fC367 fA367 (hcd367) (hW) (hle) (hne)) hZ0 (hw _ (List.mem_of_getElem? (i := 37) rfl)) (hw _ (List.mem_of_getElem? (i := 36) rfl)) (by decide) (by decide)) (g := (mkF m 28 #[.val (.int i0), .val (.int i1), .val (.int i2), .val (.int i3), .val (.int i4), .val (.int (4 : Int32)), .val (.ref b302), .unset] [(.ref b302)])) rfl (by rw [hml]; rfl) (argsL := [(.ref b302)]) (rest := []) (lenOf pd_12 rfl) rfl (by show 2 * 0 + _ ≤ _; exact Nat.le_of_eq rfl) (hb hby at_28) (fun _ _ => ⟨rfl, rfl, (by decide : 3 + 2 ≤ _), (by decide : 12 + 40 ≤ _)⟩)
      dsimp only [Pt.U, Pt.locs, Pt.cells, Pt.slots] at X374' l374 y374 z374 st374 hQ374 hS374' hz374'
      subst l374 y374 z374
      obtain ⟨rfl, Nq374, K374⟩ := hQ374
      have N374 := Fr.app N367 Nq374
      obtain ⟨X374, hS374, hZ374, hown374⟩ := rebS hS0 (Nat.le_trans hk0 (Nat.le_trans (Nat.le_trans E302.1 K303.1) K367.1)) X374' hS374' hz374' hZ0 hown0
      have c375 : Exa Z T374.heap b302 "java/lang/String" := (fE367.keep K374)
      have c377 : Old Z n0 T374.heap := (c373.keep K374 all0)
      have c378 : Fld Z T374.heap b302 "java/lang/String" "value" "[B" (.ref t367) := (fV367.keep K374 nin0)
      have c379 : Fld Z T374.heap b302 "java/lang/String" "coder" "B" (.int (0 : Int32)) := (fC367.keep K374 nin0)
      have c380 : Arv Z T374.heap t367 kb367 .byte (4 : Int32) (((cs_303).map (fun c => c.toInt8.toInt32)).map Value.int) (.int 0) := (fA367.keep K374 nin0)
      obtain ⟨cq376, kq376, q376a, q376b, q376c⟩ := isOf hZ374 rfl c375
      obtain ⟨_, _, ⟨T376, L376, k376, n376⟩, -, X376, ⟨Lc376, hQ376, l376, y376, z376⟩, st376⟩ := X374.virtualBack hx (y := (⟨"java/lang/String", "length", "()I"⟩ : MethodName)) (z := (⟨"java/lang/String", "length", "()I"⟩ : MethodName)) hown374 (mvT hZ374 (hw _ (List.mem_of_getElem? (i := 50) rfl))) (mvT hZ374 (hw _ (List.mem_of_getElem? (i := 51) rfl))) (notFace_of_selects (args := #[]) (mvT hZ374 (hw _ (List.mem_of_getElem? (i := 53) rfl)))) (mvT hZ374 (hw _ (List.mem_of_getElem? (i := 53) rfl))) (mvT hZ374 (hw _ (List.mem_of_getElem? (i := 52) rfl))) (by decide) (StrChars.Road.lenW (W := 0) hZ374 (own_hw_lenW hw) (kI := 4) (hw _ (List.mem_of_getElem? (i := 1) rfl)) c375 c378 c379 c380 hcd367 hW (q0.ext c377.2) hCS hle (by decide) (by decide)) q376a q376c (g := (mkF m 40 #[.val (.int i0), .val (.int i1), .val (.int i2), .val (.int i3), .val (.int i4), .val (.int (4 : Int32)), .val (.ref b302), .val (.ref b302)] [(.ref b302)])) rfl (by rw [hml]; rfl) (Steps.refl _) (argsL := []) (rest := []) (lenOf pd_13 rfl) rfl (by show 2 * 0 + _ ≤ _; exact Nat.le_of_eq rfl) (hb hby at_40) (fun _ _ => ⟨rfl, rfl, (by decide : 5 + 0 ≤ _), (by decide : 52 + 0 ≤ _)⟩)
      dsimp only [Pt.U, Pt.locs, Pt.cells, Pt.slots] at X376 l376 y376 z376 st376 hQ376
      subst l376 y376 z376
      obtain ⟨rfl, rfl, e376⟩ := hQ376
      have N376 := Fr.app N374 (Fr.nil n0)
      obtain ⟨cq381, kq381, q381a, q381b, q381c⟩ := isOf hZ374 e376 c375
      obtain ⟨_, _, ⟨T381, L381, k381, n381⟩, -, X381, ⟨Lc381, hQ381, l381, y381, z381⟩, st381⟩ := X376.virtualBack hx (y := (⟨"java/lang/String", "equals", "(Ljava/lang/Object;)Z"⟩ : MethodName)) (z := (⟨"java/lang/String", "equals", "(Ljava/lang/Object;)Z"⟩ : MethodName)) hown374 (mvT hZ374 (hw _ (List.mem_of_getElem? (i := 60) rfl))) (mvT hZ374 (hw _ (List.mem_of_getElem? (i := 61) rfl))) (notFace_of_selects (args := #[]) (mvT hZ374 (hw _ (List.mem_of_getElem? (i := 63) rfl)))) (mvT hZ374 (hw _ (List.mem_of_getElem? (i := 63) rfl))) (mvT hZ374 (hw _ (List.mem_of_getElem? (i := 62) rfl))) (by decide) (backOf (W := 0) (rm_eqS l Z a0 hw [] b302 T374.heap n0 (Nat.le_trans Z0 (Nat.le_trans (Nat.le_trans (Nat.le_trans E302.1 K303.1) K367.1) K374.1)) ) hZ374 (hw _ (List.mem_of_getElem? (i := 64) rfl)) (hw _ (List.mem_of_getElem? (i := 2) rfl)) (by decide) (by decide)) q381a q381c (g := (mkF m 52 #[.val (.int i0), .val (.int i1), .val (.int i2), .val (.int i3), .val (.int i4), .val (.int (4 : Int32)), .val (.ref b302), .val (.ref b302)] [(.ref b302), (.ref b302)])) rfl (by rw [hml]; rfl) (Steps.refl _) (argsL := [(.ref b302)]) (rest := []) (lenOf pd_14 rfl) rfl (by show 2 * 0 + _ ≤ _; exact Nat.le_of_eq rfl) (hb hby at_52) (fun _ _ => ⟨rfl, e376, (by decide : 5 + 0 ≤ _), (by decide : 52 + 0 ≤ _)⟩)
      dsimp only [Pt.U, Pt.locs, Pt.cells, Pt.slots] at X381 l381 y381 z381 st381 hQ381
      subst l381 y381 z381
      obtain ⟨rfl, Nq381, e381⟩ := hQ381
      have N381 := Fr.app N376 Nq381
      obtain ⟨fs, hr, hrun, hended, hEnd⟩ := X381.leaveW hS374 (by rw [e381]; exact (Nat.le_refl _)) (v := some (.int (1 : Int32))) (fun h => by rw [Bd.returns] at h; cases h)
      refine ⟨_, _, pre304 _ ?_, hrun, hended, _, _, rfl, ?_, hEnd.1, hEnd.2.1, hEnd.2.2.1, hEnd.2.2.2.mono (by decide) (by decide)⟩
      · refine st367.trans ?_
        show Steps p.tables e below (T367.setTop (mkF m 24 #[.val (.int i0), .val (.int i1), .val (.int i2), .val (.int i3), .val (.int i4), .val (.int (4 : Int32)), .unset, .unset] [(.ref b302)])) _
        refine XS.astore X367.here hx rfl (hb hby at_24) rfl rfl (l' := #[.val (.int i0), .val (.int i1), .val (.int i2), .val (.int i3), .val (.int i4), .val (.int (4 : Int32)), .val (.ref b302), .unset]) rfl ?_
        show Steps p.tables e below (T367.setTop (mkF m 26 #[.val (.int i0), .val (.int i1), .val (.int i2), .val (.int i3), .val (.int i4), .val (.int (4 : Int32)), .val (.ref b302), .unset] [])) _
        refine XS.aload X367.here hx rfl (hb hby at_26) rfl rfl ?_
        show Steps p.tables e below (T367.setTop (mkF m 28 #[.val (.int i0), .val (.int i1), .val (.int i2), .val (.int i3), .val (.int i4), .val (.int (4 : Int32)), .val (.ref b302), .unset] [(.ref b302)])) _
        refine st374.trans ?_
        show Steps p.tables e below (T374.setTop (mkF m 31 #[.val (.int i0), .val (.int i1), .val (.int i2), .val (.int i3), .val (.int i4), .val (.int (4 : Int32)), .val (.ref b302), .unset] [(.ref b302)])) _
        refine XS.astore X374.here hx rfl (hb hby at_31) rfl rfl (l' := #[.val (.int i0), .val (.int i1), .val (.int i2), .val (.int i3), .val (.int i4), .val (.int (4 : Int32)), .val (.ref b302), .val (.ref b302)]) rfl ?_
        show Steps p.tables e below (T374.setTop (mkF m 33 #[.val (.int i0), .val (.int i1), .val (.int i2), .val (.int i3), .val (.int i4), .val (.int (4 : Int32)), .val (.ref b302), .val (.ref b302)] [])) _
        refine XS.aload X374.here hx rfl (hb hby at_33) rfl rfl ?_
        show Steps p.tables e below (T374.setTop (mkF m 35 #[.val (.int i0), .val (.int i1), .val (.int i2), .val (.int i3), .val (.int i4), .val (.int (4 : Int32)), .val (.ref b302), .val (.ref b302)] [(.ref b302)])) _
        refine XS.ifnullNo X374.here hx rfl (hb hby at_35) rfl ?_
        show Steps p.tables e below (T374.setTop (mkF m 38 #[.val (.int i0), .val (.int i1), .val (.int i2), .val (.int i3), .val (.int i4), .val (.int (4 : Int32)), .val (.ref b302), .val (.ref b302)] [])) _
        refine XS.aload X374.here hx rfl (hb hby at_38) rfl rfl ?_
        show Steps p.tables e below (T374.setTop (mkF m 40 #[.val (.int i0), .val (.int i1), .val (.int i2), .val (.int i3), .val (.int i4), .val (.int (4 : Int32)), .val (.ref b302), .val (.ref b302)] [(.ref b302)])) _
        refine st376.trans ?_
        show Steps p.tables e below (T376.setTop (mkF m 43 #[.val (.int i0), .val (.int i1), .val (.int i2), .val (.int i3), .val (.int i4), .val (.int (4 : Int32)), .val (.ref b302), .val (.ref b302)] [(.int (Int32.ofNat (cs_303).length))])) _
        refine XS.iload X376.here hx rfl (hb hby at_43) rfl ?_
        show Steps p.tables e below (T376.setTop (mkF m 45 #[.val (.int i0), .val (.int i1), .val (.int i2), .val (.int i3), .val (.int i4), .val (.int (4 : Int32)), .val (.ref b302), .val (.ref b302)] [(.int (4 : Int32)), (.int (Int32.ofNat (cs_303).length))])) _
        refine XS.icmpNo X376.here hx rfl (hb hby at_45) rfl (teq (hl1.symm : (Int32.ofNat (cs_303).length) = (4 : Int32))).2 ?_
        show Steps p.tables e below (T376.setTop (mkF m 48 #[.val (.int i0), .val (.int i1), .val (.int i2), .val (.int i3), .val (.int i4), .val (.int (4 : Int32)), .val (.ref b302), .val (.ref b302)] [])) _
        refine XS.aload X376.here hx rfl (hb hby at_48) rfl rfl ?_
        show Steps p.tables e below (T376.setTop (mkF m 50 #[.val (.int i0), .val (.int i1), .val (.int i2), .val (.int i3), .val (.int i4), .val (.int (4 : Int32)), .val (.ref b302), .val (.ref b302)] [(.ref b302)])) _
        refine XS.aload X376.here hx rfl (hb hby at_50) rfl rfl ?_
        show Steps p.tables e below (T376.setTop (mkF m 52 #[.val (.int i0), .val (.int i1), .val (.int i2), .val (.int i3), .val (.int i4), .val (.int (4 : Int32)), .val (.ref b302), .val (.ref b302)] [(.ref b302), (.ref b302)])) _
        refine st381.trans ?_
        show Steps p.tables e below (T381.setTop (mkF m 55 #[.val (.int i0), .val (.int i1), .val (.int i2), .val (.int i3), .val (.int i4), .val (.int (4 : Int32)), .val (.ref b302), .val (.ref b302)] [(.int (1 : Int32))])) _
        refine XS.ifNo X381.here hx rfl (hb hby at_55) rfl ((if0 _ _).trans (feq ((by decide) : ¬ ((1 : Int32) = (0 : Int32)))).1) ?_
        show Steps p.tables e below (T381.setTop (mkF m 58 #[.val (.int i0), .val (.int i1), .val (.int i2), .val (.int i3), .val (.int i4), .val (.int (4 : Int32)), .val (.ref b302), .val (.ref b302)] [])) _
        refine XS.iconst X381.here hx rfl (hb hby at_58) ?_
        show Steps p.tables e below (T381.setTop (mkF m 59 #[.val (.int i0), .val (.int i1), .val (.int i2), .val (.int i3), .val (.int i4), .val (.int (4 : Int32)), .val (.ref b302), .val (.ref b302)] [(.int (1 : Int32))])) _
        refine XS.goto X381.here hx rfl (pc0 := 59) (pc' := 63) rfl (hb hby at_59) (by decide) (by decide) ?_
        show Steps p.tables e below (T381.setTop (mkF m 63 #[.val (.int i0), .val (.int i1), .val (.int i2), .val (.int i3), .val (.int i4), .val (.int (4 : Int32)), .val (.ref b302), .val (.ref b302)] [(.int (1 : Int32))])) _
        exact retN X381 hx (t := .boolean) Bd.returns (by simp) (hb hby at_63) hr
      · show Q_law Z i0 i1 i2 i3 i4 G h0 n0 _ T381.heap _
        rw [e381]
        exact ⟨rfl, N381⟩
set_option maxRecDepth 65536 in
set_option maxHeartbeats 40000000 in
theorem comes_1 {Post : Tables → Env → Array Value → State → Outcome → State → Prop} (hpost : ∀ tb e args s v u, (limb_1_1.after args s (.returned v) u = true ∧ limb_1_2.after args s (.returned v) u = true ∧ True) → ReturnedEndW s (.returned v) u (Jvm.fieldLocs frame_1_writes args s ++ Jvm.arrayLocs frame_1_arrays args s ++ Jvm.staticLocs frame_1_statics s) 24 1152 → Post tb e args s (.returned v) u) :
    ArmFor flags0 classFile x code maxLocals ret World_1 tables_1 room_1 Calls_1 rest_1 Pre_1 Post := by
  intro l hfl _ _ p e ha hc hk s m args below hf hA hF happ hP
  obtain ⟨hcalls, hrest, hpre⟩ := hP
  obtain ⟨-, -, -, hnamed, -, -, -, hat⟩ := (Spec.applies_iff hf).mp happ
  obtain ⟨hg, hn⟩ := and_e (Cond.before_iff.mp (show (Jvm.Cond.and given_1 narrow_1).before args s = true from hpre))
  obtain ⟨hcount, hg0⟩ := and_e hg
  obtain ⟨ha0, hg1⟩ := and_e hg0
  obtain ⟨ha1, hg2⟩ := and_e hg1
  obtain ⟨ha2, hg3⟩ := and_e hg2
  obtain ⟨ha3, hg4⟩ := and_e hg3
  obtain ⟨w0, w1, w2, w3, w4, rfl⟩ : ∃ w0 w1 w2 w3 w4 : Value, args = #[w0, w1, w2, w3, w4] := by
    have hs : args.size = 5 := by simpa [Cond.value, given_1] using hcount
    obtain ⟨L⟩ := args
    match L, hs with
    | [w0, w1, w2, w3, w4], _ => exact ⟨w0, w1, w2, w3, w4, rfl⟩
  have hw := fun d (hd : d ∈ tables_1) => atoms_spec (ws := Jvm.Cond.code x code maxLocals ret :: tables_1) hat d (List.mem_cons_of_mem _ hd)
  obtain ⟨hsets, hown0⟩ := atoms_of _ (rest_1_c_eq ▸ (show rest_1_c.before _ s = true from hrest))
  have hfit : Fit s := fun {y c} hc i hi => by
    obtain ⟨ha, rfl⟩ := Array.getElem?_eq_some_iff.mp hc
    have q := List.all_eq_true.mp ((Array.all_eq_true_iff_forall_mem.mp hF) _ (Array.getElem_mem ha)) i (List.mem_range.mpr hi)
    simpa [Array.getElem?_eq_getElem hi] using q
  obtain ⟨i0, ei0⟩ := is_v ha0
  obtain rfl : w0 = (.int i0) := Option.some.inj ei0
  obtain ⟨i1, ei1⟩ := is_v ha1
  obtain rfl : w1 = (.int i1) := Option.some.inj ei1
  obtain ⟨i2, ei2⟩ := is_v ha2
  obtain rfl : w2 = (.int i2) := Option.some.inj ei2
  obtain ⟨i3, ei3⟩ := is_v ha3
  obtain rfl : w3 = (.int i3) := Option.some.inj ei3
  obtain ⟨i4, ei4⟩ := is_v hg4
  obtain rfl : w4 = (.int i4) := Option.some.inj ei4
  have nz0 := not_v (Cond.before_iff.mp (hsets _ (List.mem_of_getElem? (i := 2) rfl)))
  obtain ⟨G, eG⟩ := is_v (Cond.before_iff.mp (hsets _ (List.mem_of_getElem? (i := 1) rfl)))
  have SG : Sta s s.heap "java/lang/String" "COMPACT_STRINGS" "Z" (.int G) := Sta.start eG (Or.inl (hsets _ (List.mem_of_getElem? (i := 0) rfl)))
  have nz : ¬ (G = (0 : Int32)) := gotF (Cond.eq_ints eG (Term.int_eval (0))) nz0
  have SUA : Sta s s.heap "java/lang/StringUTF16" "$assertionsDisabled" "Z" (.int (1 : Int32)) := Sta.start (eqv_i (Term.int_eval (1)) (Cond.before_iff.mp (hsets _ (List.mem_of_getElem? (i := 12) rfl)))) (Or.inl (hsets _ (List.mem_of_getElem? (i := 11) rfl)))
  have SUH : Sta s s.heap "java/lang/StringUTF16" "HI_BYTE_SHIFT" "I" (.int (0 : Int32)) := Sta.start (eqv_i (Term.int_eval (0)) (Cond.before_iff.mp (hsets _ (List.mem_of_getElem? (i := 15) rfl)))) (Or.inl (hsets _ (List.mem_of_getElem? (i := 14) rfl)))
  have SUL : Sta s s.heap "java/lang/StringUTF16" "LO_BYTE_SHIFT" "I" (.int (8 : Int32)) := Sta.start (eqv_i (Term.int_eval (8)) (Cond.before_iff.mp (hsets _ (List.mem_of_getElem? (i := 18) rfl)))) (Or.inl (hsets _ (List.mem_of_getElem? (i := 17) rfl)))
  obtain ⟨n, o, h1, h2, h3, _, L, rfl, ⟨rfl, N⟩, hq⟩ := rm_law l s _ hw tables_1 i0 i1 i2 i3 i4 G s.heap s.heap.size (Nat.le_refl _) SG nz SUA SUH SUL (Old.start s) p e ha hc hk s m _ below hf ((Spec.applies_iff_loose hf).mp happ).1 ⟨rfl, State.Warmed39.refl s, rfl⟩ trivial
  refine ⟨n, _, h1, h2, h3, hpost _ _ _ _ _ _ ⟨Cond.after_iff.mpr rfl, Cond.after_iff.mpr (eq_i res_at (Term.int_eval (1)) rfl), trivial⟩ ⟨hq.1, hq.2.1, hq.2.2.1, (hq.2.2.2.sift fun y hy => Or.inr (N y hy)).mono (by decide) (by decide)⟩⟩
theorem main_1_1 : Claimed_1_1 := comes_1 fun _ _ _ _ _ _ h hF => ⟨h.1, hF⟩
theorem main_1_2 : Claimed_1_2 := comes_1 fun _ _ _ _ _ _ h hF => ⟨h.2.1, hF⟩
end Jvm.Pilot.@@N@@
namespace Jvm.Pilot.@@N@@
open Jvm Jvm.ClassFile Sem Op Lib Jvm.Free Jvm.Stand Jvm.Pilot.@@N@@.Jvm.D
/-! MADE BY PROGRAM (witnessworld.py) out of the Statement's table words and the real class files: 21 classes; the members and pool entries that the words name. The judged class is class 1, her method 2. -/
namespace start1
open Jvm.ClassFile
def u (s : String) : CpInfo := .utf8 (stringToUtf16 s)
/-- a pool by its gaps: so many unusable entries, then the entry; so many at the end -/
def gap : Nat → List CpInfo → List CpInfo
  | 0, r => r
  | n + 1, r => .unusable :: gap n r
def poolList (es : List (Nat × CpInfo)) (last : Nat) : List CpInfo := es.foldr (fun e r => gap e.1 (e.2 :: r)) (gap last [])
def pool (es : List (Nat × CpInfo)) (last : Nat) : Array CpInfo := ⟨poolList es last⟩
def fileOf (pool : Array CpInfo) (this : Nat) (attrs : Array Attribute := #[]) (ms : Array MethodInfo := #[]) (fl : Nat := 33) (sup : Nat := 0) (ifs : Array Nat := #[]) (fds : Array FieldInfo := #[]) : ClassFile where
  minorVersion := 0
  majorVersion := 65
  constantPool := pool
  accessFlags := fl
  thisClass := this
  superClass := sup
  interfaces := ifs
  fields := fds
  methods := ms
  attributes := attrs
def plain (name : String) (sup : Option ClassId) : Class where
  name := name
  kind := .ordinary
  loader := none
  accessFlags := 33
  super := sup
  interfaces := #[]
  cf := none
  fields := #[]
  methods := #[]
  instanceTypes := #[]
  staticTypes := #[]
  resolved := #[]
  callSites := []
  init := .initialized
  statics := none
  mirror := none

def pool0 : Array CpInfo := pool [(5, u "<init>"), (0, u "()V"), (1, .class_ 10), (1, u "java/lang/Object")] 113

def k0c0 : Code := { maxStack := 0, maxLocals := 1, code := object_method_1_code, exceptionTable := #[], attributes := #[] }
def k0m0 : Method := { name := "<init>", desc := "()V", sig := { parameters := [], returnType := none }, accessFlags := 1, code := some k0c0 }
/-- java/lang/Object -/
def k0 : Class := { plain "java/lang/Object" none with
  accessFlags := 33
  interfaces := #[]
  cf := some (fileOf pool0 8 #[] #[{ accessFlags := 1, nameIndex := 5, descriptorIndex := 6, attributes := #[] }] 33 0 #[] #[])
  fields := #[]
  methods := #[k0m0]
  instanceTypes := #[]
  staticTypes := #[]
  resolved := Array.replicate 124 none
  statics := none }

def pool1 : Array CpInfo := pool [(2, .class_ 4), (1, u "java/lang/Object"), (0, u "<init>"), (0, u "()V"), (0, .class_ 8), (0, u "java/lang/String"), (0, .methodref 10 11), (0, .class_ 12), (0, .nameAndType 13 14), (0, u "com/example/data_to_domain/datatodomain/NamesFieldNamePinLaw"), (0, u "draw"), (0, u "(IIIII)[C"), (0, .methodref 7 16), (0, .nameAndType 5 17), (0, u "([C)V"), (0, .methodref 19 20), (0, .class_ 21), (0, .nameAndType 22 23), (0, u "com/example/data_to_domain/datatodomain/Names"), (0, u "fieldName"), (0, u "(Ljava/lang/String;)Ljava/lang/String;"), (0, .methodref 7 25), (0, .nameAndType 26 27), (0, u "length"), (0, u "()I"), (0, .methodref 7 29), (0, .nameAndType 30 31), (0, u "equals"), (0, u "(Ljava/lang/Object;)Z"), (3, u "law"), (0, u "(IIIII)Z")] 2

def k1m0 : Method := { name := "<init>", desc := "()V", sig := { parameters := [], returnType := none }, accessFlags := 2, code := none }
def k1c1 : Code := { maxStack := 4, maxLocals := 9, code := method_2_code, exceptionTable := #[], attributes := #[] }
def k1m1 : Method := { name := "draw", desc := "(IIIII)[C", sig := { parameters := [.int, .int, .int, .int, .int], returnType := some (.array .char) }, accessFlags := 10, code := some k1c1 }
def k1c2 : Code := { maxStack := 7, maxLocals := 8, code := code, exceptionTable := #[], attributes := #[] }
def k1m2 : Method := { name := "law", desc := "(IIIII)Z", sig := { parameters := [.int, .int, .int, .int, .int], returnType := some .boolean }, accessFlags := 9, code := some k1c2 }
/-- com/example/data_to_domain/datatodomain/NamesFieldNamePinLaw -/
def k1 : Class := { plain "com/example/data_to_domain/datatodomain/NamesFieldNamePinLaw" (some 0) with
  accessFlags := 49
  interfaces := #[]
  cf := some (fileOf pool1 10 #[] #[{ accessFlags := 2, nameIndex := 5, descriptorIndex := 6, attributes := #[] }, { accessFlags := 10, nameIndex := 13, descriptorIndex := 14, attributes := #[] }, { accessFlags := 9, nameIndex := 35, descriptorIndex := 36, attributes := #[] }] 49 2 #[] #[])
  fields := #[]
  methods := #[k1m0, k1m1, k1m2]
  instanceTypes := #[]
  staticTypes := #[]
  resolved := Array.replicate 39 none
  statics := none }

def pool2 : Array CpInfo := pool [(1, .class_ 2), (0, u "java/io/Serializable"), (0, .class_ 4), (0, u "java/lang/Object")] 2

/-- java/io/Serializable -/
def k2 : Class := { plain "java/io/Serializable" (some 0) with
  accessFlags := 1537
  interfaces := #[]
  cf := some (fileOf pool2 1 #[] #[] 1537 3 #[] #[])
  fields := #[]
  methods := #[]
  instanceTypes := #[]
  staticTypes := #[]
  resolved := Array.replicate 7 none
  statics := none }

def pool3 : Array CpInfo := pool [(1, .class_ 2), (0, u "java/lang/Comparable"), (0, .class_ 4), (0, u "java/lang/Object")] 7

/-- java/lang/Comparable -/
def k3 : Class := { plain "java/lang/Comparable" (some 0) with
  accessFlags := 1537
  interfaces := #[]
  cf := some (fileOf pool3 1 #[] #[] 1537 3 #[] #[])
  fields := #[]
  methods := #[]
  instanceTypes := #[]
  staticTypes := #[]
  resolved := Array.replicate 12 none
  statics := none }

def pool4 : Array CpInfo := pool [(2, .class_ 4), (1, u "java/lang/CharSequence"), (42, .class_ 48), (0, u "java/lang/CharSequence$1CodePointIterator"), (10, .class_ 60), (0, u "java/lang/CharSequence$1CharIterator"), (5, .class_ 67), (0, u "java/lang/Object")] 63

/-- java/lang/CharSequence -/
def k4 : Class := { plain "java/lang/CharSequence" (some 0) with
  accessFlags := 1537
  interfaces := #[]
  cf := some (fileOf pool4 2 #[.nestMembers #[47, 59]] #[] 1537 66 #[] #[])
  fields := #[]
  methods := #[]
  instanceTypes := #[]
  staticTypes := #[]
  resolved := Array.replicate 131 none
  statics := none }

def pool5 : Array CpInfo := pool [(1, .class_ 2), (0, u "java/lang/constant/Constable"), (0, .class_ 4), (0, u "java/lang/Object")] 6

/-- java/lang/constant/Constable -/
def k5 : Class := { plain "java/lang/constant/Constable" (some 0) with
  accessFlags := 1537
  interfaces := #[]
  cf := some (fileOf pool5 1 #[] #[] 1537 3 #[] #[])
  fields := #[]
  methods := #[]
  instanceTypes := #[]
  staticTypes := #[]
  resolved := Array.replicate 11 none
  statics := none }

def pool6 : Array CpInfo := pool [(1, .class_ 2), (0, u "java/lang/constant/ConstantDesc"), (0, .class_ 4), (0, u "java/lang/Object")] 32

/-- java/lang/constant/ConstantDesc -/
def k6 : Class := { plain "java/lang/constant/ConstantDesc" (some 0) with
  accessFlags := 1537
  interfaces := #[]
  cf := some (fileOf pool6 1 #[] #[] 1537 3 #[] #[])
  fields := #[]
  methods := #[]
  instanceTypes := #[]
  staticTypes := #[]
  resolved := Array.replicate 37 none
  statics := none }

def pool7 : Array CpInfo := pool [(1, .methodref 2 3), (0, .class_ 4), (0, .nameAndType 5 6), (0, u "java/lang/Object"), (0, u "<init>"), (0, u "()V"), (2, .fieldref 10 11), (0, .class_ 12), (0, .nameAndType 13 14), (0, u "java/lang/String"), (0, u "value"), (0, u "[B"), (0, .fieldref 10 16), (0, .nameAndType 17 18), (0, u "coder"), (0, u "B"), (2, u "hash"), (0, u "I"), (2, u "hashIsZero"), (0, u "Z"), (0, .methodref 10 28), (0, .nameAndType 5 29), (0, u "([CIILjava/lang/Void;)V"), (8, .fieldref 10 39), (0, .nameAndType 40 26), (0, u "COMPACT_STRINGS"), (1, .class_ 44), (1, u "java/lang/StringUTF16"), (0, u "compress"), (1, .methodref 42 48), (0, .nameAndType 49 50), (0, u "coderFromArrayLen"), (0, u "([BI)B"), (91, u "()Z"), (34, .methodref 42 178), (0, .nameAndType 45 179), (0, u "([CII)[B"), (154, u "()I"), (0, .methodref 10 336), (0, .nameAndType 17 337), (0, u "()B"), (169, u "length"), (35, u "equals"), (29, u "(Ljava/lang/Object;)Z"), (1, .class_ 576), (0, u "java/lang/CharSequence"), (22, u "CASE_INSENSITIVE_ORDER"), (0, u "Ljava/util/Comparator;"), (91, u "isEmpty"), (317, u "([C)V"), (90, u "serialPersistentFields"), (0, u "[Ljava/io/ObjectStreamField;"), (0, .class_ 1104), (0, u "java/lang/String$CaseInsensitiveComparator"), (1, .class_ 1107), (0, u "java/io/Serializable"), (0, .class_ 1109), (0, u "java/lang/Comparable"), (0, .class_ 1111), (0, u "java/lang/constant/Constable"), (0, .class_ 1113), (0, u "java/lang/constant/ConstantDesc"), (2, u "serialVersionUID"), (0, u "J"), (3, u "REPL"), (0, u "C"), (2, u "LATIN1"), (1, u "UTF16")] 323

def k7m0 : Method := { name := "<init>", desc := "()V", sig := { parameters := [], returnType := none }, accessFlags := 1, code := none }
def k7c1 : Code := { maxStack := 5, maxLocals := 2, code := jdk_42_method_3_code, exceptionTable := #[], attributes := #[] }
def k7m1 : Method := { name := "<init>", desc := "([C)V", sig := { parameters := [(.array .char)], returnType := none }, accessFlags := 1, code := some k7c1 }
def k7c2 : Code := { maxStack := 2, maxLocals := 1, code := jdk_42_method_54_code, exceptionTable := #[], attributes := #[] }
def k7m2 : Method := { name := "length", desc := "()I", sig := { parameters := [], returnType := some .int }, accessFlags := 1, code := some k7c2 }
def k7c3 : Code := { maxStack := 1, maxLocals := 1, code := jdk_42_method_55_code, exceptionTable := #[], attributes := #[] }
def k7m3 : Method := { name := "isEmpty", desc := "()Z", sig := { parameters := [], returnType := some .boolean }, accessFlags := 1, code := some k7c3 }
def k7c4 : Code := { maxStack := 2, maxLocals := 3, code := jdk_42_method_66_code, exceptionTable := #[], attributes := #[] }
def k7m4 : Method := { name := "equals", desc := "(Ljava/lang/Object;)Z", sig := { parameters := [(.object "java/lang/Object")], returnType := some .boolean }, accessFlags := 1, code := some k7c4 }
def k7c5 : Code := { maxStack := 4, maxLocals := 6, code := jdk_42_method_149_code, exceptionTable := #[], attributes := #[] }
def k7m5 : Method := { name := "<init>", desc := "([CIILjava/lang/Void;)V", sig := { parameters := [(.array .char), .int, .int, (.object "java/lang/Void")], returnType := none }, accessFlags := 2, code := some k7c5 }
def k7c6 : Code := { maxStack := 1, maxLocals := 1, code := jdk_42_method_152_code, exceptionTable := #[], attributes := #[] }
def k7m6 : Method := { name := "coder", desc := "()B", sig := { parameters := [], returnType := some .byte }, accessFlags := 0, code := some k7c6 }
/-- java/lang/String -/
def k7 : Class := { plain "java/lang/String" (some 0) with
  accessFlags := 49
  interfaces := #[2, 3, 4, 5, 6]
  cf := some (fileOf pool7 10 #[.nestMembers #[1103]] #[{ accessFlags := 1, nameIndex := 5, descriptorIndex := 6, attributes := #[] }, { accessFlags := 1, nameIndex := 5, descriptorIndex := 1010, attributes := #[] }, { accessFlags := 1, nameIndex := 507, descriptorIndex := 334, attributes := #[] }, { accessFlags := 1, nameIndex := 692, descriptorIndex := 142, attributes := #[] }, { accessFlags := 1, nameIndex := 543, descriptorIndex := 573, attributes := #[] }, { accessFlags := 2, nameIndex := 5, descriptorIndex := 29, attributes := #[] }, { accessFlags := 0, nameIndex := 17, descriptorIndex := 337, attributes := #[] }] 49 2 #[1106, 1108, 575, 1110, 1112] #[{ accessFlags := 18, nameIndex := 13, descriptorIndex := 14, attributes := #[] }, { accessFlags := 18, nameIndex := 17, descriptorIndex := 18, attributes := #[] }, { accessFlags := 2, nameIndex := 21, descriptorIndex := 22, attributes := #[] }, { accessFlags := 2, nameIndex := 25, descriptorIndex := 26, attributes := #[] }, { accessFlags := 26, nameIndex := 1116, descriptorIndex := 1117, attributes := #[] }, { accessFlags := 24, nameIndex := 40, descriptorIndex := 26, attributes := #[] }, { accessFlags := 26, nameIndex := 1101, descriptorIndex := 1102, attributes := #[] }, { accessFlags := 26, nameIndex := 1121, descriptorIndex := 1122, attributes := #[] }, { accessFlags := 25, nameIndex := 599, descriptorIndex := 600, attributes := #[] }, { accessFlags := 24, nameIndex := 1125, descriptorIndex := 18, attributes := #[] }, { accessFlags := 24, nameIndex := 1127, descriptorIndex := 18, attributes := #[] }])
  fields := #[{ name := "value", type := (.array .byte), accessFlags := 18, slot := 0, constantValue := 0 }, { name := "coder", type := .byte, accessFlags := 18, slot := 1, constantValue := 0 }, { name := "hash", type := .int, accessFlags := 2, slot := 2, constantValue := 0 }, { name := "hashIsZero", type := .boolean, accessFlags := 2, slot := 3, constantValue := 0 }, { name := "serialVersionUID", type := .long, accessFlags := 26, slot := 0, constantValue := 0 }, { name := "COMPACT_STRINGS", type := .boolean, accessFlags := 24, slot := 1, constantValue := 0 }, { name := "serialPersistentFields", type := (.array (.object "java/io/ObjectStreamField")), accessFlags := 26, slot := 2, constantValue := 0 }, { name := "REPL", type := .char, accessFlags := 26, slot := 3, constantValue := 0 }, { name := "CASE_INSENSITIVE_ORDER", type := (.object "java/util/Comparator"), accessFlags := 25, slot := 4, constantValue := 0 }, { name := "LATIN1", type := .byte, accessFlags := 24, slot := 5, constantValue := 0 }, { name := "UTF16", type := .byte, accessFlags := 24, slot := 6, constantValue := 0 }]
  methods := #[k7m0, k7m1, k7m2, k7m3, k7m4, k7m5, k7m6]
  instanceTypes := #[(.array .byte), .byte, .int, .boolean]
  staticTypes := #[.long, .boolean, (.array (.object "java/io/ObjectStreamField")), .char, (.object "java/util/Comparator"), .byte, .byte]
  resolved := Array.replicate 1451 none
  statics := some 0 }

def pool8 : Array CpInfo := pool [(6, .class_ 8), (1, u "java/lang/Object"), (0, u "<init>"), (0, u "()V"), (0, .methodref 12 13), (0, .class_ 14), (0, .nameAndType 15 16), (0, u "java/lang/StringUTF16"), (0, u "newBytesLength"), (0, u "(I)I"), (3, .integer 1073741823), (23, .fieldref 12 45), (0, .nameAndType 46 47), (0, u "$assertionsDisabled"), (0, u "Z"), (11, .fieldref 12 60), (0, .nameAndType 61 62), (0, u "HI_BYTE_SHIFT"), (0, u "I"), (0, .fieldref 12 64), (0, .nameAndType 65 62), (0, u "LO_BYTE_SHIFT"), (5, .methodref 12 72), (0, .nameAndType 73 74), (0, u "getChar"), (0, u "([BI)C"), (32, .methodref 12 108), (0, .nameAndType 109 110), (0, u "newBytesFor"), (0, u "(I)[B"), (0, .methodref 12 112), (0, .nameAndType 113 114), (0, u "putChar"), (0, u "([BII)V"), (0, .methodref 12 116), (0, .nameAndType 117 118), (0, u "compress"), (0, u "([CI[BII)I"), (0, .methodref 12 120), (0, .nameAndType 121 122), (0, u "toBytes"), (0, u "([CII)[B"), (138, u "coderFromArrayLen"), (0, u "([BI)B"), (106, .class_ 371), (1, u "java/lang/StringUTF16$LinesSpliterator"), (58, u "MAX_LENGTH"), (196, .class_ 628), (0, u "java/lang/StringUTF16$CodePointsSpliterator"), (0, .class_ 630), (0, u "java/lang/StringUTF16$CharsSpliterator")] 4

def k8m0 : Method := { name := "<init>", desc := "()V", sig := { parameters := [], returnType := none }, accessFlags := 0, code := none }
def k8c1 : Code := { maxStack := 1, maxLocals := 1, code := jdk_52_method_2_code, exceptionTable := #[], attributes := #[] }
def k8m1 : Method := { name := "newBytesFor", desc := "(I)[B", sig := { parameters := [.int], returnType := some (.array .byte) }, accessFlags := 9, code := some k8c1 }
def k8c2 : Code := { maxStack := 4, maxLocals := 1, code := jdk_52_method_3_code, exceptionTable := #[], attributes := #[] }
def k8m2 : Method := { name := "newBytesLength", desc := "(I)I", sig := { parameters := [.int], returnType := some .int }, accessFlags := 9, code := some k8c2 }
def k8c3 : Code := { maxStack := 4, maxLocals := 3, code := jdk_52_method_4_code, exceptionTable := #[], attributes := #[] }
def k8m3 : Method := { name := "putChar", desc := "([BII)V", sig := { parameters := [(.array .byte), .int, .int], returnType := none }, accessFlags := 8, code := some k8c3 }
def k8c4 : Code := { maxStack := 3, maxLocals := 2, code := jdk_52_method_5_code, exceptionTable := #[], attributes := #[] }
def k8m4 : Method := { name := "getChar", desc := "([BI)C", sig := { parameters := [(.array .byte), .int], returnType := some .char }, accessFlags := 8, code := some k8c4 }
def k8c5 : Code := { maxStack := 4, maxLocals := 5, code := jdk_52_method_14_code, exceptionTable := #[], attributes := #[] }
def k8m5 : Method := { name := "toBytes", desc := "([CII)[B", sig := { parameters := [(.array .char), .int, .int], returnType := some (.array .byte) }, accessFlags := 9, code := some k8c5 }
def k8c6 : Code := { maxStack := 2, maxLocals := 2, code := jdk_52_method_15_code, exceptionTable := #[], attributes := #[] }
def k8m6 : Method := { name := "coderFromArrayLen", desc := "([BI)B", sig := { parameters := [(.array .byte), .int], returnType := some .byte }, accessFlags := 8, code := some k8c6 }
def k8c7 : Code := { maxStack := 5, maxLocals := 6, code := jdk_52_method_16_code, exceptionTable := #[], attributes := #[] }
def k8m7 : Method := { name := "compress", desc := "([CII)[B", sig := { parameters := [(.array .char), .int, .int], returnType := some (.array .byte) }, accessFlags := 9, code := some k8c7 }
def k8c8 : Code := { maxStack := 3, maxLocals := 7, code := jdk_52_method_21_code, exceptionTable := #[], attributes := #[] }
def k8m8 : Method := { name := "compress", desc := "([CI[BII)I", sig := { parameters := [(.array .char), .int, (.array .byte), .int, .int], returnType := some .int }, accessFlags := 9, code := some k8c8 }
/-- java/lang/StringUTF16 -/
def k8 : Class := { plain "java/lang/StringUTF16" (some 0) with
  accessFlags := 48
  interfaces := #[]
  cf := some (fileOf pool8 12 #[.nestMembers #[627, 629, 369]] #[{ accessFlags := 0, nameIndex := 9, descriptorIndex := 10, attributes := #[] }, { accessFlags := 9, nameIndex := 109, descriptorIndex := 110, attributes := #[] }, { accessFlags := 9, nameIndex := 15, descriptorIndex := 16, attributes := #[] }, { accessFlags := 8, nameIndex := 113, descriptorIndex := 114, attributes := #[] }, { accessFlags := 8, nameIndex := 73, descriptorIndex := 74, attributes := #[] }, { accessFlags := 9, nameIndex := 121, descriptorIndex := 122, attributes := #[] }, { accessFlags := 8, nameIndex := 261, descriptorIndex := 262, attributes := #[] }, { accessFlags := 9, nameIndex := 117, descriptorIndex := 122, attributes := #[] }, { accessFlags := 9, nameIndex := 117, descriptorIndex := 118, attributes := #[] }] 48 6 #[] #[{ accessFlags := 26, nameIndex := 61, descriptorIndex := 62, attributes := #[] }, { accessFlags := 26, nameIndex := 65, descriptorIndex := 62, attributes := #[] }, { accessFlags := 24, nameIndex := 430, descriptorIndex := 62, attributes := #[] }, { accessFlags := 4120, nameIndex := 46, descriptorIndex := 47, attributes := #[] }])
  fields := #[{ name := "HI_BYTE_SHIFT", type := .int, accessFlags := 26, slot := 0, constantValue := 0 }, { name := "LO_BYTE_SHIFT", type := .int, accessFlags := 26, slot := 1, constantValue := 0 }, { name := "MAX_LENGTH", type := .int, accessFlags := 24, slot := 2, constantValue := 0 }, { name := "$assertionsDisabled", type := .boolean, accessFlags := 4120, slot := 3, constantValue := 0 }]
  methods := #[k8m0, k8m1, k8m2, k8m3, k8m4, k8m5, k8m6, k8m7, k8m8]
  instanceTypes := #[]
  staticTypes := #[.int, .int, .int, .boolean]
  resolved := Array.replicate 635 none
  statics := some 1 }

def pool9 : Array CpInfo := pool [(2, .class_ 4), (1, u "java/lang/Object"), (0, u "<init>"), (0, u "()V"), (2, .methodref 10 11), (0, .class_ 12), (0, .nameAndType 13 14), (0, u "java/util/Objects"), (0, u "requireNonNull"), (0, u "(Ljava/lang/Object;Ljava/lang/String;)Ljava/lang/Object;"), (5, u "()Z"), (15, u "(Ljava/lang/String;)Ljava/lang/String;"), (6, .string 44), (0, u "fieldName"), (0, .methodref 46 47), (0, .class_ 48), (0, .nameAndType 49 20), (0, u "java/lang/String"), (0, u "isEmpty"), (29, .class_ 81), (1, u "com/example/data_to_domain/datatodomain/Names")] 28

def k9m0 : Method := { name := "<init>", desc := "()V", sig := { parameters := [], returnType := none }, accessFlags := 2, code := none }
def k9c1 : Code := { maxStack := 3, maxLocals := 1, code := prog_20_method_3_code, exceptionTable := #[], attributes := #[] }
def k9m1 : Method := { name := "fieldName", desc := "(Ljava/lang/String;)Ljava/lang/String;", sig := { parameters := [(.object "java/lang/String")], returnType := some (.object "java/lang/String") }, accessFlags := 8, code := some k9c1 }
/-- com/example/data_to_domain/datatodomain/Names -/
def k9 : Class := { plain "com/example/data_to_domain/datatodomain/Names" (some 0) with
  accessFlags := 48
  interfaces := #[]
  cf := some (fileOf pool9 79 #[] #[{ accessFlags := 2, nameIndex := 5, descriptorIndex := 6, attributes := #[] }, { accessFlags := 8, nameIndex := 44, descriptorIndex := 36, attributes := #[] }] 48 2 #[] #[])
  fields := #[]
  methods := #[k9m0, k9m1]
  instanceTypes := #[]
  staticTypes := #[]
  resolved := Array.replicate 110 none
  statics := none }

def pool10 : Array CpInfo := pool [(2, .class_ 4), (1, u "java/lang/Object"), (0, u "<init>"), (0, u "()V"), (35, .class_ 44), (1, u "java/util/Objects"), (0, u "requireNonNull"), (48, u "(Ljava/lang/Object;Ljava/lang/String;)Ljava/lang/Object;")] 89

def k10m0 : Method := { name := "<init>", desc := "()V", sig := { parameters := [], returnType := none }, accessFlags := 2, code := none }
def k10c1 : Code := { maxStack := 3, maxLocals := 2, code := jdk_31_method_11_code, exceptionTable := #[], attributes := #[] }
def k10m1 : Method := { name := "requireNonNull", desc := "(Ljava/lang/Object;Ljava/lang/String;)Ljava/lang/Object;", sig := { parameters := [(.object "java/lang/Object"), (.object "java/lang/String")], returnType := some (.object "java/lang/Object") }, accessFlags := 9, code := some k10c1 }
/-- java/util/Objects -/
def k10 : Class := { plain "java/util/Objects" (some 0) with
  accessFlags := 49
  interfaces := #[]
  cf := some (fileOf pool10 42 #[] #[{ accessFlags := 2, nameIndex := 5, descriptorIndex := 6, attributes := #[] }, { accessFlags := 9, nameIndex := 45, descriptorIndex := 94, attributes := #[] }] 49 2 #[] #[])
  fields := #[]
  methods := #[k10m0, k10m1]
  instanceTypes := #[]
  staticTypes := #[]
  resolved := Array.replicate 184 none
  statics := none }

def pool11 : Array CpInfo := pool [(4, .class_ 6), (1, u "java/lang/Object"), (0, u "<init>"), (0, u "()V"), (5, .class_ 16), (1, u "java/lang/StringLatin1"), (104, u "$assertionsDisabled"), (0, u "Z"), (98, .class_ 223), (1, u "java/lang/StringLatin1$LinesSpliterator"), (166, .class_ 391), (0, u "java/lang/StringLatin1$CharsSpliterator")] 3

def k11m0 : Method := { name := "<init>", desc := "()V", sig := { parameters := [], returnType := none }, accessFlags := 0, code := none }
/-- java/lang/StringLatin1 -/
def k11 : Class := { plain "java/lang/StringLatin1" (some 0) with
  accessFlags := 48
  interfaces := #[]
  cf := some (fileOf pool11 14 #[.nestMembers #[390, 221]] #[{ accessFlags := 0, nameIndex := 7, descriptorIndex := 8, attributes := #[] }] 48 4 #[] #[{ accessFlags := 4120, nameIndex := 121, descriptorIndex := 122, attributes := #[] }])
  fields := #[{ name := "$assertionsDisabled", type := .boolean, accessFlags := 4120, slot := 0, constantValue := 0 }]
  methods := #[k11m0]
  instanceTypes := #[]
  staticTypes := #[.boolean]
  resolved := Array.replicate 395 none
  statics := none }

def pool12 : Array CpInfo := pool [(2, .class_ 4), (1, u "java/lang/Object"), (0, u "<init>"), (0, u "()V"), (17, .class_ 26), (1, u "jdk/internal/util/Preconditions"), (28, .class_ 56), (0, u "jdk/internal/util/Preconditions$4"), (57, .class_ 115), (0, u "jdk/internal/util/Preconditions$1"), (7, u "SIOOBE_FORMATTER"), (0, u "Ljava/util/function/BiFunction;"), (0, .class_ 126), (0, u "jdk/internal/util/Preconditions$2"), (3, u "AIOOBE_FORMATTER"), (0, .class_ 132), (0, u "jdk/internal/util/Preconditions$3"), (3, u "IOOBE_FORMATTER")] 57

def k12m0 : Method := { name := "<init>", desc := "()V", sig := { parameters := [], returnType := none }, accessFlags := 1, code := none }
/-- jdk/internal/util/Preconditions -/
def k12 : Class := { plain "jdk/internal/util/Preconditions" (some 0) with
  accessFlags := 33
  interfaces := #[]
  cf := some (fileOf pool12 24 #[.nestMembers #[55, 131, 125, 114]] #[{ accessFlags := 1, nameIndex := 5, descriptorIndex := 6, attributes := #[] }] 33 2 #[] #[{ accessFlags := 25, nameIndex := 123, descriptorIndex := 124, attributes := #[] }, { accessFlags := 25, nameIndex := 130, descriptorIndex := 124, attributes := #[] }, { accessFlags := 25, nameIndex := 136, descriptorIndex := 124, attributes := #[] }])
  fields := #[{ name := "SIOOBE_FORMATTER", type := (.object "java/util/function/BiFunction"), accessFlags := 25, slot := 0, constantValue := 0 }, { name := "AIOOBE_FORMATTER", type := (.object "java/util/function/BiFunction"), accessFlags := 25, slot := 1, constantValue := 0 }, { name := "IOOBE_FORMATTER", type := (.object "java/util/function/BiFunction"), accessFlags := 25, slot := 2, constantValue := 0 }]
  methods := #[k12m0]
  instanceTypes := #[]
  staticTypes := #[(.object "java/util/function/BiFunction"), (.object "java/util/function/BiFunction"), (.object "java/util/function/BiFunction")]
  resolved := Array.replicate 194 none
  statics := some 2 }

def pool13 : Array CpInfo := pool [(9, u "<init>"), (6, .class_ 18), (1, u "java/lang/Object"), (0, u "()V"), (1, .class_ 23), (1, u "jdk/internal/util/ArraysSupport"), (0, u "LOG2_ARRAY_LONG_INDEX_SCALE"), (0, u "I"), (2, u "U"), (0, u "Ljdk/internal/misc/Unsafe;"), (8, u "BIG_ENDIAN"), (0, u "Z"), (8, u "LOG2_BYTE_BIT_SIZE"), (4, u "LOG2_ARRAY_INT_INDEX_SCALE"), (54, u "JLA"), (0, u "Ljdk/internal/access/JavaLangAccess;"), (11, u "LOG2_ARRAY_BOOLEAN_INDEX_SCALE"), (9, u "LOG2_ARRAY_BYTE_INDEX_SCALE"), (5, u "LOG2_ARRAY_CHAR_INDEX_SCALE"), (5, u "LOG2_ARRAY_SHORT_INDEX_SCALE"), (18, u "LOG2_ARRAY_FLOAT_INDEX_SCALE"), (24, u "LOG2_ARRAY_DOUBLE_INDEX_SCALE"), (89, u "T_BOOLEAN"), (2, u "T_CHAR"), (1, u "T_FLOAT"), (1, u "T_DOUBLE"), (1, u "T_BYTE"), (1, u "T_SHORT"), (1, u "T_INT"), (1, u "T_LONG"), (1, u "SOFT_MAX_ARRAY_LENGTH")] 83

def k13m0 : Method := { name := "<init>", desc := "()V", sig := { parameters := [], returnType := none }, accessFlags := 2, code := none }
/-- jdk/internal/util/ArraysSupport -/
def k13 : Class := { plain "jdk/internal/util/ArraysSupport" (some 0) with
  accessFlags := 33
  interfaces := #[]
  cf := some (fileOf pool13 21 #[] #[{ accessFlags := 2, nameIndex := 9, descriptorIndex := 19, attributes := #[] }] 33 16 #[] #[{ accessFlags := 24, nameIndex := 28, descriptorIndex := 29, attributes := #[] }, { accessFlags := 26, nameIndex := 38, descriptorIndex := 39, attributes := #[] }, { accessFlags := 25, nameIndex := 121, descriptorIndex := 25, attributes := #[] }, { accessFlags := 25, nameIndex := 131, descriptorIndex := 25, attributes := #[] }, { accessFlags := 25, nameIndex := 137, descriptorIndex := 25, attributes := #[] }, { accessFlags := 25, nameIndex := 143, descriptorIndex := 25, attributes := #[] }, { accessFlags := 25, nameIndex := 53, descriptorIndex := 25, attributes := #[] }, { accessFlags := 25, nameIndex := 24, descriptorIndex := 25, attributes := #[] }, { accessFlags := 25, nameIndex := 162, descriptorIndex := 25, attributes := #[] }, { accessFlags := 25, nameIndex := 187, descriptorIndex := 25, attributes := #[] }, { accessFlags := 26, nameIndex := 48, descriptorIndex := 25, attributes := #[] }, { accessFlags := 25, nameIndex := 277, descriptorIndex := 25, attributes := #[] }, { accessFlags := 25, nameIndex := 280, descriptorIndex := 25, attributes := #[] }, { accessFlags := 25, nameIndex := 282, descriptorIndex := 25, attributes := #[] }, { accessFlags := 25, nameIndex := 284, descriptorIndex := 25, attributes := #[] }, { accessFlags := 25, nameIndex := 286, descriptorIndex := 25, attributes := #[] }, { accessFlags := 25, nameIndex := 288, descriptorIndex := 25, attributes := #[] }, { accessFlags := 25, nameIndex := 290, descriptorIndex := 25, attributes := #[] }, { accessFlags := 25, nameIndex := 292, descriptorIndex := 25, attributes := #[] }, { accessFlags := 26, nameIndex := 108, descriptorIndex := 109, attributes := #[] }, { accessFlags := 25, nameIndex := 294, descriptorIndex := 25, attributes := #[] }])
  fields := #[{ name := "U", type := (.object "jdk/internal/misc/Unsafe"), accessFlags := 24, slot := 0, constantValue := 0 }, { name := "BIG_ENDIAN", type := .boolean, accessFlags := 26, slot := 1, constantValue := 0 }, { name := "LOG2_ARRAY_BOOLEAN_INDEX_SCALE", type := .int, accessFlags := 25, slot := 2, constantValue := 0 }, { name := "LOG2_ARRAY_BYTE_INDEX_SCALE", type := .int, accessFlags := 25, slot := 3, constantValue := 0 }, { name := "LOG2_ARRAY_CHAR_INDEX_SCALE", type := .int, accessFlags := 25, slot := 4, constantValue := 0 }, { name := "LOG2_ARRAY_SHORT_INDEX_SCALE", type := .int, accessFlags := 25, slot := 5, constantValue := 0 }, { name := "LOG2_ARRAY_INT_INDEX_SCALE", type := .int, accessFlags := 25, slot := 6, constantValue := 0 }, { name := "LOG2_ARRAY_LONG_INDEX_SCALE", type := .int, accessFlags := 25, slot := 7, constantValue := 0 }, { name := "LOG2_ARRAY_FLOAT_INDEX_SCALE", type := .int, accessFlags := 25, slot := 8, constantValue := 0 }, { name := "LOG2_ARRAY_DOUBLE_INDEX_SCALE", type := .int, accessFlags := 25, slot := 9, constantValue := 0 }, { name := "LOG2_BYTE_BIT_SIZE", type := .int, accessFlags := 26, slot := 10, constantValue := 0 }, { name := "T_BOOLEAN", type := .int, accessFlags := 25, slot := 11, constantValue := 0 }, { name := "T_CHAR", type := .int, accessFlags := 25, slot := 12, constantValue := 0 }, { name := "T_FLOAT", type := .int, accessFlags := 25, slot := 13, constantValue := 0 }, { name := "T_DOUBLE", type := .int, accessFlags := 25, slot := 14, constantValue := 0 }, { name := "T_BYTE", type := .int, accessFlags := 25, slot := 15, constantValue := 0 }, { name := "T_SHORT", type := .int, accessFlags := 25, slot := 16, constantValue := 0 }, { name := "T_INT", type := .int, accessFlags := 25, slot := 17, constantValue := 0 }, { name := "T_LONG", type := .int, accessFlags := 25, slot := 18, constantValue := 0 }, { name := "JLA", type := (.object "jdk/internal/access/JavaLangAccess"), accessFlags := 26, slot := 19, constantValue := 0 }, { name := "SOFT_MAX_ARRAY_LENGTH", type := .int, accessFlags := 25, slot := 20, constantValue := 0 }]
  methods := #[k13m0]
  instanceTypes := #[]
  staticTypes := #[(.object "jdk/internal/misc/Unsafe"), .boolean, .int, .int, .int, .int, .int, .int, .int, .int, .int, .int, .int, .int, .int, .int, .int, .int, .int, (.object "jdk/internal/access/JavaLangAccess"), .int]
  resolved := Array.replicate 378 none
  statics := none }

def pool14 : Array CpInfo := pool [(1, u "java/lang/Cloneable"), (0, .class_ 1), (0, u "java/lang/Object"), (0, .class_ 3)] 3

/-- java/lang/Cloneable -/
def k14 : Class := { plain "java/lang/Cloneable" (some 0) with
  accessFlags := 1537
  interfaces := #[]
  cf := some (fileOf pool14 2 #[] #[] 1537 4 #[] #[])
  fields := #[]
  methods := #[]
  instanceTypes := #[]
  staticTypes := #[]
  resolved := Array.replicate 8 none
  statics := none }

/-- the primitive byte -/
def k15 : Class := { plain "byte" none with kind := .primitive 'B', accessFlags := 0x411 }
/-- [B -/
def k16 : Class := { plain "[B" (some 0) with kind := .array 15 .byte, interfaces := #[14, 2], accessFlags := 1041 }

/-- the primitive char -/
def k17 : Class := { plain "char" none with kind := .primitive 'C', accessFlags := 0x411 }
/-- [C -/
def k18 : Class := { plain "[C" (some 0) with kind := .array 17 .char, interfaces := #[14, 2], accessFlags := 1041 }

/-- the primitive int -/
def k19 : Class := { plain "int" none with kind := .primitive 'I', accessFlags := 0x411 }
/-- [I -/
def k20 : Class := { plain "[I" (some 0) with kind := .array 19 .int, interfaces := #[14, 2], accessFlags := 1041 }

def heap : Heap := #[{ cls := 7, slots := #[.long 0, .int 1, .null, .int 0, .null, .int 0, .int 0], vm := .statics 7 },
  { cls := 8, slots := #[.int 0, .int 8, .int 0, .int 1], vm := .statics 8 },
  { cls := 12, slots := #[.null, .null, .null], vm := .statics 12 }]
def classes : Array Class := #[k0, k1, k2, k3, k4, k5, k6, k7, k8, k9, k10, k11, k12, k13, k14, k15, k16, k17, k18, k19, k20]
def interned : List (Array UInt16 × Addr) := []
def slotsUsed : Nat := 14
def theMethod : MethodId := ⟨1, 2⟩
def args0 : Array Value := #[.int 5, .int 5, .int 5, .int 5, .int 5]
def aboutOver (below : List Frame) : State where
  vm := { classes := classes, interned := interned.toArray }
  heap := heap
  slotsUsed := slotsUsed
  threads := #[{ frames := .invoking theMethod args0 :: below }]
def below0 : List Frame := [.native { method := ⟨0, 0⟩, args := #[] }]
def about1 : State := aboutOver below0
def p0 : Program := .bare "" "" ""
def e0 : Env := launch0.env 0 0 0
theorem w_frames : about1.frames = Frame.invoking theMethod args0 :: below0 := rfl
set_option maxRecDepth 65536 in
theorem w_args : argsFit about1.vm theMethod args0 = true := by decide +kernel
set_option maxRecDepth 65536 in
theorem w_heap : heapFits about1 = true := by decide +kernel
set_option maxRecDepth 65536 in
theorem w_runnable : about1.curStatus? = some .runnable := by decide +kernel
set_option maxRecDepth 65536 in
theorem w_alone : about1.alone = true := by decide +kernel
set_option maxRecDepth 65536 in
theorem w_named : about1.methodNamed? x = some theMethod := by decide +kernel
set_option maxRecDepth 65536 in
theorem w_hears : about1.hears theMethod below0 = true := by decide +kernel
set_option maxRecDepth 65536 in
theorem w_ripe : about1.ripe theMethod args0 below0 = true := by decide +kernel
theorem w_running : about1.status = .running := rfl
set_option maxRecDepth 65536 in
theorem w_room : about1.hasRoom e0.platform room_1 = true :=
  launch0.hasRoom_least _ room_1 (by decide +kernel) (by decide +kernel) (by decide +kernel) (by decide +kernel) (by decide +kernel) (by decide +kernel)
theorem allAtoms_all (ts : List Jvm.Cond) (a : Array Jvm.Value) (st : Jvm.State) : (allAtoms ts).before a st = ts.all (fun c => c.before a st) := by
  induction ts with
  | nil => rfl
  | cons c t ih =>
    show (Jvm.Cond.and c (allAtoms t)).before a st = _
    rw [Jvm.Cond.before_and, ih, List.all_cons]
def words1 : List Jvm.Cond := Jvm.Cond.code x code maxLocals ret :: tables_1
/-- a 'code' word, met by the world's own term for the bytes: nothing is compared byte by byte -/
theorem code_word {y : MethodName} {bytes : ByteArray} {mx : Nat} {rt : Option FieldType} {a : Array Value} {s : State} {m : MethodId} {meth : Method} {c : Code} (h1 : s.methodNamed? y = some m) (h2 : s.vm.method? m = some meth) (h3 : meth.code = some c) (h4 : c.code = bytes)
    (h5 : (c.maxLocals == mx && c.exceptionTable.isEmpty && decide (c.maxStack ≤ mostOperands) && decide (meth.sig.returnType = rt) && !meth.locks && decide (parseMethodDescriptor y.desc = some meth.sig)) = true) : (Jvm.Cond.code y bytes mx rt).before a s = true := by
  simp only [Bool.and_eq_true, beq_iff_eq, Bool.not_eq_true', decide_eq_true_eq] at h5
  obtain ⟨⟨⟨⟨⟨g1, g2⟩, g3⟩, g4⟩, g5⟩, g6⟩ := h5
  simp [Cond.before, Cond.holds, Cond.value, h1, h2, h3, h4, g1, g2, g3, g4, g5, g6]
def isCode : Jvm.Cond → Bool
  | .code _ _ _ _ => true
  | _ => false
theorem all_split {L : List Jvm.Cond} {P : Jvm.Cond → Bool} (h1 : L.all (fun c => isCode c || P c) = true) (h2 : ∀ c ∈ L.filter isCode, P c = true) : L.all P = true := by
  refine List.all_eq_true.mpr fun c hc => ?_
  have h := List.all_eq_true.mp h1 c hc
  rcases Bool.eq_false_or_eq_true (isCode c) with hi | hi
  · exact h2 c (List.mem_filter.mpr ⟨hc, hi⟩)
  · simpa [hi] using h
set_option maxRecDepth 65536 in
theorem w_c0 : (Jvm.Cond.code x code maxLocals ret).before args0 about1 = true := code_word (m := ⟨1, 2⟩) (meth := k1m2) (c := k1c2) (by decide +kernel) rfl rfl rfl (by decide +kernel)
set_option maxRecDepth 65536 in
theorem w_c1 : (Jvm.Cond.code ({ cls := "com/example/data_to_domain/datatodomain/NamesFieldNamePinLaw", name := "draw", desc := "(IIIII)[C" } : Jvm.MethodName) method_2_code (9 : Nat) (Option.some (Jvm.ClassFile.FieldType.array Jvm.ClassFile.FieldType.char))).before args0 about1 = true := code_word (m := ⟨1, 1⟩) (meth := k1m1) (c := k1c1) (by decide +kernel) rfl rfl rfl (by decide +kernel)
set_option maxRecDepth 65536 in
theorem w_c2 : (Jvm.Cond.code ({ cls := "java/lang/String", name := "<init>", desc := "([C)V" } : Jvm.MethodName) jdk_42_method_3_code (2 : Nat) (Option.none : Option Jvm.ClassFile.FieldType)).before args0 about1 = true := code_word (m := ⟨7, 1⟩) (meth := k7m1) (c := k7c1) (by decide +kernel) rfl rfl rfl (by decide +kernel)
set_option maxRecDepth 65536 in
theorem w_c3 : (Jvm.Cond.code ({ cls := "java/lang/String", name := "<init>", desc := "([CIILjava/lang/Void;)V" } : Jvm.MethodName) jdk_42_method_149_code (6 : Nat) (Option.none : Option Jvm.ClassFile.FieldType)).before args0 about1 = true := code_word (m := ⟨7, 5⟩) (meth := k7m5) (c := k7c5) (by decide +kernel) rfl rfl rfl (by decide +kernel)
set_option maxRecDepth 65536 in
theorem w_c4 : (Jvm.Cond.code ({ cls := "java/lang/Object", name := "<init>", desc := "()V" } : Jvm.MethodName) object_method_1_code (1 : Nat) (Option.none : Option Jvm.ClassFile.FieldType)).before args0 about1 = true := code_word (m := ⟨0, 0⟩) (meth := k0m0) (c := k0c0) (by decide +kernel) rfl rfl rfl (by decide +kernel)
set_option maxRecDepth 65536 in
theorem w_c5 : (Jvm.Cond.code ({ cls := "java/lang/StringUTF16", name := "compress", desc := "([CII)[B" } : Jvm.MethodName) jdk_52_method_16_code (6 : Nat) (Option.some (Jvm.ClassFile.FieldType.array Jvm.ClassFile.FieldType.byte))).before args0 about1 = true := code_word (m := ⟨8, 7⟩) (meth := k8m7) (c := k8c7) (by decide +kernel) rfl rfl rfl (by decide +kernel)
set_option maxRecDepth 65536 in
theorem w_c6 : (Jvm.Cond.code ({ cls := "java/lang/StringUTF16", name := "compress", desc := "([CI[BII)I" } : Jvm.MethodName) jdk_52_method_21_code (7 : Nat) (Option.some Jvm.ClassFile.FieldType.int)).before args0 about1 = true := code_word (m := ⟨8, 8⟩) (meth := k8m8) (c := k8c8) (by decide +kernel) rfl rfl rfl (by decide +kernel)
set_option maxRecDepth 65536 in
theorem w_c7 : (Jvm.Cond.code ({ cls := "java/lang/StringUTF16", name := "coderFromArrayLen", desc := "([BI)B" } : Jvm.MethodName) jdk_52_method_15_code (2 : Nat) (Option.some Jvm.ClassFile.FieldType.byte)).before args0 about1 = true := code_word (m := ⟨8, 6⟩) (meth := k8m6) (c := k8c6) (by decide +kernel) rfl rfl rfl (by decide +kernel)
set_option maxRecDepth 65536 in
theorem w_c8 : (Jvm.Cond.code ({ cls := "com/example/data_to_domain/datatodomain/Names", name := "fieldName", desc := "(Ljava/lang/String;)Ljava/lang/String;" } : Jvm.MethodName) prog_20_method_3_code (1 : Nat) (Option.some (Jvm.ClassFile.FieldType.object "java/lang/String"))).before args0 about1 = true := code_word (m := ⟨9, 1⟩) (meth := k9m1) (c := k9c1) (by decide +kernel) rfl rfl rfl (by decide +kernel)
set_option maxRecDepth 65536 in
theorem w_c9 : (Jvm.Cond.code ({ cls := "java/util/Objects", name := "requireNonNull", desc := "(Ljava/lang/Object;Ljava/lang/String;)Ljava/lang/Object;" } : Jvm.MethodName) jdk_31_method_11_code (2 : Nat) (Option.some (Jvm.ClassFile.FieldType.object "java/lang/Object"))).before args0 about1 = true := code_word (m := ⟨10, 1⟩) (meth := k10m1) (c := k10c1) (by decide +kernel) rfl rfl rfl (by decide +kernel)
set_option maxRecDepth 65536 in
theorem w_c10 : (Jvm.Cond.code ({ cls := "java/lang/String", name := "isEmpty", desc := "()Z" } : Jvm.MethodName) jdk_42_method_55_code (1 : Nat) (Option.some Jvm.ClassFile.FieldType.boolean)).before args0 about1 = true := code_word (m := ⟨7, 3⟩) (meth := k7m3) (c := k7c3) (by decide +kernel) rfl rfl rfl (by decide +kernel)
set_option maxRecDepth 65536 in
theorem w_c11 : (Jvm.Cond.code ({ cls := "java/lang/String", name := "length", desc := "()I" } : Jvm.MethodName) jdk_42_method_54_code (1 : Nat) (Option.some Jvm.ClassFile.FieldType.int)).before args0 about1 = true := code_word (m := ⟨7, 2⟩) (meth := k7m2) (c := k7c2) (by decide +kernel) rfl rfl rfl (by decide +kernel)
set_option maxRecDepth 65536 in
theorem w_c12 : (Jvm.Cond.code ({ cls := "java/lang/String", name := "coder", desc := "()B" } : Jvm.MethodName) jdk_42_method_152_code (1 : Nat) (Option.some Jvm.ClassFile.FieldType.byte)).before args0 about1 = true := code_word (m := ⟨7, 6⟩) (meth := k7m6) (c := k7c6) (by decide +kernel) rfl rfl rfl (by decide +kernel)
set_option maxRecDepth 65536 in
theorem w_c13 : (Jvm.Cond.code ({ cls := "java/lang/String", name := "equals", desc := "(Ljava/lang/Object;)Z" } : Jvm.MethodName) jdk_42_method_66_code (3 : Nat) (Option.some Jvm.ClassFile.FieldType.boolean)).before args0 about1 = true := code_word (m := ⟨7, 4⟩) (meth := k7m4) (c := k7c4) (by decide +kernel) rfl rfl rfl (by decide +kernel)
set_option maxRecDepth 65536 in
theorem w_c14 : (Jvm.Cond.code ({ cls := "java/lang/StringUTF16", name := "toBytes", desc := "([CII)[B" } : Jvm.MethodName) jdk_52_method_14_code (5 : Nat) (Option.some (Jvm.ClassFile.FieldType.array Jvm.ClassFile.FieldType.byte))).before args0 about1 = true := code_word (m := ⟨8, 5⟩) (meth := k8m5) (c := k8c5) (by decide +kernel) rfl rfl rfl (by decide +kernel)
set_option maxRecDepth 65536 in
theorem w_c15 : (Jvm.Cond.code ({ cls := "java/lang/StringUTF16", name := "newBytesFor", desc := "(I)[B" } : Jvm.MethodName) jdk_52_method_2_code (1 : Nat) (Option.some (Jvm.ClassFile.FieldType.array Jvm.ClassFile.FieldType.byte))).before args0 about1 = true := code_word (m := ⟨8, 1⟩) (meth := k8m1) (c := k8c1) (by decide +kernel) rfl rfl rfl (by decide +kernel)
set_option maxRecDepth 65536 in
theorem w_c16 : (Jvm.Cond.code ({ cls := "java/lang/StringUTF16", name := "newBytesLength", desc := "(I)I" } : Jvm.MethodName) jdk_52_method_3_code (1 : Nat) (Option.some Jvm.ClassFile.FieldType.int)).before args0 about1 = true := code_word (m := ⟨8, 2⟩) (meth := k8m2) (c := k8c2) (by decide +kernel) rfl rfl rfl (by decide +kernel)
set_option maxRecDepth 65536 in
theorem w_c17 : (Jvm.Cond.code ({ cls := "java/lang/StringUTF16", name := "putChar", desc := "([BII)V" } : Jvm.MethodName) jdk_52_method_4_code (3 : Nat) (Option.none : Option Jvm.ClassFile.FieldType)).before args0 about1 = true := code_word (m := ⟨8, 3⟩) (meth := k8m3) (c := k8c3) (by decide +kernel) rfl rfl rfl (by decide +kernel)
set_option maxRecDepth 65536 in
theorem w_c18 : (Jvm.Cond.code ({ cls := "java/lang/StringUTF16", name := "getChar", desc := "([BI)C" } : Jvm.MethodName) jdk_52_method_5_code (2 : Nat) (Option.some Jvm.ClassFile.FieldType.char)).before args0 about1 = true := code_word (m := ⟨8, 4⟩) (meth := k8m4) (c := k8c4) (by decide +kernel) rfl rfl rfl (by decide +kernel)
def codes1 : List Jvm.Cond := [Jvm.Cond.code x code maxLocals ret, Jvm.Cond.code ({ cls := "com/example/data_to_domain/datatodomain/NamesFieldNamePinLaw", name := "draw", desc := "(IIIII)[C" } : Jvm.MethodName) method_2_code (9 : Nat) (Option.some (Jvm.ClassFile.FieldType.array Jvm.ClassFile.FieldType.char)), Jvm.Cond.code ({ cls := "java/lang/String", name := "<init>", desc := "([C)V" } : Jvm.MethodName) jdk_42_method_3_code (2 : Nat) (Option.none : Option Jvm.ClassFile.FieldType), Jvm.Cond.code ({ cls := "java/lang/String", name := "<init>", desc := "([CIILjava/lang/Void;)V" } : Jvm.MethodName) jdk_42_method_149_code (6 : Nat) (Option.none : Option Jvm.ClassFile.FieldType), Jvm.Cond.code ({ cls := "java/lang/Object", name := "<init>", desc := "()V" } : Jvm.MethodName) object_method_1_code (1 : Nat) (Option.none : Option Jvm.ClassFile.FieldType), Jvm.Cond.code ({ cls := "java/lang/StringUTF16", name := "compress", desc := "([CII)[B" } : Jvm.MethodName) jdk_52_method_16_code (6 : Nat) (Option.some (Jvm.ClassFile.FieldType.array Jvm.ClassFile.FieldType.byte)), Jvm.Cond.code ({ cls := "java/lang/StringUTF16", name := "compress", desc := "([CI[BII)I" } : Jvm.MethodName) jdk_52_method_21_code (7 : Nat) (Option.some Jvm.ClassFile.FieldType.int), Jvm.Cond.code ({ cls := "java/lang/StringUTF16", name := "coderFromArrayLen", desc := "([BI)B" } : Jvm.MethodName) jdk_52_method_15_code (2 : Nat) (Option.some Jvm.ClassFile.FieldType.byte), Jvm.Cond.code ({ cls := "com/example/data_to_domain/datatodomain/Names", name := "fieldName", desc := "(Ljava/lang/String;)Ljava/lang/String;" } : Jvm.MethodName) prog_20_method_3_code (1 : Nat) (Option.some (Jvm.ClassFile.FieldType.object "java/lang/String")), Jvm.Cond.code ({ cls := "java/util/Objects", name := "requireNonNull", desc := "(Ljava/lang/Object;Ljava/lang/String;)Ljava/lang/Object;" } : Jvm.MethodName) jdk_31_method_11_code (2 : Nat) (Option.some (Jvm.ClassFile.FieldType.object "java/lang/Object")), Jvm.Cond.code ({ cls := "java/lang/String", name := "isEmpty", desc := "()Z" } : Jvm.MethodName) jdk_42_method_55_code (1 : Nat) (Option.some Jvm.ClassFile.FieldType.boolean), Jvm.Cond.code ({ cls := "java/lang/String", name := "length", desc := "()I" } : Jvm.MethodName) jdk_42_method_54_code (1 : Nat) (Option.some Jvm.ClassFile.FieldType.int), Jvm.Cond.code ({ cls := "java/lang/String", name := "coder", desc := "()B" } : Jvm.MethodName) jdk_42_method_152_code (1 : Nat) (Option.some Jvm.ClassFile.FieldType.byte), Jvm.Cond.code ({ cls := "java/lang/String", name := "equals", desc := "(Ljava/lang/Object;)Z" } : Jvm.MethodName) jdk_42_method_66_code (3 : Nat) (Option.some Jvm.ClassFile.FieldType.boolean), Jvm.Cond.code ({ cls := "java/lang/StringUTF16", name := "toBytes", desc := "([CII)[B" } : Jvm.MethodName) jdk_52_method_14_code (5 : Nat) (Option.some (Jvm.ClassFile.FieldType.array Jvm.ClassFile.FieldType.byte)), Jvm.Cond.code ({ cls := "java/lang/StringUTF16", name := "newBytesFor", desc := "(I)[B" } : Jvm.MethodName) jdk_52_method_2_code (1 : Nat) (Option.some (Jvm.ClassFile.FieldType.array Jvm.ClassFile.FieldType.byte)), Jvm.Cond.code ({ cls := "java/lang/StringUTF16", name := "newBytesLength", desc := "(I)I" } : Jvm.MethodName) jdk_52_method_3_code (1 : Nat) (Option.some Jvm.ClassFile.FieldType.int), Jvm.Cond.code ({ cls := "java/lang/StringUTF16", name := "putChar", desc := "([BII)V" } : Jvm.MethodName) jdk_52_method_4_code (3 : Nat) (Option.none : Option Jvm.ClassFile.FieldType), Jvm.Cond.code ({ cls := "java/lang/StringUTF16", name := "getChar", desc := "([BI)C" } : Jvm.MethodName) jdk_52_method_5_code (2 : Nat) (Option.some Jvm.ClassFile.FieldType.char)]
set_option maxRecDepth 65536 in
theorem codes_eq : words1.filter isCode = codes1 := rfl
theorem w_codes : ∀ c ∈ words1.filter isCode, c.before args0 about1 = true := by
  rw [codes_eq]
  intro c hc
  simp only [codes1, List.mem_cons, List.not_mem_nil, or_false] at hc
  rcases hc with rfl | rfl | rfl | rfl | rfl | rfl | rfl | rfl | rfl | rfl | rfl | rfl | rfl | rfl | rfl | rfl | rfl | rfl | rfl
  · exact w_c0
  · exact w_c1
  · exact w_c2
  · exact w_c3
  · exact w_c4
  · exact w_c5
  · exact w_c6
  · exact w_c7
  · exact w_c8
  · exact w_c9
  · exact w_c10
  · exact w_c11
  · exact w_c12
  · exact w_c13
  · exact w_c14
  · exact w_c15
  · exact w_c16
  · exact w_c17
  · exact w_c18
set_option maxRecDepth 65536 in
theorem w_t1 : (words1.take 24).all (fun c => isCode c || c.before args0 about1) = true := by decide +kernel
set_option maxRecDepth 65536 in
theorem w_t2 : ((words1.drop 24).take 24).all (fun c => isCode c || c.before args0 about1) = true := by decide +kernel
set_option maxRecDepth 65536 in
theorem w_t3 : (((words1.drop 24).drop 24).take 24).all (fun c => isCode c || c.before args0 about1) = true := by decide +kernel
set_option maxRecDepth 65536 in
theorem w_t4 : (((words1.drop 24).drop 24).drop 24).all (fun c => isCode c || c.before args0 about1) = true := by decide +kernel
theorem w_tables : (allAtoms (Jvm.Cond.code x code maxLocals ret :: tables_1)).before args0 about1 = true := by
  rw [allAtoms_all]
  show words1.all (fun c => c.before args0 about1) = true
  refine all_split ?_ w_codes
  rw [← List.take_append_drop 24 words1, List.all_append, w_t1, ← List.take_append_drop 24 (words1.drop 24), List.all_append, w_t2, ← List.take_append_drop 24 ((words1.drop 24).drop 24), List.all_append, w_t3, w_t4]
  rfl
set_option maxRecDepth 65536 in
theorem w_rest : rest_1_c.before args0 about1 = true := by decide +kernel
set_option maxRecDepth 65536 in
theorem w_case : (Jvm.Cond.and given_1 narrow_1).before args0 about1 = true := by decide +kernel
theorem w_applies : (headSpec (Jvm.Cond.code x code maxLocals ret :: tables_1) room_1).applies x e0.platform about1 = true :=
  (Spec.applies_iff w_frames).mpr ⟨w_running, w_runnable, w_alone, w_named, w_hears, w_ripe, w_room, w_tables⟩
theorem atStart : AtStart classFile x code maxLocals ret World_1 tables_1 room_1 Calls_1 rest_1 Pre_1 launch0 p0 e0 about1 theMethod args0 below0 :=
  ⟨lists_1, trivial, launch0.admits_env _ _ _, launch0.least_env, fairChoices_fair.cas, fairChoices_fair.clock, w_frames, w_args, w_heap, w_applies, trivial, w_rest, w_case⟩
end start1
theorem witness_1 : WitnessClaimed_1 := ⟨start1.p0, start1.e0, start1.about1, start1.theMethod, start1.args0, start1.below0, start1.atStart⟩
end Jvm.Pilot.@@N@@
