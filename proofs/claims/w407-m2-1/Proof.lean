import JvmDerived
import JvmDerived.Pilot.@@N@@Statement
import JvmDerived.Pilot.@@N@@Code
set_option linter.unusedVariables false
set_option linter.unusedSimpArgs false
namespace Jvm.RoadKit
open Sem ClassFile Op Lib Jvm.Stand Jvm.Free Jvm.LawKit
section New
variable {p : Program} {l : Launch} {e : Env} {R : Room} {s : State} {m : MethodId} {args : Array Value} {below : List Frame} {meth : Method} {c : Code} {T : State} {locs : List Loc} {cells slots : Nat}
theorem retI (X : Stand p l e R s m args below meth c T locs cells slots) (hx : p.tables.exec = Jvm.exec) {pc : Nat} {Ls : Array Slot} {z : Int32} {rest : List Value} (hret : meth.sig.returnType = some .int) (hd : decode c.code pc = .ok (.ireturn, 1)) {fs : List Frame}
    (hl : ∀ (f : JFrame) (acts : List Action), f.method = m → f.locked = none → f.entered = [] → (doReturn e (T.setTop f) acts (some (.int z))).1 = T.setFrames fs) : Steps p.tables e below (T.setTop (mkF m pc Ls (.int z :: rest))) (T.setFrames fs) := by
  have hm' : T.vm.method? m = some meth := X.method'
  have hn : narrow .int (.int z) = .int z := rfl
  show Steps p.tables e below (T.setTop { method := m, pc := pc, locals := Ls, stack := _ :: rest, locked := none }) _
  jvm_step X.here [X.here.top, hx, hd, hm', hret, hn]
  first | (intro acts; rw [hl _ acts rfl rfl rfl]) | rw [hl _ _ rfl rfl rfl]
  exact Steps.refl _
end New
end Jvm.RoadKit
/- laws to paste: Road.backV, Road.codOf, Road.lenW, Road.chN, pair_says (cut by pick.py; bodies as the Statement names them) -/
namespace Jvm.Pilot.@@N@@
namespace StrChars
open Jvm Sem ClassFile Op Lib Jvm.Stand Jvm.Free.XT Jvm.Free.ALB Jvm.Free.JM Jvm.Free
open Jvm.Lib.Cold (StaticIs)
/-- a char array whose places are chars -/
def Ch (a : Addr) (A : Cell) (U : State) : Prop := Arr .char a A U ∧ Typed .char A
theorem Ch.mv {a : Addr} {A : Cell} {U U' : State} (h : Ch a A U) (hal : U.vm.Alike U'.vm) (hh : U'.heap = U.heap) : Ch a A U' := ⟨h.1.mv hal hh, h.2⟩
theorem Ch.keep {a : Addr} {A : Cell} {U U' : State} (h : Ch a A U) (hal : U.vm.Alike U'.vm) (hk : U'.heap[a]? = some A) : Ch a A U' := ⟨h.1.keep hal hk, h.2⟩
/-- what place i of a char[]'s cell holds -/
def cv (A : Cell) (i : Nat) : Int32 := match A.slots[i]? with | some (.int x) => x | _ => 0
theorem Ch.get {a : Addr} {A : Cell} {U : State} (h : Ch a A U) {i : Nat} (hi : i < A.slots.size) : A.slots[i]? = some (.int (cv A i)) := by
  have e := Array.getElem?_eq_getElem hi
  have f := h.2 i _ e
  unfold cv; rw [e]
  generalize A.slots[i] = v at f
  cases v <;> simp [fits] at f ⊢
/-- the byte that i2b leaves of a char -/
def lo8 (x : Int32) : Int32 := x.toInt8.toInt32
theorem fits_lo8 (y : Int32) : fits .byte (.int (lo8 y)) = true := by
  have h1 := y.toInt8.le_toInt
  have h2 := y.toInt8.toInt_lt
  simp only [lo8, fits, Bool.and_eq_true, decide_eq_true_eq, Int32.le_iff_toInt_le, Int8.toInt_toInt32, show (-128 : Int32).toInt = -128 from by decide, show (127 : Int32).toInt = 127 from by decide]
  omega
/-- A' is A but that each place j of lo .. hi - 1 holds f j -/
def Laid (A A' : Cell) (lo hi : Nat) (f : Nat → Value) : Prop := A'.cls = A.cls ∧ A'.vm = A.vm ∧ A'.slots.size = A.slots.size ∧ ∀ i, A'.slots[i]? = if lo ≤ i ∧ i < hi then some (f i) else A.slots[i]?
theorem Laid.zero (A : Cell) (lo : Nat) (f : Nat → Value) : Laid A A lo (lo + 0) f := ⟨rfl, rfl, rfl, fun i => by rw [if_neg (by omega)]⟩
theorem Laid.step {A Ak : Cell} {lo k : Nat} {f : Nat → Value} {v : Value} (h : Laid A Ak lo k f) (hlo : lo ≤ k) (hk : k < Ak.slots.size) (hv : v = f k) : Laid A (Ak.setSlot k v) lo (k + 1) f := by
  refine ⟨h.1, h.2.1, by simpa [Cell.setSlot] using h.2.2.1, fun i => ?_⟩
  by_cases e : k = i
  · subst e; rw [Cell.slots_setSlot_self v hk, if_pos (by omega), hv]
  · rw [Cell.slots_setSlot_ne v e, h.2.2.2 i]
    by_cases q : lo ≤ i ∧ i < k
    · rw [if_pos q, if_pos (by omega)]
    · rw [if_neg q, if_neg (by omega)]
def U16 : String := "java/lang/StringUTF16"
namespace Cmp5
def yN : MethodName := ⟨"java/lang/StringUTF16", "compress", "([CI[BII)I"⟩
abbrev yB : ByteArray := jdk_52_method_21_code
theorem d0 : decode yB 0 = .ok (.iconst 0, 1) := by decide +kernel
theorem d1 : decode yB 1 = .ok (.istore 5, 2) := by decide +kernel
theorem d3 : decode yB 3 = .ok (.iload 5, 2) := by decide +kernel
theorem d5 : decode yB 5 = .ok (.iload 4, 2) := by decide +kernel
theorem d7 : decode yB 7 = .ok (.if_icmp (.ge) 37, 3) := by decide +kernel
theorem d10 : decode yB 10 = .ok (.aload_n 0, 1) := by decide +kernel
theorem d11 : decode yB 11 = .ok (.iload_n 1, 1) := by decide +kernel
theorem d12 : decode yB 12 = .ok (.caload, 1) := by decide +kernel
theorem d13 : decode yB 13 = .ok (.istore 6, 2) := by decide +kernel
theorem d15 : decode yB 15 = .ok (.iload 6, 2) := by decide +kernel
theorem d17 : decode yB 17 = .ok (.sipush 255, 3) := by decide +kernel
theorem d20 : decode yB 20 = .ok (.if_icmp (.le) 6, 3) := by decide +kernel
theorem d26 : decode yB 26 = .ok (.aload_n 2, 1) := by decide +kernel
theorem d27 : decode yB 27 = .ok (.iload_n 3, 1) := by decide +kernel
theorem d28 : decode yB 28 = .ok (.iload 6, 2) := by decide +kernel
theorem d30 : decode yB 30 = .ok (.i2b, 1) := by decide +kernel
theorem d31 : decode yB 31 = .ok (.bastore, 1) := by decide +kernel
theorem d32 : decode yB 32 = .ok (.iinc 1 1, 3) := by decide +kernel
theorem d35 : decode yB 35 = .ok (.iinc 3 1, 3) := by decide +kernel
theorem d38 : decode yB 38 = .ok (.iinc 5 1, 3) := by decide +kernel
theorem d41 : decode yB 41 = .ok (.goto (-38), 3) := by decide +kernel
theorem d44 : decode yB 44 = .ok (.iload 4, 2) := by decide +kernel
theorem d46 : decode yB 46 = .ok (.ireturn, 1) := by decide +kernel
def site : List Cond := []
def tab : Cond := tabOf yN yB 7 (some .int) site
def P (b : Addr) (A : Cell) (d : Addr) (B : Cell) (o q len : Nat) (args : Array Value) (s : State) : Prop := args = #[.ref b, .int (Int32.ofNat o), .ref d, .int (Int32.ofNat q), .int (Int32.ofNat len)] ∧ Ch b A s ∧ Arr .byte d B s ∧ b ≠ d ∧ o + len ≤ A.slots.size ∧ q + len ≤ B.slots.size ∧ ∀ i, i < len → ¬ 255 < cv A (o + i)
def E (b : Addr) (A : Cell) (d : Addr) (B : Cell) (o q len : Nat) (r : Option Value) (s u : State) : Prop := r = some (.int (Int32.ofNat len)) ∧ ∃ B', Put d B' s u ∧ Laid B B' q (q + len) (fun j => Value.int (lo8 (cv A (o + (j - q)))))
/-- no char of the range above 255: len; the places written hold each char's low byte -/
theorem law (l : Launch) (b : Addr) (A : Cell) (d : Addr) (B : Cell) (o q len : Nat) : Law l yN 5 5 0 0 yB 7 (some .int) site (P b A d B o q len) (E b A d B o q len) (copyLocs d q len) 0 0 := by
  refine Law.of_walk (plainFor_of_name (by decide +kernel)) (by decide +kernel) (by decide +kernel) (by decide) (fun _ _ h => by rw [h.1]; rfl) (fun _ U U' hal hh h => ⟨h.1, h.2.1.mv hal hh, h.2.2.1.mv hal hh, h.2.2.2⟩) (fun r U U' V V' h1 hal h2 h => ⟨h.1, h.2.elim fun B' q => ⟨B', q.1.mv h1 h2, q.2⟩⟩) ?_
  intro p e s m args below meth c s₁ X0 hexec hbytes hml hret hlk hnm hown hh0 W hP
  obtain ⟨rfl, hA, hB, hne, l1, l2, hp⟩ := hP
  have c1 : Steps p.tables e below (s₁.setTop (entryFrame m #[.ref b, .int (Int32.ofNat o), .ref d, .int (Int32.ofNat q), .int (Int32.ofNat len)] 7)) (s₁.setTop (mkF m 0 #[.val (.ref b), .val (.int (Int32.ofNat o)), .val (.ref d), .val (.int (Int32.ofNat q)), .val (.int (Int32.ofNat len)), .unset, .unset] [])) := entry rfl
  have hA0 := hA.1.mv X0.warmed.alike hh0
  have hB0 := hB.mv X0.warmed.alike hh0
  have a31 := hA.1.2.2.2
  have c2 : Steps p.tables e below (s₁.setTop (entryFrame m #[.ref b, .int (Int32.ofNat o), .ref d, .int (Int32.ofNat q), .int (Int32.ofNat len)] 7)) (s₁.setTop (mkF m 3 #[.val (.ref b), .val (.int (Int32.ofNat o)), .val (.ref d), .val (.int (Int32.ofNat q)), .val (.int (Int32.ofNat len)), .val (.int 0), .unset] [])) := c1.trans (by
    refine iconstV X0.here hexec rfl 0 (hb hbytes d0) (by decide) ?_
    refine XS.istore X0.here hexec rfl (hb hbytes d1) rfl rfl ?_
    exact Steps.refl _)
  have loop : ∀ (r i : Nat), i + r = len → ∀ (z : Slot), (z = .unset ∨ ∃ w, z = .val w ∧ w.category = 1) → ∀ (Tl : State) (Bk : Cell), Stand p l e { frames := 0, locals := 0, cells := 0, slots := 0 } s m #[.ref b, .int (Int32.ofNat o), .ref d, .int (Int32.ofNat q), .int (Int32.ofNat len)] below meth c Tl ([] ++ copyLocs d q i) 0 0 → Put d Bk s₁ Tl → Laid B Bk q (q + i) (fun j => Value.int (lo8 (cv A (o + (j - q))))) →
      Steps p.tables e below (s₁.setTop (entryFrame m #[.ref b, .int (Int32.ofNat o), .ref d, .int (Int32.ofNat q), .int (Int32.ofNat len)] 7)) (Tl.setTop (mkF m 3 #[.val (.ref b), .val (.int (Int32.ofNat (o + i))), .val (.ref d), .val (.int (Int32.ofNat (q + i))), .val (.int (Int32.ofNat len)), .val (.int (Int32.ofNat i)), z] [])) → ∃ (T' : State) (B' : Cell) (z' : Slot), Stand p l e { frames := 0, locals := 0, cells := 0, slots := 0 } s m #[.ref b, .int (Int32.ofNat o), .ref d, .int (Int32.ofNat q), .int (Int32.ofNat len)] below meth c T' ([] ++ copyLocs d q len) 0 0 ∧ Put d B' s₁ T' ∧ Laid B B' q (q + len) (fun j => Value.int (lo8 (cv A (o + (j - q))))) ∧
      Steps p.tables e below (s₁.setTop (entryFrame m #[.ref b, .int (Int32.ofNat o), .ref d, .int (Int32.ofNat q), .int (Int32.ofNat len)] 7)) (T'.setTop (mkF m 3 #[.val (.ref b), .val (.int (Int32.ofNat (o + len))), .val (.ref d), .val (.int (Int32.ofNat (q + len))), .val (.int (Int32.ofNat len)), .val (.int (Int32.ofNat len)), z'] [])) := by
    intro r
    induction r with
    | zero =>
      intro i hi z hz Tl Bk Xl pl fl cl
      have hil : i = len := by omega
      rw [hil] at Xl fl cl
      exact ⟨Tl, Bk, z, Xl, pl, fl, cl⟩
    | succ r ih =>
      intro i hi z hz Tl Bk Xl pl fl cl
      have all := X0.warmed.alike.symm.trans Xl.warmed.alike
      have hAl := hA0.keep all (pl.other hne hA0.1)
      have hBk := hB0.like all pl.1 fl.1 fl.2.1 fl.2.2.1
      have hlt : q + i < Bk.slots.size := by rw [fl.2.2.1]; omega
      have c3 : Steps p.tables e below (s₁.setTop (entryFrame m #[.ref b, .int (Int32.ofNat o), .ref d, .int (Int32.ofNat q), .int (Int32.ofNat len)] 7)) (Tl.setTop (mkF m 12 #[.val (.ref b), .val (.int (Int32.ofNat (o + i))), .val (.ref d), .val (.int (Int32.ofNat (q + i))), .val (.int (Int32.ofNat len)), .val (.int (Int32.ofNat i)), z] [.int (Int32.ofNat (o + i)), .ref b])) := cl.trans (by
        refine XS.iload Xl.here hexec rfl (hb hbytes d3) rfl ?_
        refine XS.iload Xl.here hexec rfl (hb hbytes d5) rfl ?_
        refine XS.icmpNo Xl.here hexec rfl (hb hbytes d7) rfl (ii_ge_f (lt32 (by omega) (by omega))) ?_
        refine XS.aloadN Xl.here hexec rfl (hb hbytes d10) rfl rfl ?_
        refine XS.iloadN Xl.here hexec rfl (hb hbytes d11) rfl ?_
        exact Steps.refl _)
      have c4 : Steps p.tables e below (s₁.setTop (entryFrame m #[.ref b, .int (Int32.ofNat o), .ref d, .int (Int32.ofNat q), .int (Int32.ofNat len)] 7)) (Tl.setTop (mkF m 13 #[.val (.ref b), .val (.int (Int32.ofNat (o + i))), .val (.ref d), .val (.int (Int32.ofNat (q + i))), .val (.int (Int32.ofNat len)), .val (.int (Int32.ofNat i)), z] [.int (cv A (o + i))])) := c3.trans (by
        refine Xl.aget hexec hAl rfl (hA.get (i := o + i) (by omega)) rfl rfl (hb hbytes d12) ?_
        exact Steps.refl _)
      have c5 : Steps p.tables e below (s₁.setTop (entryFrame m #[.ref b, .int (Int32.ofNat o), .ref d, .int (Int32.ofNat q), .int (Int32.ofNat len)] 7)) (Tl.setTop (mkF m 15 #[.val (.ref b), .val (.int (Int32.ofNat (o + i))), .val (.ref d), .val (.int (Int32.ofNat (q + i))), .val (.int (Int32.ofNat len)), .val (.int (Int32.ofNat i)), .val (.int (cv A (o + i)))] [])) := c4.trans (by
        refine XS.istoreS Xl.here hexec rfl (hb hbytes d13) rfl rfl hz ?_
        exact Steps.refl _)
      have c6 : Steps p.tables e below (s₁.setTop (entryFrame m #[.ref b, .int (Int32.ofNat o), .ref d, .int (Int32.ofNat q), .int (Int32.ofNat len)] 7)) (Tl.setTop (mkF m 31 #[.val (.ref b), .val (.int (Int32.ofNat (o + i))), .val (.ref d), .val (.int (Int32.ofNat (q + i))), .val (.int (Int32.ofNat len)), .val (.int (Int32.ofNat i)), .val (.int (cv A (o + i)))] [.int (lo8 (cv A (o + i))), .int (Int32.ofNat (q + i)), .ref d])) := c5.trans (by
        refine XS.iload Xl.here hexec rfl (hb hbytes d15) rfl ?_
        refine sipushV Xl.here hexec rfl 255 (hb hbytes d17) (by decide) ?_
        refine XS.icmpYes Xl.here hexec rfl (pc0 := 20) rfl (hb hbytes d20) rfl (ii_le_t (hp i (by omega))) (by decide) rfl ?_
        refine XS.aloadN Xl.here hexec rfl (hb hbytes d26) rfl rfl ?_
        refine XS.iloadN Xl.here hexec rfl (hb hbytes d27) rfl ?_
        refine XS.iload Xl.here hexec rfl (hb hbytes d28) rfl ?_
        refine i2b Xl.here hexec rfl (hb hbytes d30) rfl ?_
        exact Steps.refl _)
      obtain ⟨T7, X7, p7, st7⟩ := Xl.aput hexec hBk rfl hlt rfl (fits_lo8 (cv A (o + i))) (g := (mkF m 31 #[.val (.ref b), .val (.int (Int32.ofNat (o + i))), .val (.ref d), .val (.int (Int32.ofNat (q + i))), .val (.int (Int32.ofNat len)), .val (.int (Int32.ofNat i)), .val (.int (cv A (o + i)))] [.int (lo8 (cv A (o + i))), .int (Int32.ofNat (q + i)), .ref d])) rfl (rest := []) rfl (hb hbytes d31)
      have c8 : Steps p.tables e below (s₁.setTop (entryFrame m #[.ref b, .int (Int32.ofNat o), .ref d, .int (Int32.ofNat q), .int (Int32.ofNat len)] 7)) (T7.setTop (mkF m 32 #[.val (.ref b), .val (.int (Int32.ofNat (o + i))), .val (.ref d), .val (.int (Int32.ofNat (q + i))), .val (.int (Int32.ofNat len)), .val (.int (Int32.ofNat i)), .val (.int (cv A (o + i)))] [])) := c6.trans (st7 _ (Steps.refl _))
      have c9 : Steps p.tables e below (s₁.setTop (entryFrame m #[.ref b, .int (Int32.ofNat o), .ref d, .int (Int32.ofNat q), .int (Int32.ofNat len)] 7)) (T7.setTop (mkF m 3 #[.val (.ref b), .val (.int (Int32.ofNat (o + i) + 1)), .val (.ref d), .val (.int (Int32.ofNat (q + i) + 1)), .val (.int (Int32.ofNat len)), .val (.int (Int32.ofNat i + 1)), .val (.int (cv A (o + i)))] [])) := c8.trans (by
        refine iincV X7.here hexec rfl 1 (hb hbytes d32) (by decide) rfl rfl ?_
        refine iincV X7.here hexec rfl 1 (hb hbytes d35) (by decide) rfl rfl ?_
        refine iincV X7.here hexec rfl 1 (hb hbytes d38) (by decide) rfl rfl ?_
        refine XS.goto X7.here hexec rfl (pc0 := 41) rfl (hb hbytes d41) (by decide) rfl ?_
        exact Steps.refl _)
      have c10 : Steps p.tables e below (s₁.setTop (entryFrame m #[.ref b, .int (Int32.ofNat o), .ref d, .int (Int32.ofNat q), .int (Int32.ofNat len)] 7)) (T7.setTop (mkF m 3 #[.val (.ref b), .val (.int (Int32.ofNat (o + (i + 1)))), .val (.ref d), .val (.int (Int32.ofNat (q + (i + 1)))), .val (.int (Int32.ofNat len)), .val (.int (Int32.ofNat (i + 1))), .val (.int (cv A (o + i)))] [])) := by
        have := c9
        rw [succ32, succ32, succ32] at this
        exact this
      exact ih (i + 1) (by omega) _ (Or.inr ⟨_, rfl, rfl⟩) T7 _ (by rw [copyLocs_step, ← List.append_assoc]; exact X7) (pl.trans p7) (fl.step (by omega) hlt (by simp)) c10
  obtain ⟨T9, B9, z9, X9, p9, f9, g9⟩ := loop len 0 (by omega) .unset (Or.inl rfl) s₁ B (by simpa [copyLocs] using X0) ⟨hB0.1, fun _ _ => rfl, rfl⟩ (Laid.zero _ _ _) c2
  have c11 : Steps p.tables e below (s₁.setTop (entryFrame m #[.ref b, .int (Int32.ofNat o), .ref d, .int (Int32.ofNat q), .int (Int32.ofNat len)] 7)) (T9.setTop (mkF m 46 #[.val (.ref b), .val (.int (Int32.ofNat (o + len))), .val (.ref d), .val (.int (Int32.ofNat (q + len))), .val (.int (Int32.ofNat len)), .val (.int (Int32.ofNat len)), z9] [.int (Int32.ofNat len)])) := g9.trans (by
    refine XS.iload X9.here hexec rfl (hb hbytes d3) rfl ?_
    refine XS.iload X9.here hexec rfl (hb hbytes d5) rfl ?_
    refine XS.icmpYes X9.here hexec rfl (pc0 := 7) rfl (hb hbytes d7) rfl (ii_ge_t (nlt32 (by omega) (Nat.le_refl _))) (by decide) rfl ?_
    refine XS.iload X9.here hexec rfl (hb hbytes d44) rfl ?_
    exact Steps.refl _)
  exact ⟨T9, some (.int (Int32.ofNat len)), _, _, _, X9, by simp, rfl, rfl, (fun h => by cases h), ⟨rfl, B9, p9.from hh0, f9⟩, fun fs hl => c11.trans (X9.ireturnOut hexec hret rfl (Or.inl rfl) (hb hbytes d46) hl)⟩
end Cmp5
namespace Cmp3
def yN : MethodName := ⟨"java/lang/StringUTF16", "compress", "([CII)[B"⟩
abbrev yB : ByteArray := jdk_52_method_16_code
theorem d0 : decode yB 0 = .ok (.iload_n 2, 1) := by decide +kernel
theorem d1 : decode yB 1 = .ok (.newarray .byte, 2) := by decide +kernel
theorem d3 : decode yB 3 = .ok (.astore_n 3, 1) := by decide +kernel
theorem d4 : decode yB 4 = .ok (.aload_n 0, 1) := by decide +kernel
theorem d5 : decode yB 5 = .ok (.iload_n 1, 1) := by decide +kernel
theorem d6 : decode yB 6 = .ok (.aload_n 3, 1) := by decide +kernel
theorem d7 : decode yB 7 = .ok (.iconst 0, 1) := by decide +kernel
theorem d8 : decode yB 8 = .ok (.iload_n 2, 1) := by decide +kernel
theorem d9 : decode yB 9 = .ok (.invokestatic 115, 3) := by decide +kernel
theorem d12 : decode yB 12 = .ok (.istore 4, 2) := by decide +kernel
theorem d14 : decode yB 14 = .ok (.iload 4, 2) := by decide +kernel
theorem d16 : decode yB 16 = .ok (.iload_n 2, 1) := by decide +kernel
theorem d17 : decode yB 17 = .ok (.if_icmp (.eq) 40, 3) := by decide +kernel
theorem d57 : decode yB 57 = .ok (.aload_n 3, 1) := by decide +kernel
theorem d58 : decode yB 58 = .ok (.areturn, 1) := by decide +kernel
def site : List Cond := [.arrayClass .byte, Cmp5.tab] ++ staticW U16 115 Cmp5.yN
def tab : Cond := tabOf yN yB 6 (some (.array .byte)) site
def P (b : Addr) (A : Cell) (o len : Nat) (args : Array Value) (s : State) : Prop := args = #[.ref b, .int (Int32.ofNat o), .int (Int32.ofNat len)] ∧ Ch b A s ∧ o + len ≤ A.slots.size ∧ len ≤ 536870912 ∧ ∀ i, i < len → ¬ 255 < cv A (o + i)
def E (b : Addr) (A : Cell) (o len : Nat) (r : Option Value) (s u : State) : Prop := NewArr .byte "[B" len (fun j => .int (lo8 (cv A (o + j)))) r s u ∧ u.heap.size = s.heap.size + 1
/-- no char of the range above 255: a new byte[] of their low bytes -/
theorem law (l : Launch) (b : Addr) (A : Cell) (o len : Nat) : Law l yN 3 3 1 18 yB 6 (some (.array .byte)) site (P b A o len) (E b A o len) [] 1 len := by
  refine Law.of_walk (plainFor_of_name (by decide +kernel)) (by decide +kernel) (by decide +kernel) (by decide) (fun _ _ h => by rw [h.1]; rfl) (fun _ U U' hal hh h => ⟨h.1, h.2.1.mv hal hh, h.2.2⟩) (fun r U U' V V' h1 hal h2 h => ⟨NewArr.mv r U U' V V' h1 hal h2 h.1, by rw [h1, h2]; exact h.2⟩) ?_
  intro p e s m args below meth c s₁ X0 hexec hbytes hml hret hlk hnm hown hh0 W hP
  obtain ⟨rfl, hA, l1, l2, hp⟩ := hP
  have a31 := hA.1.2.2.2
  have c1 : Steps p.tables e below (s₁.setTop (entryFrame m #[.ref b, .int (Int32.ofNat o), .int (Int32.ofNat len)] 6)) (s₁.setTop (mkF m 0 #[.val (.ref b), .val (.int (Int32.ofNat o)), .val (.int (Int32.ofNat len)), .unset, .unset, .unset] [])) := entry rfl
  have c2 : Steps p.tables e below (s₁.setTop (entryFrame m #[.ref b, .int (Int32.ofNat o), .int (Int32.ofNat len)] 6)) (s₁.setTop (mkF m 1 #[.val (.ref b), .val (.int (Int32.ofNat o)), .val (.int (Int32.ofNat len)), .unset, .unset, .unset] [.int (Int32.ofNat len)])) := c1.trans (by
    refine XS.iloadN X0.here hexec rfl (hb hbytes d0) rfl ?_
    exact Steps.refl _)
  obtain ⟨T3, B3, X3, ba3, bs3, bv3, bh3, bf3, st3⟩ := X0.anew hexec (atype := .byte) (wk W (.arrayClass .byte)) rfl (by show len * 1 ≤ _; omega) (by omega) (g := (mkF m 1 #[.val (.ref b), .val (.int (Int32.ofNat o)), .val (.int (Int32.ofNat len)), .unset, .unset, .unset] [.int (Int32.ofNat len)])) rfl (hb hbytes d1) (rest := []) rfl (Nat.le_refl _) (by show 0 + len ≤ len; omega)
  rw [hh0] at ba3 st3
  have kp3 : XT.Kept s T3 := (XT.Kept.of_eq hh0).push bh3
  have hA3 := hA.keep X3.warmed.alike (kp3 _ _ hA.1.1)
  have hne : b ≠ s.heap.size := hA.1.ne
  have c4 : Steps p.tables e below (s₁.setTop (entryFrame m #[.ref b, .int (Int32.ofNat o), .int (Int32.ofNat len)] 6)) (T3.setTop (mkF m 3 #[.val (.ref b), .val (.int (Int32.ofNat o)), .val (.int (Int32.ofNat len)), .unset, .unset, .unset] [.ref s.heap.size])) := c2.trans (st3 _ (Steps.refl _))
  have c5 : Steps p.tables e below (s₁.setTop (entryFrame m #[.ref b, .int (Int32.ofNat o), .int (Int32.ofNat len)] 6)) (T3.setTop (mkF m 9 #[.val (.ref b), .val (.int (Int32.ofNat o)), .val (.int (Int32.ofNat len)), .val (.ref s.heap.size), .unset, .unset] [.int (Int32.ofNat len), .int 0, .ref s.heap.size, .int (Int32.ofNat o), .ref b])) := c4.trans (by
    refine XS.astoreN X3.here hexec rfl (hb hbytes d3) rfl rfl rfl ?_
    refine XS.aloadN X3.here hexec rfl (hb hbytes d4) rfl rfl ?_
    refine XS.iloadN X3.here hexec rfl (hb hbytes d5) rfl ?_
    refine XS.aloadN X3.here hexec rfl (hb hbytes d6) rfl rfl ?_
    refine iconstV X3.here hexec rfl 0 (hb hbytes d7) (by decide) ?_
    refine XS.iloadN X3.here hexec rfl (hb hbytes d8) rfl ?_
    exact Steps.refl _)
  obtain ⟨v6, T6, X6, E6, g6⟩ := X3.callS hexec (Cmp5.law l b A s.heap.size B3 o 0 len) hown (wks W (staticW U16 115 Cmp5.yN)) (wk W Cmp5.tab) (W := 0) (Nat.le_of_ble_eq_true rfl) (Nat.le_of_ble_eq_true rfl) (Nat.le_refl _) (by show 0 + len + 0 ≤ len; omega) (g := (mkF m 9 #[.val (.ref b), .val (.int (Int32.ofNat o)), .val (.int (Int32.ofNat len)), .val (.ref s.heap.size), .unset, .unset] [.int (Int32.ofNat len), .int (Int32.ofNat 0), .ref s.heap.size, .int (Int32.ofNat o), .ref b])) rfl (by rw [hml]; rfl) c5 (argsL := [.ref b, .int (Int32.ofNat o), .ref s.heap.size, .int (Int32.ofNat 0), .int (Int32.ofNat len)]) (rest := []) rfl rfl (by show 2 * 0 + 0 ≤ _; decide) (hb hbytes d9) (⟨rfl, hA3, ba3, hne, l1, by rw [bs3]; simp, hp⟩)
  obtain ⟨rfl, B6, p6, f6⟩ := E6
  have c7 : Steps p.tables e below (s₁.setTop (entryFrame m #[.ref b, .int (Int32.ofNat o), .int (Int32.ofNat len)] 6)) (T6.setTop (mkF m 12 #[.val (.ref b), .val (.int (Int32.ofNat o)), .val (.int (Int32.ofNat len)), .val (.ref s.heap.size), .unset, .unset] [.int (Int32.ofNat len)])) := g6
  have c8 : Steps p.tables e below (s₁.setTop (entryFrame m #[.ref b, .int (Int32.ofNat o), .int (Int32.ofNat len)] 6)) (T6.setTop (mkF m 58 #[.val (.ref b), .val (.int (Int32.ofNat o)), .val (.int (Int32.ofNat len)), .val (.ref s.heap.size), .val (.int (Int32.ofNat len)), .unset] [.ref s.heap.size])) := c7.trans (by
    refine XS.istore X6.here hexec rfl (hb hbytes d12) rfl rfl ?_
    refine XS.iload X6.here hexec rfl (hb hbytes d14) rfl ?_
    refine XS.iloadN X6.here hexec rfl (hb hbytes d16) rfl ?_
    refine XS.icmpYes X6.here hexec rfl (pc0 := 17) rfl (hb hbytes d17) rfl (ii_eq_t rfl) (by decide) rfl ?_
    refine XS.aloadN X6.here hexec rfl (hb hbytes d57) rfl rfl ?_
    exact Steps.refl _)
  have X8 := X6.wide (L' := []) (cells' := 1) (slots' := len) (fun x hx hlt => by
    simp only [List.nil_append, copyLocs, List.mem_map, List.mem_range] at hx
    obtain ⟨i, -, rfl⟩ := hx
    exact absurd hlt (Nat.lt_irrefl _)) (Nat.le_refl _) (by omega)
  exact ⟨T6, some (.ref s.heap.size), _, _, _, X8, rfl, rfl, rfl, (fun h => by cases h), ⟨⟨rfl, B6, ba3.like (X3.warmed.alike.symm.trans X6.warmed.alike) p6.1 f6.1 f6.2.1 f6.2.2.1, f6.2.1.trans bv3, by rw [X6.warmed.alike.findClass, f6.1]; exact bf3, by rw [f6.2.2.1, bs3]; simp, fun j hj => by rw [f6.2.2.2 j, if_pos (by omega)]; rfl, kp3.put p6 (Nat.le_refl _)⟩, by rw [p6.2.2, bh3, hh0]; simp⟩, fun fs hl => c8.trans (X8.areturnOut hexec rfl hret rfl (hb hbytes d58) hl)⟩
end Cmp3
namespace CodL
def yN : MethodName := ⟨"java/lang/StringUTF16", "coderFromArrayLen", "([BI)B"⟩
abbrev yB : ByteArray := jdk_52_method_15_code
theorem d0 : decode yB 0 = .ok (.iload_n 1, 1) := by decide +kernel
theorem d1 : decode yB 1 = .ok (.aload_n 0, 1) := by decide +kernel
theorem d2 : decode yB 2 = .ok (.arraylength, 1) := by decide +kernel
theorem d3 : decode yB 3 = .ok (.isub, 1) := by decide +kernel
theorem d4 : decode yB 4 = .ok (.bipush 31, 2) := by decide +kernel
theorem d6 : decode yB 6 = .ok (.iushr, 1) := by decide +kernel
theorem d7 : decode yB 7 = .ok (.i2b, 1) := by decide +kernel
theorem d8 : decode yB 8 = .ok (.ireturn, 1) := by decide +kernel
def site : List Cond := []
def tab : Cond := tabOf yN yB 2 (some .byte) site
def P (d : Addr) (B : Cell) (args : Array Value) (s : State) : Prop := args = #[.ref d, .int (Int32.ofNat B.slots.size)] ∧ Arr .byte d B s
def E (r : Option Value) (s u : State) : Prop := XT.PureE (some (.int 0)) r s u
/-- an array as long as the number of chars: LATIN1 -/
theorem law (l : Launch) (d : Addr) (B : Cell) : Law l yN 2 2 0 0 yB 2 (some .byte) site (P d B) E [] 0 0 := by
  refine Law.of_walk (plainFor_of_name (by decide +kernel)) (by decide +kernel) (by decide +kernel) (by decide) (fun _ _ h => by rw [h.1]; rfl) (fun _ U U' hal hh h => ⟨h.1, h.2.mv hal hh⟩) (fun r U U' V V' h1 hal h2 h => XT.PureE.mv r U U' V V' h1 hal h2 h) ?_
  intro p e s m args below meth c s₁ X0 hexec hbytes hml hret hlk hnm hown hh0 W hP
  obtain ⟨rfl, hB⟩ := hP
  have hB0 := hB.mv X0.warmed.alike hh0
  have c1 : Steps p.tables e below (s₁.setTop (entryFrame m #[.ref d, .int (Int32.ofNat B.slots.size)] 2)) (s₁.setTop (mkF m 0 #[.val (.ref d), .val (.int (Int32.ofNat B.slots.size))] [])) := entry rfl
  have c2 : Steps p.tables e below (s₁.setTop (entryFrame m #[.ref d, .int (Int32.ofNat B.slots.size)] 2)) (s₁.setTop (mkF m 2 #[.val (.ref d), .val (.int (Int32.ofNat B.slots.size))] [.ref d, .int (Int32.ofNat B.slots.size)])) := c1.trans (by
    refine XS.iloadN X0.here hexec rfl (hb hbytes d0) rfl ?_
    refine XS.aloadN X0.here hexec rfl (hb hbytes d1) rfl rfl ?_
    exact Steps.refl _)
  have c3 : Steps p.tables e below (s₁.setTop (entryFrame m #[.ref d, .int (Int32.ofNat B.slots.size)] 2)) (s₁.setTop (mkF m 8 #[.val (.ref d), .val (.int (Int32.ofNat B.slots.size))] [.int (lo8 (ushr (Int32.ofNat B.slots.size - Int32.ofNat B.slots.size) 31))])) := c2.trans (by
    refine X0.alen hexec hB0 rfl rfl (hb hbytes d2) ?_
    refine XS.isub X0.here hexec rfl (hb hbytes d3) rfl ?_
    refine bipushV X0.here hexec rfl 31 (hb hbytes d4) (by decide) ?_
    refine iushr X0.here hexec rfl (hb hbytes d6) rfl ?_
    refine i2b X0.here hexec rfl (hb hbytes d7) rfl ?_
    exact Steps.refl _)
  have e0 : lo8 (ushr (Int32.ofNat B.slots.size - Int32.ofNat B.slots.size) 31) = 0 := by rw [Int32.sub_self]; decide
  rw [e0] at c3
  exact ⟨s₁, some (.int 0), _, _, _, X0, rfl, rfl, rfl, (fun h => by cases h), ⟨rfl, hh0⟩, fun fs hl => c3.trans (X0.ireturnOut hexec hret rfl (Or.inr (Or.inr (Or.inl rfl))) (hb hbytes d8) hl)⟩
end CodL
/-- the String at a is Latin-1 over a new byte[] (the heap's one new cell): the low bytes of the len chars of A from o on; every cell but a is kept -/
def Got (a : Addr) (D : Cell) (fV fC : Field) (A : Cell) (o len : Nat) (r : Option Value) (s u : State) : Prop := r = none ∧ ∃ D' V : Cell, Blank "java/lang/String" a D' u ∧ Same D D' [fV.slot, fC.slot] ∧ D'.slots[fV.slot]? = some (.ref s.heap.size) ∧ D'.slots[fC.slot]? = some (.int 0) ∧ Arr .byte s.heap.size V u ∧ V.vm = .none ∧ u.vm.findClass "[B" = some V.cls ∧ V.slots.size = len ∧ (∀ j, j < len → V.slots[j]? = some (.int (lo8 (cv A (o + j))))) ∧ (∀ (y : Addr) (c : Cell), y ≠ a → s.heap[y]? = some c → u.heap[y]? = some c) ∧ u.heap.size = s.heap.size + 1
theorem Got.mv {a : Addr} {D A : Cell} {fV fC : Field} {o len : Nat} : ∀ r (U U' V V' : State), U'.heap = U.heap → V.vm.Alike V'.vm → V'.heap = V.heap → Got a D fV fC A o len r U V → Got a D fV fC A o len r U' V' :=
  fun r U U' V V' h1 hal h2 ⟨e0, D', X, a1, a2, a3, a4, a5, a6, a7, a8, a9, a10, a11⟩ => ⟨e0, D', X, a1.mv hal h2, a2, by rw [h1]; exact a3, a4, by rw [h1]; exact a5.mv hal h2, a6, by rw [hal.findClass]; exact a7, a8, a9, by rw [h1, h2]; exact a10, by rw [h1, h2]; exact a11⟩
namespace New4
def yN : MethodName := ⟨"java/lang/String", "<init>", "([CIILjava/lang/Void;)V"⟩
abbrev yB : ByteArray := jdk_42_method_149_code
theorem d0 : decode yB 0 = .ok (.aload_n 0, 1) := by decide +kernel
theorem d1 : decode yB 1 = .ok (.invokespecial 1, 3) := by decide +kernel
theorem d4 : decode yB 4 = .ok (.iload_n 3, 1) := by decide +kernel
theorem d5 : decode yB 5 = .ok (.ifCond (.ne) 22, 3) := by decide +kernel
theorem d27 : decode yB 27 = .ok (.getstatic 38, 3) := by decide +kernel
theorem d30 : decode yB 30 = .ok (.ifCond (.eq) 28, 3) := by decide +kernel
theorem d33 : decode yB 33 = .ok (.aload_n 1, 1) := by decide +kernel
theorem d34 : decode yB 34 = .ok (.iload_n 2, 1) := by decide +kernel
theorem d35 : decode yB 35 = .ok (.iload_n 3, 1) := by decide +kernel
theorem d36 : decode yB 36 = .ok (.invokestatic 177, 3) := by decide +kernel
theorem d39 : decode yB 39 = .ok (.astore 5, 2) := by decide +kernel
theorem d41 : decode yB 41 = .ok (.aload_n 0, 1) := by decide +kernel
theorem d42 : decode yB 42 = .ok (.aload 5, 2) := by decide +kernel
theorem d44 : decode yB 44 = .ok (.iload_n 3, 1) := by decide +kernel
theorem d45 : decode yB 45 = .ok (.invokestatic 47, 3) := by decide +kernel
theorem d48 : decode yB 48 = .ok (.putfield 15, 3) := by decide +kernel
theorem d51 : decode yB 51 = .ok (.aload_n 0, 1) := by decide +kernel
theorem d52 : decode yB 52 = .ok (.aload 5, 2) := by decide +kernel
theorem d54 : decode yB 54 = .ok (.putfield 9, 3) := by decide +kernel
theorem d57 : decode yB 57 = .ok (.return_, 1) := by decide +kernel
def site : List Cond := [.fieldLink "java/lang/String" 38 "java/lang/String" "COMPACT_STRINGS" "Z", Cmp3.tab, CodL.tab, .laysFinal "java/lang/String" "java/lang/String" "value" "[B", .fieldLink "java/lang/String" 9 "java/lang/String" "value" "[B", .laysFinal "java/lang/String" "java/lang/String" "coder" "B", .fieldLink "java/lang/String" 15 "java/lang/String" "coder" "B"] ++ objW "java/lang/String" 1 ++ staticW "java/lang/String" 177 Cmp3.yN ++ staticW "java/lang/String" 47 CodL.yN
def tab : Cond := tabOf yN yB 6 none site
def P (a : Addr) (D : Cell) (fV fC : Field) (b : Addr) (A : Cell) (z : Int32) (o len : Nat) (args : Array Value) (s : State) : Prop := args = #[.ref a, .ref b, .int (Int32.ofNat o), .int (Int32.ofNat len), .null] ∧ Blank "java/lang/String" a D s ∧ Found "java/lang/String" "value" "[B" fV s ∧ Found "java/lang/String" "coder" "B" fC s ∧ Ch b A s ∧ StaticIs s "java/lang/String" "COMPACT_STRINGS" "Z" (.int z) ∧ ¬ z = 0 ∧ 0 < len ∧ o + len ≤ A.slots.size ∧ len ≤ 536870912 ∧ ∀ i, i < len → ¬ 255 < cv A (o + i)
def E (a : Addr) (D : Cell) (fV fC : Field) (A : Cell) (o len : Nat) (r : Option Value) (s u : State) : Prop := Got a D fV fC A o len r s u
/-- len > 0, no char of the range above 255: a Latin-1 String of their low bytes -/
theorem law (l : Launch) (a : Addr) (D : Cell) (fV fC : Field) (b : Addr) (A : Cell) (z : Int32) (o len : Nat) : Law l yN 5 4 2 35 yB 6 none site (P a D fV fC b A z o len) (E a D fV fC A o len) [⟨a, fC.slot⟩, ⟨a, fV.slot⟩] 1 len := by
  refine Law.of_walk (plainFor_of_name (by decide +kernel)) (by decide +kernel) (by decide +kernel) (by decide) (fun _ _ h => by rw [h.1]; rfl) (fun _ U U' hal hh h => ⟨h.1, h.2.1.mv hal hh, h.2.2.1.al hal, h.2.2.2.1.al hal, h.2.2.2.2.1.mv hal hh, h.2.2.2.2.2.1.there hal hh, h.2.2.2.2.2.2⟩) (fun r U U' V V' h1 hal h2 h => Got.mv r U U' V V' h1 hal h2 h) ?_
  intro p e s m args below meth c s₁ X0 hexec hbytes hml hret hlk hnm hown hh0 W hP
  obtain ⟨rfl, hB, f1, f2, hA, s1, hz, l0, l1, l2, hp⟩ := hP
  have a31 := hA.1.2.2.2
  have c1 : Steps p.tables e below (s₁.setTop (entryFrame m #[.ref a, .ref b, .int (Int32.ofNat o), .int (Int32.ofNat len), .null] 6)) (s₁.setTop (mkF m 0 #[.val (.ref a), .val (.ref b), .val (.int (Int32.ofNat o)), .val (.int (Int32.ofNat len)), .val .null, .unset] [])) := entry rfl
  have c2 : Steps p.tables e below (s₁.setTop (entryFrame m #[.ref a, .ref b, .int (Int32.ofNat o), .int (Int32.ofNat len), .null] 6)) (s₁.setTop (mkF m 1 #[.val (.ref a), .val (.ref b), .val (.int (Int32.ofNat o)), .val (.int (Int32.ofNat len)), .val .null, .unset] [.ref a])) := c1.trans (by
    refine XS.aloadN X0.here hexec rfl (hb hbytes d0) rfl rfl ?_
    exact Steps.refl _)
  obtain ⟨T3, X3, q3, st3⟩ := X0.oinit hexec hown (wks W (objW "java/lang/String" 1)) (g := (mkF m 1 #[.val (.ref a), .val (.ref b), .val (.int (Int32.ofNat o)), .val (.int (Int32.ofNat len)), .val .null, .unset] [.ref a])) rfl (by rw [hml]; rfl) (rest := []) rfl (hb hbytes d1) (W := 0) (by show 2 * 0 + 0 ≤ _; decide) (Nat.le_of_ble_eq_true rfl) (Nat.le_of_ble_eq_true rfl)
  have hh3 := q3.trans hh0
  have c4 : Steps p.tables e below (s₁.setTop (entryFrame m #[.ref a, .ref b, .int (Int32.ofNat o), .int (Int32.ofNat len), .null] 6)) (T3.setTop (mkF m 27 #[.val (.ref a), .val (.ref b), .val (.int (Int32.ofNat o)), .val (.int (Int32.ofNat len)), .val .null, .unset] [])) := (c2.trans (st3 _ (Steps.refl _))).trans (by
    refine XS.iloadN X3.here hexec rfl (hb hbytes d4) rfl ?_
    refine XS.ifYes X3.here hexec rfl (pc0 := 5) rfl (hb hbytes d5) rfl (i0_ne_t (nz32 (by omega) l0)) (by decide) rfl ?_
    exact Steps.refl _)
  obtain ⟨T5, X5, q5, st5⟩ := X3.sget hexec hown (wk W (.fieldLink "java/lang/String" 38 "java/lang/String" "COMPACT_STRINGS" "Z")) s1 (fun _ _ h => by rw [hh3]; exact h) (g := (mkF m 27 #[.val (.ref a), .val (.ref b), .val (.int (Int32.ofNat o)), .val (.int (Int32.ofNat len)), .val .null, .unset] [])) rfl (hb hbytes d27)
  have hh5 := q5.trans hh3
  have c6 : Steps p.tables e below (s₁.setTop (entryFrame m #[.ref a, .ref b, .int (Int32.ofNat o), .int (Int32.ofNat len), .null] 6)) (T5.setTop (mkF m 30 #[.val (.ref a), .val (.ref b), .val (.int (Int32.ofNat o)), .val (.int (Int32.ofNat len)), .val .null, .unset] [.int z])) := c4.trans (st5 _ (Steps.refl _))
  have c7 : Steps p.tables e below (s₁.setTop (entryFrame m #[.ref a, .ref b, .int (Int32.ofNat o), .int (Int32.ofNat len), .null] 6)) (T5.setTop (mkF m 36 #[.val (.ref a), .val (.ref b), .val (.int (Int32.ofNat o)), .val (.int (Int32.ofNat len)), .val .null, .unset] [.int (Int32.ofNat len), .int (Int32.ofNat o), .ref b])) := c6.trans (by
    refine XS.ifNo X5.here hexec rfl (hb hbytes d30) rfl (i0_eq_f hz) ?_
    refine XS.aloadN X5.here hexec rfl (hb hbytes d33) rfl rfl ?_
    refine XS.iloadN X5.here hexec rfl (hb hbytes d34) rfl ?_
    refine XS.iloadN X5.here hexec rfl (hb hbytes d35) rfl ?_
    exact Steps.refl _)
  obtain ⟨v8, T8, X8, E8, g8⟩ := X5.callS hexec (Cmp3.law l b A o len) hown (wks W (staticW "java/lang/String" 177 Cmp3.yN)) (wk W Cmp3.tab) (W := 0) (Nat.le_of_ble_eq_true rfl) (Nat.le_of_ble_eq_true rfl) (Nat.le_refl _) (by show 0 + len ≤ len; omega) (g := (mkF m 36 #[.val (.ref a), .val (.ref b), .val (.int (Int32.ofNat o)), .val (.int (Int32.ofNat len)), .val .null, .unset] [.int (Int32.ofNat len), .int (Int32.ofNat o), .ref b])) rfl (by rw [hml]; rfl) c7 (argsL := [.ref b, .int (Int32.ofNat o), .int (Int32.ofNat len)]) (rest := []) rfl rfl (by show 2 * 0 + 0 ≤ _; decide) (hb hbytes d36) (⟨rfl, hA.mv X5.warmed.alike hh5, l1, l2, hp⟩)
  obtain ⟨e8, z8⟩ := E8
  obtain ⟨rfl, N, n1, n2, n3, n4, n5, n6⟩ := NewArr.mv _ T5 s _ _ hh5.symm (Vm.Alike.refl _) rfl e8
  rw [hh5] at z8
  have hB1 := hB.keep X8.warmed.alike (n6 _ _ hB.1)
  have hne : s.heap.size ≠ a := (Nat.ne_of_lt (Array.getElem?_eq_some_iff.mp hB.1).1).symm
  have c9 : Steps p.tables e below (s₁.setTop (entryFrame m #[.ref a, .ref b, .int (Int32.ofNat o), .int (Int32.ofNat len), .null] 6)) (T8.setTop (mkF m 39 #[.val (.ref a), .val (.ref b), .val (.int (Int32.ofNat o)), .val (.int (Int32.ofNat len)), .val .null, .unset] [.ref s.heap.size])) := g8
  have c10 : Steps p.tables e below (s₁.setTop (entryFrame m #[.ref a, .ref b, .int (Int32.ofNat o), .int (Int32.ofNat len), .null] 6)) (T8.setTop (mkF m 45 #[.val (.ref a), .val (.ref b), .val (.int (Int32.ofNat o)), .val (.int (Int32.ofNat len)), .val .null, .val (.ref s.heap.size)] [.int (Int32.ofNat N.slots.size), .ref s.heap.size, .ref a])) := by
    have hc : Steps p.tables e below (s₁.setTop (entryFrame m #[.ref a, .ref b, .int (Int32.ofNat o), .int (Int32.ofNat len), .null] 6)) (T8.setTop (mkF m 45 #[.val (.ref a), .val (.ref b), .val (.int (Int32.ofNat o)), .val (.int (Int32.ofNat len)), .val .null, .val (.ref s.heap.size)] [.int (Int32.ofNat len), .ref s.heap.size, .ref a])) := c9.trans (by
      refine XS.astore X8.here hexec rfl (hb hbytes d39) rfl rfl rfl ?_
      refine XS.aloadN X8.here hexec rfl (hb hbytes d41) rfl rfl ?_
      refine XS.aload X8.here hexec rfl (hb hbytes d42) rfl rfl ?_
      refine XS.iloadN X8.here hexec rfl (hb hbytes d44) rfl ?_
      exact Steps.refl _)
    rw [n4]; exact hc
  obtain ⟨v11, T11, X11, E11, g11⟩ := X8.callS hexec (CodL.law l s.heap.size N) hown (wks W (staticW "java/lang/String" 47 CodL.yN)) (wk W CodL.tab) (W := 1) (Nat.le_of_ble_eq_true rfl) (Nat.le_of_ble_eq_true rfl) (Nat.le_refl _) (by show 0 + len + 0 ≤ len; omega) (g := (mkF m 45 #[.val (.ref a), .val (.ref b), .val (.int (Int32.ofNat o)), .val (.int (Int32.ofNat len)), .val .null, .val (.ref s.heap.size)] [.int (Int32.ofNat N.slots.size), .ref s.heap.size, .ref a])) rfl (by rw [hml]; rfl) c10 (argsL := [.ref s.heap.size, .int (Int32.ofNat N.slots.size)]) (rest := [.ref a]) rfl rfl (by show 2 * 0 + (1 + 0) ≤ _; decide) (hb hbytes d45) (⟨rfl, n1⟩)
  obtain ⟨rfl, q11⟩ := E11
  have hB11 := hB1.mv (X8.warmed.alike.symm.trans X11.warmed.alike) q11
  have c12 : Steps p.tables e below (s₁.setTop (entryFrame m #[.ref a, .ref b, .int (Int32.ofNat o), .int (Int32.ofNat len), .null] 6)) (T11.setTop (mkF m 48 #[.val (.ref a), .val (.ref b), .val (.int (Int32.ofNat o)), .val (.int (Int32.ofNat len)), .val .null, .val (.ref s.heap.size)] [.int 0, .ref a])) := g11
  obtain ⟨T13, X13, p13, bl13, sl13, st13⟩ := X11.finit hexec hown (wk W (.fieldLink "java/lang/String" 15 "java/lang/String" "coder" "B")) (Or.inr ⟨_, (wk W (.laysFinal "java/lang/String" "java/lang/String" "coder" "B"))⟩) (Or.inl ⟨rfl, hnm⟩) f2 (Or.inl rfl) hB11 (t := .byte) (by decide +kernel) rfl (g := (mkF m 48 #[.val (.ref a), .val (.ref b), .val (.int (Int32.ofNat o)), .val (.int (Int32.ofNat len)), .val .null, .val (.ref s.heap.size)] [.int 0, .ref a])) rfl (rest := []) rfl (hb hbytes d48)
  have c14 : Steps p.tables e below (s₁.setTop (entryFrame m #[.ref a, .ref b, .int (Int32.ofNat o), .int (Int32.ofNat len), .null] 6)) (T13.setTop (mkF m 54 #[.val (.ref a), .val (.ref b), .val (.int (Int32.ofNat o)), .val (.int (Int32.ofNat len)), .val .null, .val (.ref s.heap.size)] [.ref s.heap.size, .ref a])) := (c12.trans (st13 _ (Steps.refl _))).trans (by
    refine XS.aloadN X13.here hexec rfl (hb hbytes d51) rfl rfl ?_
    refine XS.aload X13.here hexec rfl (hb hbytes d52) rfl rfl ?_
    exact Steps.refl _)
  obtain ⟨T15, X15, p15, bl15, sl15, st15⟩ := X13.finit hexec hown (wk W (.fieldLink "java/lang/String" 9 "java/lang/String" "value" "[B")) (Or.inr ⟨_, (wk W (.laysFinal "java/lang/String" "java/lang/String" "value" "[B"))⟩) (Or.inl ⟨rfl, hnm⟩) f1 (Or.inl rfl) bl13 (t := (.array .byte)) (by decide +kernel) rfl (g := (mkF m 54 #[.val (.ref a), .val (.ref b), .val (.int (Int32.ofNat o)), .val (.int (Int32.ofNat len)), .val .null, .val (.ref s.heap.size)] [.ref s.heap.size, .ref a])) rfl (rest := []) rfl (hb hbytes d54)
  have c16 : Steps p.tables e below (s₁.setTop (entryFrame m #[.ref a, .ref b, .int (Int32.ofNat o), .int (Int32.ofNat len), .null] 6)) (T15.setTop (mkF m 57 #[.val (.ref a), .val (.ref b), .val (.int (Int32.ofNat o)), .val (.int (Int32.ofNat len)), .val .null, .val (.ref s.heap.size)] [])) := c14.trans (st15 _ (Steps.refl _))
  have ap := apart (Or.inr ⟨_, (wk W (.laysFinal "java/lang/String" "java/lang/String" "value" "[B"))⟩) (Or.inr ⟨_, (wk W (.laysFinal "java/lang/String" "java/lang/String" "coder" "B"))⟩) f1 f2 (t₁ := .array .byte) (t₂ := .byte) (by decide +kernel) (by decide +kernel) (by decide)
  have al := X8.warmed.alike.symm.trans X15.warmed.alike
  have n7 : T11.heap[s.heap.size]? = some N := by rw [q11]; exact n1.1
  exact ⟨T15, none, _, _, _, X15, by simp, rfl, by omega, (fun _ => rfl), ⟨rfl, _, N, bl15, ((Same.refl D _).set _ (by simp)).set _ (by simp), sl15, (Cell.slots_setSlot_ne _ ap).trans sl13, n1.keep al (p15.other hne (p13.other hne n7)), n2, by rw [al.findClass]; exact n3, n4, n5, fun y c h1 h2 => p15.other h1 (p13.other h1 (by rw [q11]; exact n6 y c h2)), by rw [p15.2.2, p13.2.2, q11]; exact z8⟩, fun fs hl => c16.trans (X15.returnOut hexec hret (hb hbytes d57) hl)⟩
end New4
namespace New1
def yN : MethodName := ⟨"java/lang/String", "<init>", "([C)V"⟩
abbrev yB : ByteArray := jdk_42_method_3_code
theorem d0 : decode yB 0 = .ok (.aload_n 0, 1) := by decide +kernel
theorem d1 : decode yB 1 = .ok (.aload_n 1, 1) := by decide +kernel
theorem d2 : decode yB 2 = .ok (.iconst 0, 1) := by decide +kernel
theorem d3 : decode yB 3 = .ok (.aload_n 1, 1) := by decide +kernel
theorem d4 : decode yB 4 = .ok (.arraylength, 1) := by decide +kernel
theorem d5 : decode yB 5 = .ok (.aconst_null, 1) := by decide +kernel
theorem d6 : decode yB 6 = .ok (.invokespecial 27, 3) := by decide +kernel
theorem d9 : decode yB 9 = .ok (.return_, 1) := by decide +kernel
def site : List Cond := [New4.tab] ++ initW "java/lang/String" 27 New4.yN
def tab : Cond := tabOf yN yB 2 none site
def P (a : Addr) (D : Cell) (fV fC : Field) (b : Addr) (A : Cell) (z : Int32) (args : Array Value) (s : State) : Prop := args = #[.ref a, .ref b] ∧ Blank "java/lang/String" a D s ∧ Found "java/lang/String" "value" "[B" fV s ∧ Found "java/lang/String" "coder" "B" fC s ∧ Ch b A s ∧ StaticIs s "java/lang/String" "COMPACT_STRINGS" "Z" (.int z) ∧ ¬ z = 0 ∧ 0 < A.slots.size ∧ A.slots.size ≤ 536870912 ∧ ∀ i, i < A.slots.size → ¬ 255 < cv A i
def E (a : Addr) (D : Cell) (fV fC : Field) (A : Cell) (r : Option Value) (s u : State) : Prop := Got a D fV fC A 0 A.slots.size r s u
/-- new String(chars), not empty, no char above 255: a Latin-1 String of their low bytes -/
theorem law (l : Launch) (a : Addr) (D : Cell) (fV fC : Field) (b : Addr) (A : Cell) (z : Int32) : Law l yN 2 1 3 52 yB 2 none site (P a D fV fC b A z) (E a D fV fC A) [⟨a, fC.slot⟩, ⟨a, fV.slot⟩] 1 A.slots.size := by
  refine Law.of_walk (plainFor_of_name (by decide +kernel)) (by decide +kernel) (by decide +kernel) (by decide) (fun _ _ h => by rw [h.1]; rfl) (fun _ U U' hal hh h => ⟨h.1, h.2.1.mv hal hh, h.2.2.1.al hal, h.2.2.2.1.al hal, h.2.2.2.2.1.mv hal hh, h.2.2.2.2.2.1.there hal hh, h.2.2.2.2.2.2⟩) (fun r U U' V V' h1 hal h2 h => Got.mv r U U' V V' h1 hal h2 h) ?_
  intro p e s m args below meth c s₁ X0 hexec hbytes hml hret hlk hnm hown hh0 W hP
  obtain ⟨rfl, hB, f1, f2, hA, s1, hz, l0, l2, hp⟩ := hP
  have c1 : Steps p.tables e below (s₁.setTop (entryFrame m #[.ref a, .ref b] 2)) (s₁.setTop (mkF m 0 #[.val (.ref a), .val (.ref b)] [])) := entry rfl
  have c2 : Steps p.tables e below (s₁.setTop (entryFrame m #[.ref a, .ref b] 2)) (s₁.setTop (mkF m 6 #[.val (.ref a), .val (.ref b)] [.null, .int (Int32.ofNat A.slots.size), .int 0, .ref b, .ref a])) := c1.trans (by
    refine XS.aloadN X0.here hexec rfl (hb hbytes d0) rfl rfl ?_
    refine XS.aloadN X0.here hexec rfl (hb hbytes d1) rfl rfl ?_
    refine iconstV X0.here hexec rfl 0 (hb hbytes d2) (by decide) ?_
    refine XS.aloadN X0.here hexec rfl (hb hbytes d3) rfl rfl ?_
    refine X0.alen hexec (hA.1.mv X0.warmed.alike hh0) rfl rfl (hb hbytes d4) ?_
    refine XS.aconstNull X0.here hexec rfl (hb hbytes d5) ?_
    exact Steps.refl _)
  obtain ⟨v3, T3, X3, E3, g3⟩ := X0.callN hexec (New4.law l a D fV fC b A z 0 A.slots.size) rfl hown (wks W (initW "java/lang/String" 27 New4.yN)) (W New4.tab (by simp only [site, List.mem_cons, List.mem_append, true_or, or_true])) (W := 0) (Nat.le_of_ble_eq_true rfl) (Nat.le_of_ble_eq_true rfl) (Nat.le_refl _) (by show 0 + A.slots.size ≤ A.slots.size; omega) (g := (mkF m 6 #[.val (.ref a), .val (.ref b)] [.null, .int (Int32.ofNat A.slots.size), .int (Int32.ofNat 0), .ref b, .ref a])) rfl (by rw [hml]; rfl) c2 (argsL := [.ref b, .int (Int32.ofNat 0), .int (Int32.ofNat A.slots.size), .null]) (rest := []) rfl rfl (by show 2 * 0 + 0 ≤ _; decide) (hb hbytes d6) (⟨rfl, hB.mv X0.warmed.alike hh0, f1.al X0.warmed.alike, f2.al X0.warmed.alike, hA.mv X0.warmed.alike hh0, s1.there X0.warmed.alike hh0, hz, l0, by omega, l2, fun i hi => by rw [Nat.zero_add]; exact hp i hi⟩)
  have e0 := Got.mv _ s₁ s _ _ hh0.symm (Vm.Alike.refl _) rfl E3
  obtain rfl := e0.1
  have c4 : Steps p.tables e below (s₁.setTop (entryFrame m #[.ref a, .ref b] 2)) (T3.setTop (mkF m 9 #[.val (.ref a), .val (.ref b)] [])) := g3
  exact ⟨T3, none, _, _, _, X3, by simp, rfl, by omega, (fun _ => rfl), e0, fun fs hl => c4.trans (X3.returnOut hexec hret (hb hbytes d9) hl)⟩
theorem pays {l : Launch} {R : Room} {p : Program} {e : Env} {below : List Frame} {s : State} {sargs : Array Value} {len W : Nat} (a : Addr) (D : Cell) (fV fC : Field) (b : Addr) (A : Cell) (z : Int32) (htab : tab.before sargs s = true) (hfr : 4 ≤ R.frames) (hlo : W + 65 ≤ R.locals) :
    Back l R p e below s sargs yN len W (fun A₁ a₁ => A₁.cells + 1 ≤ R.cells ∧ A₁.slots + A.slots.size ≤ R.slots ∧ P a D fV fC b A z a₁ A₁.U) (fun A₁ _ v₁ B₁ => E a D fV fC A v₁ A₁.U B₁.U ∧ B₁.locs = A₁.locs ++ [⟨a, fC.slot⟩, ⟨a, fV.slot⟩] ∧ B₁.cells = A₁.cells + 1 ∧ B₁.slots = A₁.slots + A.slots.size) :=
  (law l a D fV fC b A z).pays htab hfr (by omega)
end New1
/-- the byte, read back as charAt reads it, is the char -/
theorem lo8_mask {x : Int32} (h0 : ¬ x < 0) (h1 : ¬ 255 < x) : lo8 x &&& 255 = x := by
  have t : ∀ k : Fin 256, lo8 (Int32.ofNat k.val) &&& 255 = Int32.ofNat k.val := by decide +kernel
  rw [Int32.lt_iff_toInt_lt] at h0 h1
  have e0 : (0 : Int32).toInt = 0 := rfl
  have e1 : (255 : Int32).toInt = 255 := rfl
  obtain ⟨k, hk⟩ : ∃ k : Nat, x.toInt = k := ⟨x.toInt.toNat, by omega⟩
  have hx : x = Int32.ofNat k := Int32.toInt_inj.mp (by rw [hk, Int32.toInt_ofNat_small (by omega)])
  rw [hx]
  exact t ⟨k, by omega⟩
end StrChars
namespace StrChars.Road
open Jvm Sem ClassFile Op Lib Jvm.Stand Jvm.Free Jvm.Free.XT
open Jvm.Lib.Cold (StaticIs)
abbrev ST : String := "java/lang/String"
/-- every table word that New1's law asks, flat -/
abbrev words : List Jvm.Cond := [.code New1.yN New1.yB 2 none, .initialized ST, .methodLink ST 27 New4.yN, .instanceMethod New4.yN,
  .code New4.yN New4.yB 6 none, .fieldLink ST 38 ST "COMPACT_STRINGS" "Z", .laysFinal ST ST "value" "[B", .fieldLink ST 9 ST "value" "[B", .laysFinal ST ST "coder" "B", .fieldLink ST 15 ST "coder" "B",
  .methodLink ST 1 Lib.objectInit, .instanceMethod Lib.objectInit, .code Lib.objectInit ⟨#[0xb1]⟩ 1 none, .methodLink ST 177 Cmp3.yN, .static Cmp3.yN, .methodLink ST 47 CodL.yN, .static CodL.yN,
  .code Cmp3.yN Cmp3.yB 6 (some (.array .byte)), .initialized U16, .arrayClass .byte, .methodLink U16 115 Cmp5.yN, .static Cmp5.yN, .code Cmp5.yN Cmp5.yB 7 (some .int), .code CodL.yN CodL.yB 2 (some .byte)]
theorem tab_of {a : Array Value} {s : State} (h : ∀ w ∈ words, w.before a s = true) : New1.tab.before a s = true := by
  have h5 : Cmp5.tab.before a s = true := unparts (wk h (.code Cmp5.yN Cmp5.yB 7 (some .int))) (wks h (.initialized Cmp5.yN.cls :: Cmp5.site))
  have hc : CodL.tab.before a s = true := unparts (wk h (.code CodL.yN CodL.yB 2 (some .byte))) (wks h (.initialized CodL.yN.cls :: CodL.site))
  have q5 : ∀ w ∈ Cmp5.tab :: words, w.before a s = true := fun w hw => (List.mem_cons.mp hw).elim (fun e => e ▸ h5) (h w)
  have h3 : Cmp3.tab.before a s = true := unparts (wk q5 (.code Cmp3.yN Cmp3.yB 6 (some (.array .byte)))) (wks q5 (.initialized Cmp3.yN.cls :: Cmp3.site))
  have q3 : ∀ w ∈ Cmp3.tab :: CodL.tab :: words, w.before a s = true := fun w hw => (List.mem_cons.mp hw).elim (fun e => e ▸ h3) fun hw => (List.mem_cons.mp hw).elim (fun e => e ▸ hc) (h w)
  have h4 : New4.tab.before a s = true := unparts (wk q3 (.code New4.yN New4.yB 6 none)) (wks q3 (.initialized New4.yN.cls :: New4.site))
  have q4 : ∀ w ∈ New4.tab :: words, w.before a s = true := fun w hw => (List.mem_cons.mp hw).elim (fun e => e ▸ h4) (h w)
  exact unparts (wk q4 (.code New1.yN New1.yB 2 none)) (wks q4 (.initialized New1.yN.cls :: New1.site))
/-- the words ride from the start Z to the walk's own state -/
theorem moved {Z s : State} {a0 args : Array Value} (hZ : Z.Warmed39 s.vm) (hw : ∀ d ∈ words, d.before a0 Z = true) : ∀ d ∈ words, d.before args s = true := fun d hd => by
  have q := hw d hd
  have t : ∀ d ∈ words, d = .arrayClass .byte ∨ (d.onTables && d.keepsFace) = true := by decide +kernel
  rcases t d hd with rfl | t
  · exact RoadKit.mvA hZ q
  · exact RoadKit.mv hZ q t
/-- WHAT COMES BACK, over the tables of the start Z: h the heap at the call, h' behind it -/
def Q (Z : State) (x : Addr) (A : Cell) (h : Heap) (v : Option Value) (h' : Heap) (L : List Loc) : Prop := v = none ∧ (∀ y ∈ L, y.base = x) ∧ RoadKit.Keep h h' [x] ∧ h'.size = h.size + 1 ∧ RoadKit.Exa Z h' x ST ∧ RoadKit.Fld Z h' x ST "value" "[B" (.ref h.size) ∧ RoadKit.Fld Z h' x ST "coder" "B" (.int 0) ∧
  (∃ V : Cell, RoadKit.Arr Z h' h.size V .byte ∧ V.vm = .none ∧ Z.vm.findClass "[B" = some V.cls ∧ V.slots.size = A.slots.size ∧ ∀ j, j < A.slots.size → V.slots[j]? = some (.int (lo8 (cv A j)))) ∧
  ∀ (O n d : String) (w : Value), RoadKit.Fld Z h x O n d w → RoadKit.slotOf Z O n d ≠ RoadKit.slotOf Z ST "value" "[B" → RoadKit.slotOf Z O n d ≠ RoadKit.slotOf Z ST "coder" "B" → RoadKit.Fld Z h' x O n d w
/-- **new String(chars) AT A CALL, IN THE ROAD'S FORM**: for specialBack behind newO: x the fresh String, b the char[] with the cell A -/
theorem back {p : Program} {l : Launch} {e : Env} {R : Room} {s : State} {args : Array Value} {below : List Frame} {len W : Nat} {Z : State} {a0 : Array Value} {h : Heap} (hZ : Z.Warmed39 s.vm) (hw : ∀ d ∈ words, d.before a0 Z = true) {kI : Nat} (wi : (Jvm.Cond.instantiable ST kI).before a0 Z = true)
    {x b : Addr} {A : Cell} {z : Int32} {v0 c0 : Value} (E : RoadKit.Exa Z h x ST) (V : RoadKit.Fld Z h x ST "value" "[B" v0) (C : RoadKit.Fld Z h x ST "coder" "B" c0) (K : RoadKit.Arr Z h b A .char) (hty : Typed .char A) (S : RoadKit.Sta Z h ST "COMPACT_STRINGS" "Z" (.int z)) (hz : ¬ z = 0)
    (l0 : 0 < A.slots.size) (l2 : A.slots.size ≤ 536870912) (hp : ∀ i, i < A.slots.size → ¬ 255 < cv A i) (hfr : 4 ≤ R.frames) (hlo : W + 65 ≤ R.locals) :
    Back l R p e below s args New1.yN len W (fun P a => a = #[.ref x, .ref b] ∧ P.U.heap = h ∧ P.cells + 1 ≤ R.cells ∧ P.slots + A.slots.size ≤ R.slots)
      (fun P _ v B => ∃ L, Q Z x A h v B.U.heap L ∧ B.locs = P.locs ++ L ∧ B.cells = P.cells + 1 ∧ B.slots = P.slots + A.slots.size) := by
  intro m meth c P g ig mk a X hg hsize hdg hW hn hp'
  obtain ⟨rfl, rfl, r1, r2⟩ := hp'
  have al : Z.vm.Alike P.U.vm := hZ.alike.trans X.warmed.alike
  obtain ⟨D, cfV, kV, iV, fV, hD, gV, stV, knV, obV, asV, slV⟩ := id V
  obtain ⟨D', cfC, kC, iC, fC, hD', gC, stC, -, -, asC, slC⟩ := id C
  cases hD.symm.trans hD'
  obtain ⟨D2, kD, e1, e2, e3, e4, e5⟩ := id E
  cases hD.symm.trans e1
  obtain ⟨c2, k2, i1, i2, i3, -⟩ := Cond.instantiable_spec wi
  cases e2.symm.trans i1
  cases e3.symm.trans i2
  obtain ⟨kU, u1, u2⟩ := al.2.2 _ _ e3
  have hB : Blank ST x D P.U := ⟨hD, ⟨knV, fun q hq => by rw [hq] at obV; cases obV⟩, by rw [al.findClass]; exact e2, kU, u1, by rw [u2]; exact i3, by rw [u2]; exact e5 i3⟩
  have F1 : Found ST "value" "[B" fV P.U := ⟨SBG.found_only al ⟨cfV, kV, iV, gV⟩, stV⟩
  have F2 : Found ST "coder" "B" fC P.U := ⟨SBG.found_only al ⟨cfC, kC, iC, gC⟩, stC⟩
  have hA : Ch b A P.U := ⟨⟨K.1, State.isArrayOf_alike al K.2.1, K.2.2, by omega⟩, hty⟩
  have hS : StaticIs P.U ST "COMPACT_STRINGS" "Z" (.int z) := by
    obtain ⟨cfS, iS, kS, fS, st, cS, t1, t2, t3, t4, t5, t6, t7⟩ := S
    exact StaticIs.there (s := { Z with heap := P.U.heap }) ⟨cfS, iS, kS, fS, st, cS, t1, t2, t3, t4, t5, (fun q => by rw [q] at t6; cases t6), t7⟩ al rfl
  obtain ⟨v, B, X', ⟨⟨hv, E', V', q1, q2, q3, q4, q5, q6, q7, q8, q9, q10, q11⟩, hl, hc, hs⟩, st⟩ := New1.pays x D fV fC b A z (tab_of (moved hZ hw)) hfr hlo m meth c P g ig mk _ X hg hsize hdg hW hn ⟨r1, r2, rfl, hB, F1, F2, hA, hS, hz, l0, l2, hp⟩
  have al' : Z.vm.Alike B.U.vm := hZ.alike.trans X'.warmed.alike
  have hsz : E'.slots.size = D.slots.size := by
    obtain ⟨-, -, -, kB, w1, w2, w3⟩ := q1
    obtain ⟨kB', y1, y2⟩ := al'.2.2 _ _ e3
    rw [q2.2.1] at w1
    cases w1.symm.trans y1
    rw [w3, e5 i3, y2]
  refine ⟨v, B, X', ⟨_, ⟨hv, ?_, ⟨by omega, fun y cy hy hn' => q10 y cy (by simpa using hn') hy, fun y cy hy => ?_⟩, q11, ⟨E', _, q1.1, by rw [q2.2.1]; exact e2, by rw [q2.2.1]; exact e3, by rw [q2.1]; exact obV, fun _ => by rw [hsz]; exact e5 i3⟩,
    ⟨E', cfV, kV, iV, fV, q1.1, gV, stV, by rw [q2.1]; exact knV, by rw [q2.1]; exact obV, by rw [q2.2.1]; exact asV, q3⟩, ⟨E', cfC, kC, iC, fC, q1.1, gC, stC, by rw [q2.1]; exact knV, by rw [q2.1]; exact obV, by rw [q2.2.1]; exact asC, q4⟩,
    ⟨V', ⟨q5.1, State.isArrayOf_alike al'.symm q5.2.1, q5.2.2.1⟩, q6, by rw [← al'.findClass]; exact q7, q8, fun j hj => by have := q9 j hj; rwa [Nat.zero_add] at this⟩, fun O n d w F n1 n2 => ?_⟩, hl, hc, hs⟩, st⟩
  · intro y hy
    simp only [List.mem_cons, List.not_mem_nil, or_false] at hy
    rcases hy with rfl | rfl <;> rfl
  · by_cases q : y = x
    · subst q
      cases hD.symm.trans hy
      exact ⟨E', q1.1, q2.2.1, q2.1, hsz⟩
    · exact ⟨cy, q10 y cy q hy, rfl, rfl, rfl⟩
  · obtain ⟨D3, cf, k, i, f, g1, g2, g3, g4, g5, g6, g7⟩ := F
    cases hD.symm.trans g1
    simp only [RoadKit.slotOf, g2, gV, gC, Option.map_some, Option.getD_some] at n1 n2
    exact ⟨E', cf, k, i, f, q1.1, g2, g3, by rw [q2.1]; exact g4, by rw [q2.1]; exact g5, by rw [q2.2.1]; exact g6, by rw [q2.2.2 f.slot (by simp [n1, n2])]; exact g7⟩
end StrChars.Road
namespace StrChars.Road
open Jvm Sem ClassFile Op Lib Jvm.Stand Jvm.Free Jvm.Free.XT
/-- WHAT COMES BACK, the byte[] as a list of values -/
def QA (Z : State) (x : Addr) (zn : Int32) (cs : List Int32) (h : Heap) (v : Option Value) (h' : Heap) (L : List Loc) : Prop := v = none ∧ (∀ y ∈ L, y.base = x) ∧ RoadKit.Keep h h' [x] ∧ h'.size = h.size + 1 ∧ RoadKit.Exa Z h' x ST ∧ RoadKit.Fld Z h' x ST "value" "[B" (.ref h.size) ∧ RoadKit.Fld Z h' x ST "coder" "B" (.int 0) ∧
  (∃ kb, Z.vm.findClass "[B" = some kb ∧ RoadKit.Arv Z h' h.size kb .byte zn (cs.map fun c => .int (lo8 c)) (.int 0)) ∧
  ∀ (O n d : String) (w : Value), RoadKit.Fld Z h x O n d w → RoadKit.slotOf Z O n d ≠ RoadKit.slotOf Z ST "value" "[B" → RoadKit.slotOf Z O n d ≠ RoadKit.slotOf Z ST "coder" "B" → RoadKit.Fld Z h' x O n d w
/-- **new String(chars) AT A CALL, THE ARRAYS AS LISTS**: the char[] at b holds cs, not empty, no char above 255 -/
theorem backArv {p : Program} {l : Launch} {e : Env} {R : Room} {s : State} {args : Array Value} {below : List Frame} {len W : Nat} {Z : State} {a0 : Array Value} {h : Heap} (hZ : Z.Warmed39 s.vm) (hw : ∀ d ∈ words, d.before a0 Z = true) {kI : Nat} (wi : (Jvm.Cond.instantiable ST kI).before a0 Z = true)
    {x b : Addr} {k : ClassId} {zn z : Int32} {cs : List Int32} {dv v0 c0 : Value} (E : RoadKit.Exa Z h x ST) (V : RoadKit.Fld Z h x ST "value" "[B" v0) (C : RoadKit.Fld Z h x ST "coder" "B" c0) (K : RoadKit.Arv Z h b k .char zn (cs.map Value.int) dv) (S : RoadKit.Sta Z h ST "COMPACT_STRINGS" "Z" (.int z)) (hz : ¬ z = 0)
    (hlen : zn.toNatClampNeg = cs.length) (h0 : 0 < cs.length) (hbig : cs.length ≤ 536870912) (hall : ∀ c ∈ cs, ¬ 255 < c) (hfr : 4 ≤ R.frames) (hlo : W + 65 ≤ R.locals) :
    Back l R p e below s args New1.yN len W (fun P a => a = #[.ref x, .ref b] ∧ P.U.heap = h ∧ P.cells + 1 ≤ R.cells ∧ P.slots + cs.length ≤ R.slots)
      (fun P _ v B => ∃ L, QA Z x zn cs h v B.U.heap L ∧ B.locs = P.locs ++ L ∧ B.cells = P.cells + 1 ∧ B.slots = P.slots + cs.length) := by
  obtain ⟨A, K1, K2, K3, K4, K5, K6⟩ := K
  have e : A.slots.size = cs.length := K3.trans hlen
  have hat : ∀ (i : Nat) (hi : i < cs.length), A.slots[i]? = some (.int cs[i]) := fun i hi => by rw [K5 i (by omega)]; simp [List.getD_eq_getElem?_getD, hi]
  have hcv : ∀ (i : Nat) (hi : i < cs.length), cv A i = cs[i] := fun i hi => by unfold cv; rw [hat i hi]
  have hty : Typed .char A := fun i v hv => by
    have hi : i < A.slots.size := (Array.getElem?_eq_some_iff.mp hv).1
    have q := K5 i hi
    rw [hv] at q
    rw [Option.some.inj q]
    exact K6 i hi
  refine Back.mono (back hZ hw wi E V C K1 hty S hz (by omega) (by omega) (fun i hi => by rw [hcv i (by omega)]; exact hall _ (List.getElem_mem _)) hfr hlo) (fun P a hp => ⟨hp.1, hp.2.1, hp.2.2.1, by rw [e]; exact hp.2.2.2⟩) (fun P a v B hp hq => ?_)
  obtain ⟨L, ⟨q1, q2, q3, q4, q5, q6, q7, ⟨V', v1, v2, v3, v4, v5⟩, q9⟩, hl, hc, hs⟩ := hq
  refine ⟨L, ⟨q1, q2, q3, q4, q5, q6, q7, ⟨V'.cls, v3, V', v1, rfl, by rw [v4, e, hlen], K4, fun i hi => ?_, fun i hi => ?_⟩, q9⟩, hl, hc, by rw [hs, e]⟩
  · have hi' : i < cs.length := by omega
    rw [v5 i (by omega), hcv i hi']; simp [List.getD_eq_getElem?_getD, hi']
  · have hi' : i < cs.length := by omega
    simp only [List.getD_eq_getElem?_getD, List.getElem?_map, List.getElem?_eq_getElem hi', Option.map_some, Option.getD_some]
    exact fits_lo8 _
end StrChars.Road
namespace StrChars.Road
open Jvm Sem ClassFile Op Lib Jvm.Stand Jvm.Free Jvm.Free.XT
/-- WHAT COMES BACK, in the writer's own shape -/
def QV (Z : State) (x : Addr) (N : Int32) (bs : List Int32) (h : Heap) (n0 : Nat) (v : Option Value) (h' : Heap) (L : List Loc) : Prop := v = none ∧ RoadKit.Fr n0 L ∧ RoadKit.Keep h h' [x] ∧ RoadKit.Exa Z h' x ST ∧ RoadKit.Fld Z h' x ST "coder" "B" (.int 0) ∧
  ∃ (t : Addr) (kb : ClassId), n0 ≤ t ∧ h.size ≤ t ∧ ¬ t = x ∧ RoadKit.Fld Z h' x ST "value" "[B" (.ref t) ∧ RoadKit.Arv Z h' t kb .byte N (bs.map Value.int) (.int 0)
/-- **new String(chars) AT A CALL, FOR THE WRITER**: a char[] of n known ints, each 0 to 255 -/
theorem backV {p : Program} {l : Launch} {e : Env} {R : Room} {s : State} {args : Array Value} {below : List Frame} {len W : Nat} {Z : State} {a0 : Array Value} {h : Heap} (hZ : Z.Warmed39 s.vm) (hw : ∀ d ∈ words, d.before a0 Z = true) {kI : Nat} (wi : (Jvm.Cond.instantiable ST kI).before a0 Z = true)
    {x b : Addr} {kC : ClassId} {cs bs : List Int32} {d v0 c0 : Value} {z N : Int32} {n n0 : Nat} (hx0 : n0 ≤ x) (hh0 : n0 ≤ h.size) (E : RoadKit.Exa Z h x ST) (V : RoadKit.Fld Z h x ST "value" "[B" v0) (C : RoadKit.Fld Z h x ST "coder" "B" c0) (K : RoadKit.Arv Z h b kC .char N (cs.map Value.int) d) (S : RoadKit.Sta Z h ST "COMPACT_STRINGS" "Z" (.int z)) (hz : ¬ z = 0)
    (hn : cs.length = n) (hN : N = Int32.ofNat n) (l0 : 0 < n) (l2 : n ≤ 4000) (hp : ∀ c ∈ cs, ¬ c < 0 ∧ ¬ (255 : Int32) < c) (hb : bs = cs.map (fun c => c.toInt8.toInt32)) (hfr : 4 ≤ R.frames) (hlo : W + 65 ≤ R.locals) :
    Back l R p e below s args (⟨"java/lang/String", "<init>", "([C)V"⟩ : MethodName) len W (fun P a => a = #[.ref x, .ref b] ∧ P.U.heap = h ∧ P.cells + 1 ≤ R.cells ∧ P.slots + n ≤ R.slots)
      (fun P _ v B => ∃ L, QV Z x N bs h n0 v B.U.heap L ∧ B.locs = P.locs ++ L ∧ B.cells = P.cells + 1 ∧ B.slots = P.slots + n) := by
  subst hn hN hb
  refine Back.mono (backArv hZ hw wi E V C K S hz (n32 (by omega)) l0 (by omega) (fun c hc => (hp c hc).2) hfr hlo) (fun P a hp => hp) (fun P a v B hp hq => ?_)
  obtain ⟨L, ⟨q1, q2, q3, q4, q5, q6, q7, ⟨kb, v1, v2⟩, q9⟩, hl, hc, hs⟩ := hq
  exact ⟨L, ⟨q1, fun y hy => by rw [q2 y hy]; exact hx0, q3, q5, q7, h.size, kb, hh0, Nat.le_refl _, Nat.ne_of_gt E.lt, q6, by rw [List.map_map]; exact v2⟩, hl, hc, hs⟩
end StrChars.Road
namespace StrChars
open Jvm Sem ClassFile Op Lib Jvm.Stand Jvm.Free.XT Jvm.Free.ALB Jvm.Free.JM Jvm.Free
open Jvm.Lib.Cold (StaticIs)
def hi8 (x : Int32) : Int32 := lo8 (x >>> ((8 : Int32) &&& 31))
/-- what StringUTF16.getChar makes of two bytes -/
def pairCh (u v : Int32) : Int32 := (((u &&& 255) <<< ((0 : Int32) &&& 31)) ||| ((v &&& 255) <<< ((8 : Int32) &&& 31))).toUInt32.toUInt16.toUInt32.toInt32
theorem shr0 (c : Int32) : c >>> ((0 : Int32) &&& 31) = c := by
  have e : ((0 : Int32) &&& 31) = 0 := by decide
  rw [e]
  apply Int32.toBitVec_inj.mp
  rw [Int32.toBitVec_shiftRight]
  have e1 : ((0 : Int32).toBitVec.smod 32) = 0#32 := by decide
  rw [e1, BitVec.sshiftRight_eq']
  exact BitVec.sshiftRight_zero
theorem lo8_and (x : Int32) : (lo8 x &&& 255).toBitVec.toNat = x.toBitVec.toNat % 256 := by
  have h : (lo8 x).toBitVec = (x.toBitVec.signExtend 8).signExtend 32 := by rw [lo8, Int8.toBitVec_toInt32, Int32.toBitVec_toInt8]
  rw [Int32.toBitVec_and, BitVec.toNat_and, h]
  have e : ((x.toBitVec.signExtend 8).signExtend 32).toNat % 256 = x.toBitVec.toNat % 256 := by
    rw [BitVec.toNat_signExtend]
    have hlt := x.toBitVec.isLt
    simp only [BitVec.toNat_setWidth, BitVec.toNat_signExtend]
    split <;> split <;> omega
  rw [← e]
  exact Nat.and_two_pow_sub_one_eq_mod _ 8
theorem pair_says {c : Int32} (h0 : ¬ c < 0) (h1 : ¬ 65535 < c) : pairCh (lo8 c) (hi8 c) = c := by
  rw [Int32.lt_iff_toInt_lt] at h0 h1
  have e0 : (0 : Int32).toInt = 0 := rfl
  have e1 : (65535 : Int32).toInt = 65535 := rfl
  have hc : c.toInt = c.toBitVec.toNat := by
    have := c.toBitVec.isLt
    have e : c.toInt = c.toBitVec.toInt := rfl
    rw [e] at h0 h1
    rw [e]
    rw [BitVec.toInt_eq_toNat_cond] at h0 h1 ⊢
    split at h0 <;> split <;> omega
  have hn : c.toBitVec.toNat < 65536 := by omega
  have a1 := lo8_and c
  have a2 : (hi8 c &&& 255).toBitVec.toNat = c.toBitVec.toNat / 256 := by
    rw [hi8, lo8_and]
    have e : ((8 : Int32) &&& 31) = 8 := by decide
    rw [e, Int32.toBitVec_shiftRight]
    have e2 : ((8 : Int32).toBitVec.smod 32) = 8#32 := by decide
    rw [e2, BitVec.sshiftRight_eq', BitVec.toNat_sshiftRight_of_msb_false (by rw [BitVec.msb_eq_false_iff_two_mul_lt]; omega)]
    show c.toBitVec.toNat >>> 8 % 256 = _
    rw [Nat.shiftRight_eq_div_pow]
    omega
  unfold pairCh
  apply Int32.toBitVec_inj.mp
  apply BitVec.eq_of_toNat_eq
  have f0 : ((0 : Int32) &&& 31) = 0 := by decide
  have f8 : ((8 : Int32) &&& 31) = 8 := by decide
  rw [f0, f8]
  have g : (((lo8 c &&& 255) <<< (0 : Int32)) ||| ((hi8 c &&& 255) <<< (8 : Int32))).toBitVec.toNat = c.toBitVec.toNat := by
    rw [Int32.toBitVec_or, Int32.toBitVec_shiftLeft, Int32.toBitVec_shiftLeft]
    have s0 : ((0 : Int32).toBitVec.smod 32) = 0#32 := by decide
    have s8 : ((8 : Int32).toBitVec.smod 32) = 8#32 := by decide
    rw [s0, s8, BitVec.toNat_or]
    simp only [BitVec.shiftLeft_eq', BitVec.toNat_shiftLeft, a1, a2]
    show (c.toBitVec.toNat % 256) <<< 0 % 2 ^ 32 ||| (c.toBitVec.toNat / 256) <<< 8 % 2 ^ 32 = _
    rw [Nat.shiftLeft_zero, Nat.mod_eq_of_lt (show c.toBitVec.toNat % 256 < 2 ^ 32 by omega), Nat.mod_eq_of_lt (show (c.toBitVec.toNat / 256) <<< 8 < 2 ^ 32 by rw [Nat.shiftLeft_eq]; omega), Nat.or_comm, ← Nat.shiftLeft_add_eq_or_of_lt (by omega), Nat.shiftLeft_eq]
    omega
  show BitVec.toNat (((((lo8 c &&& 255) <<< (0 : Int32)) ||| ((hi8 c &&& 255) <<< (8 : Int32))).toBitVec.setWidth 16).setWidth 32) = _
  rw [BitVec.toNat_setWidth, BitVec.toNat_setWidth, g]
  omega
end StrChars
namespace StrChars
open Jvm Sem ClassFile Op Lib Jvm.Stand Jvm.Free.XT Jvm.Free.ALB Jvm.Free.JM Jvm.Free
open Jvm.Lib.Cold (StaticIs)
theorem shr1 {n : Nat} (h : 2 * n < 2 ^ 31) : Int32.ofNat (2 * n) >>> ((1 : Int32) &&& 31) = Int32.ofNat n := by
  have e : ((1 : Int32) &&& 31) = 1 := by decide
  rw [e]
  apply Int32.toBitVec_inj.mp
  rw [Int32.toBitVec_shiftRight]
  have e1 : ((1 : Int32).toBitVec.smod 32) = 1#32 := by decide
  have hm : (BitVec.ofNat 32 (2 * n)).toNat = 2 * n := by rw [BitVec.toNat_ofNat, Nat.mod_eq_of_lt (by omega)]
  rw [e1, BitVec.sshiftRight_eq']
  apply BitVec.eq_of_toNat_eq
  show ((BitVec.ofNat 32 (2 * n)).sshiftRight 1).toNat = (BitVec.ofNat 32 n).toNat
  rw [BitVec.toNat_sshiftRight_of_msb_false (by rw [BitVec.msb_eq_false_iff_two_mul_lt, hm]; omega), hm, BitVec.toNat_ofNat, Nat.shiftRight_eq_div_pow]
  omega
/-- charAt's cast of a byte read back -/
def chr8 (u : Int32) : Int32 := (u &&& 255).toUInt32.toUInt16.toUInt32.toInt32
theorem chr8_lo8 {c : Int32} (h0 : ¬ c < 0) (h1 : ¬ 255 < c) : chr8 (lo8 c) = c := by
  have t : ∀ k : Fin 256, (Int32.ofNat k.val).toUInt32.toUInt16.toUInt32.toInt32 = Int32.ofNat k.val := by decide +kernel
  unfold chr8
  rw [lo8_mask h0 h1]
  rw [Int32.lt_iff_toInt_lt] at h0 h1
  have e0 : (0 : Int32).toInt = 0 := rfl
  have e1 : (255 : Int32).toInt = 255 := rfl
  obtain ⟨k, hk⟩ : ∃ k : Nat, c.toInt = k := ⟨c.toInt.toNat, by omega⟩
  have hx : c = Int32.ofNat k := Int32.toInt_inj.mp (by rw [hk, Int32.toInt_ofNat_small (by omega)])
  rw [hx]
  exact t ⟨k, by omega⟩
theorem narrow_ch {c : Int32} (h0 : ¬ c < 0) (h1 : ¬ 65535 < c) : narrow .char (.int c) = .int c := by
  have q : narrow .char (.int (pairCh (lo8 c) (hi8 c))) = .int (pairCh (lo8 c) (hi8 c)) := narrow_c _
  rwa [pair_says h0 h1] at q
/-- the array's cell V codes the n chars f 0 .. f (n - 1) by the coder cd, as the JDK does: coder 1 just where some char is above 255 -/
def Cod (cd : Int32) (n : Nat) (f : Nat → Int32) (V : Cell) : Prop := (cd = 0 ∧ V.slots.size = n ∧ ∀ j, j < n → V.slots[j]? = some (.int (lo8 (f j))) ∧ ¬ 255 < f j) ∨ (cd = 1 ∧ V.slots.size = 2 * n ∧ (∀ j, j < n → V.slots[2 * j]? = some (.int (lo8 (f j))) ∧ V.slots[2 * j + 1]? = some (.int (hi8 (f j)))) ∧ ∃ j, j < n ∧ 255 < f j)
theorem Cod.cd {cd : Int32} {n : Nat} {f : Nat → Int32} {V : Cell} (h : Cod cd n f V) : cd = 0 ∨ cd = 1 := h.imp (fun q => q.1) fun q => q.1
theorem Cod.len {cd : Int32} {n : Nat} {f : Nat → Int32} {V : Cell} (h : Cod cd n f V) (hs : V.slots.size < 2 ^ 31) : Int32.ofNat V.slots.size >>> (cd &&& 31) = Int32.ofNat n := by
  rcases h with ⟨rfl, h, -⟩ | ⟨rfl, h, -⟩
  · rw [shr0, h]
  · rw [h, shr1 (by omega)]
/-- **x is a String of the n chars f 0 .. f (n - 1)**, Latin-1 or UTF-16; its array at t has the cell V -/
def Txt (x t : Addr) (V : Cell) (cd : Int32) (n : Nat) (f : Nat → Int32) (U : State) : Prop := Exact "java/lang/String" x U ∧ Has x "java/lang/String" "value" "[B" (.ref t) U ∧ Has x "java/lang/String" "coder" "B" (.int cd) U ∧ XT.Arr .byte t V U ∧ Cod cd n f V ∧ ∀ j, j < n → ¬ f j < 0 ∧ ¬ 65535 < f j
theorem Txt.mv {x t : Addr} {V : Cell} {cd : Int32} {n : Nat} {f : Nat → Int32} {U U' : State} (h : Txt x t V cd n f U) (hal : U.vm.Alike U'.vm) (hh : U'.heap = U.heap) : Txt x t V cd n f U' := ⟨h.1.mv hal hh, h.2.1.mv hal hh, h.2.2.1.mv hal hh, h.2.2.2.1.mv hal hh, h.2.2.2.2⟩
namespace Cdr
def yN : MethodName := ⟨"java/lang/String", "coder", "()B"⟩
abbrev yB : ByteArray := jdk_42_method_152_code
theorem d0 : decode yB 0 = .ok (.getstatic 38, 3) := by decide +kernel
theorem d3 : decode yB 3 = .ok (.ifCond (.eq) 10, 3) := by decide +kernel
theorem d6 : decode yB 6 = .ok (.aload_n 0, 1) := by decide +kernel
theorem d7 : decode yB 7 = .ok (.getfield 15, 3) := by decide +kernel
theorem d10 : decode yB 10 = .ok (.goto 4, 3) := by decide +kernel
theorem d14 : decode yB 14 = .ok (.ireturn, 1) := by decide +kernel
def site : List Cond := [.fieldLink "java/lang/String" 38 "java/lang/String" "COMPACT_STRINGS" "Z", .fieldLink "java/lang/String" 15 "java/lang/String" "coder" "B"]
def tab : Cond := tabOf yN yB 1 (some .byte) site
def P (x : Addr) (cd z : Int32) (args : Array Value) (s : State) : Prop := args = #[.ref x] ∧ Has x "java/lang/String" "coder" "B" (.int cd) s ∧ (cd = 0 ∨ cd = 1) ∧ StaticIs s "java/lang/String" "COMPACT_STRINGS" "Z" (.int z) ∧ ¬ z = 0
def E (cd : Int32) (r : Option Value) (s u : State) : Prop := XT.PureE (some (.int cd)) r s u
theorem law (l : Launch) (x : Addr) (cd z : Int32) : Law l yN 1 0 0 0 yB 1 (some .byte) site (P x cd z) (E cd) [] 0 0 := by
  refine Law.of_walk (plainFor_of_name (by decide +kernel)) (by decide +kernel) (by decide +kernel) (by decide) (fun _ _ h => by rw [h.1]; rfl) (fun _ U U' hal hh h => ⟨h.1, h.2.1.mv hal hh, h.2.2.1, h.2.2.2.1.there hal hh, h.2.2.2.2⟩) (fun r U U' V V' h1 hal h2 h => XT.PureE.mv r U U' V V' h1 hal h2 h) ?_
  intro p e s m args below meth c s₁ X0 hexec hbytes hml hret hlk hnm hown hh0 W hP
  obtain ⟨rfl, hx, hc, s1, hz⟩ := hP
  have c1 : Steps p.tables e below (s₁.setTop (entryFrame m #[.ref x] 1)) (s₁.setTop (mkF m 0 #[.val (.ref x)] [])) := entry rfl
  obtain ⟨T2, X2, q2, st2⟩ := X0.sget hexec hown (wk W (.fieldLink "java/lang/String" 38 "java/lang/String" "COMPACT_STRINGS" "Z")) s1 (fun _ _ h => by rw [hh0]; exact h) (g := (mkF m 0 #[.val (.ref x)] [])) rfl (hb hbytes d0)
  have hh2 := q2.trans hh0
  have c3 : Steps p.tables e below (s₁.setTop (entryFrame m #[.ref x] 1)) (T2.setTop (mkF m 7 #[.val (.ref x)] [.ref x])) := (c1.trans (st2 _ (Steps.refl _))).trans (by
    refine XS.ifNo X2.here hexec rfl (hb hbytes d3) rfl (i0_eq_f hz) ?_
    refine XS.aloadN X2.here hexec rfl (hb hbytes d6) rfl rfl ?_
    exact Steps.refl _)
  obtain ⟨T4, X4, q4, st4⟩ := X2.hget hexec hown (wk W (.fieldLink "java/lang/String" 15 "java/lang/String" "coder" "B")) (hx.mv X2.warmed.alike hh2) (g := (mkF m 7 #[.val (.ref x)] [.ref x])) rfl (rest := []) rfl (hb hbytes d7)
  have c5 : Steps p.tables e below (s₁.setTop (entryFrame m #[.ref x] 1)) (T4.setTop (mkF m 14 #[.val (.ref x)] [.int cd])) := (c3.trans (st4 _ (Steps.refl _))).trans (by
    refine XS.goto X4.here hexec rfl (pc0 := 10) rfl (hb hbytes d10) (by decide) rfl ?_
    exact Steps.refl _)
  exact ⟨T4, some (.int cd), _, _, _, X4, rfl, rfl, rfl, (fun h => by cases h), ⟨rfl, q4.trans hh2⟩, fun fs hl => c5.trans (X4.ireturnOut hexec hret (by rcases hc with rfl | rfl <;> rfl) (Or.inr (Or.inr (Or.inl rfl))) (hb hbytes d14) hl)⟩
end Cdr
namespace Len
def yN : MethodName := ⟨"java/lang/String", "length", "()I"⟩
abbrev yB : ByteArray := jdk_42_method_54_code
theorem d0 : decode yB 0 = .ok (.aload_n 0, 1) := by decide +kernel
theorem d1 : decode yB 1 = .ok (.getfield 9, 3) := by decide +kernel
theorem d4 : decode yB 4 = .ok (.arraylength, 1) := by decide +kernel
theorem d5 : decode yB 5 = .ok (.aload_n 0, 1) := by decide +kernel
theorem d6 : decode yB 6 = .ok (.invokevirtual 335, 3) := by decide +kernel
theorem d9 : decode yB 9 = .ok (.ishr, 1) := by decide +kernel
theorem d10 : decode yB 10 = .ok (.ireturn, 1) := by decide +kernel
def site : List Cond := [.fieldLink "java/lang/String" 9 "java/lang/String" "value" "[B", Cdr.tab] ++ virtW "java/lang/String" 335 "java/lang/String" Cdr.yN Cdr.yN
def tab : Cond := tabOf yN yB 1 (some .int) site
def P (x t : Addr) (V : Cell) (cd : Int32) (n : Nat) (f : Nat → Int32) (z : Int32) (args : Array Value) (s : State) : Prop := args = #[.ref x] ∧ Txt x t V cd n f s ∧ StaticIs s "java/lang/String" "COMPACT_STRINGS" "Z" (.int z) ∧ ¬ z = 0
def E (n : Nat) (r : Option Value) (s u : State) : Prop := XT.PureE (some (.int (Int32.ofNat n))) r s u
/-- length() of a String of n chars, in either coding -/
theorem law (l : Launch) (x t : Addr) (V : Cell) (cd : Int32) (n : Nat) (f : Nat → Int32) (z : Int32) : Law l yN 1 0 1 13 yB 1 (some .int) site (P x t V cd n f z) (E n) [] 0 0 := by
  refine Law.of_walk (plainFor_of_name (by decide +kernel)) (by decide +kernel) (by decide +kernel) (by decide) (fun _ _ h => by rw [h.1]; rfl) (fun _ U U' hal hh h => ⟨h.1, h.2.1.mv hal hh, h.2.2.1.there hal hh, h.2.2.2⟩) (fun r U U' V V' h1 hal h2 h => XT.PureE.mv r U U' V V' h1 hal h2 h) ?_
  intro p e s m args below meth c s₁ X0 hexec hbytes hml hret hlk hnm hown hh0 W hP
  obtain ⟨rfl, hx, s1, hz⟩ := hP
  have v31 := hx.2.2.2.1.2.2.2
  have c1 : Steps p.tables e below (s₁.setTop (entryFrame m #[.ref x] 1)) (s₁.setTop (mkF m 1 #[.val (.ref x)] [.ref x])) := Steps.trans (entry rfl) (by
    show Steps p.tables e below (s₁.setTop (mkF m 0 #[.val (.ref x)] [])) _
    refine XS.aloadN X0.here hexec rfl (hb hbytes d0) rfl rfl ?_
    exact Steps.refl _)
  obtain ⟨T2, X2, q2, st2⟩ := X0.hget hexec hown (wk W (.fieldLink "java/lang/String" 9 "java/lang/String" "value" "[B")) (hx.mv X0.warmed.alike hh0).2.1 (g := (mkF m 1 #[.val (.ref x)] [.ref x])) rfl (rest := []) rfl (hb hbytes d1)
  have hh2 := q2.trans hh0
  have hx2 := hx.mv X2.warmed.alike hh2
  have c3 : Steps p.tables e below (s₁.setTop (entryFrame m #[.ref x] 1)) (T2.setTop (mkF m 6 #[.val (.ref x)] [.ref x, .int (Int32.ofNat V.slots.size)])) := (c1.trans (st2 _ (Steps.refl _))).trans (by
    refine X2.alen hexec hx2.2.2.2.1 rfl rfl (hb hbytes d4) ?_
    refine XS.aloadN X2.here hexec rfl (hb hbytes d5) rfl rfl ?_
    exact Steps.refl _)
  obtain ⟨v4, T4, X4, E4, g4⟩ := X2.callV hexec (Cdr.law l x cd z) hown (wks W (virtW "java/lang/String" 335 "java/lang/String" Cdr.yN Cdr.yN)) rfl (by decide) (wk W Cdr.tab) (W := 1) (Nat.le_of_ble_eq_true rfl) (Nat.le_of_ble_eq_true rfl) (Nat.le_refl _) (Nat.le_refl _) (hx2.1.fc X2.warmed.alike) hx2.1.is (g := (mkF m 6 #[.val (.ref x)] [.ref x, .int (Int32.ofNat V.slots.size)])) rfl (by rw [hml]; rfl) c3 (argsL := []) (rest := [.int (Int32.ofNat V.slots.size)]) rfl rfl (by show 2 * 0 + (1 + 0) ≤ _; decide) (hb hbytes d6) (⟨rfl, hx2.2.2.1, hx.2.2.2.2.1.cd, s1.there X2.warmed.alike hh2, hz⟩)
  obtain ⟨rfl, q4⟩ := E4
  have c5 : Steps p.tables e below (s₁.setTop (entryFrame m #[.ref x] 1)) (T4.setTop (mkF m 10 #[.val (.ref x)] [.int (Int32.ofNat V.slots.size >>> (cd &&& 31))])) := Steps.trans g4 (by
    refine ishr X4.here hexec rfl (hb hbytes d9) rfl ?_
    exact Steps.refl _)
  rw [hx.2.2.2.2.1.len v31] at c5
  exact ⟨T4, some (.int (Int32.ofNat n)), _, _, _, X4, rfl, rfl, rfl, (fun h => by cases h), ⟨rfl, q4.trans hh2⟩, fun fs hl => c5.trans (X4.ireturnOut hexec hret rfl (Or.inl rfl) (hb hbytes d10) hl)⟩
theorem pays {l : Launch} {R : Room} {p : Program} {e : Env} {below : List Frame} {s : State} {sargs : Array Value} {len W : Nat} (x t : Addr) (V : Cell) (cd : Int32) (n : Nat) (f : Nat → Int32) (z : Int32) (htab : tab.before sargs s = true) (hfr : 2 ≤ R.frames) (hlo : W + 25 ≤ R.locals) :
    Back l R p e below s sargs yN len W (fun A₁ a₁ => A₁.cells + 0 ≤ R.cells ∧ A₁.slots + 0 ≤ R.slots ∧ P x t V cd n f z a₁ A₁.U) (fun A₁ _ v₁ B₁ => E n v₁ A₁.U B₁.U ∧ B₁.locs = A₁.locs ++ [] ∧ B₁.cells = A₁.cells + 0 ∧ B₁.slots = A₁.slots + 0) :=
  (law l x t V cd n f z).pays htab hfr (by omega)
end Len
namespace IsL
def yN : MethodName := ⟨"java/lang/String", "isLatin1", "()Z"⟩
abbrev yB : ByteArray := jdk_42_method_154_code
theorem d0 : decode yB 0 = .ok (.getstatic 38, 3) := by decide +kernel
theorem d3 : decode yB 3 = .ok (.ifCond (.eq) 14, 3) := by decide +kernel
theorem d6 : decode yB 6 = .ok (.aload_n 0, 1) := by decide +kernel
theorem d7 : decode yB 7 = .ok (.getfield 15, 3) := by decide +kernel
theorem d10 : decode yB 10 = .ok (.ifCond (.ne) 7, 3) := by decide +kernel
theorem d13 : decode yB 13 = .ok (.iconst 1, 1) := by decide +kernel
theorem d14 : decode yB 14 = .ok (.goto 4, 3) := by decide +kernel
theorem d17 : decode yB 17 = .ok (.iconst 0, 1) := by decide +kernel
theorem d18 : decode yB 18 = .ok (.ireturn, 1) := by decide +kernel
def site : List Cond := [.fieldLink "java/lang/String" 38 "java/lang/String" "COMPACT_STRINGS" "Z", .fieldLink "java/lang/String" 15 "java/lang/String" "coder" "B"]
def tab : Cond := tabOf yN yB 1 (some .boolean) site
def P (x : Addr) (cd z : Int32) (args : Array Value) (s : State) : Prop := args = #[.ref x] ∧ Has x "java/lang/String" "coder" "B" (.int cd) s ∧ (cd = 0 ∨ cd = 1) ∧ StaticIs s "java/lang/String" "COMPACT_STRINGS" "Z" (.int z) ∧ ¬ z = 0
def E (cd : Int32) (r : Option Value) (s u : State) : Prop := XT.PureE (some (.int (1 - cd))) r s u
theorem law (l : Launch) (x : Addr) (cd z : Int32) : Law l yN 1 0 0 0 yB 1 (some .boolean) site (P x cd z) (E cd) [] 0 0 := by
  refine Law.of_walk (plainFor_of_name (by decide +kernel)) (by decide +kernel) (by decide +kernel) (by decide) (fun _ _ h => by rw [h.1]; rfl) (fun _ U U' hal hh h => ⟨h.1, h.2.1.mv hal hh, h.2.2.1, h.2.2.2.1.there hal hh, h.2.2.2.2⟩) (fun r U U' V V' h1 hal h2 h => XT.PureE.mv r U U' V V' h1 hal h2 h) ?_
  intro p e s m args below meth c s₁ X0 hexec hbytes hml hret hlk hnm hown hh0 W hP
  obtain ⟨rfl, hx, hc, s1, hz⟩ := hP
  have c1 : Steps p.tables e below (s₁.setTop (entryFrame m #[.ref x] 1)) (s₁.setTop (mkF m 0 #[.val (.ref x)] [])) := entry rfl
  obtain ⟨T2, X2, q2, st2⟩ := X0.sget hexec hown (wk W (.fieldLink "java/lang/String" 38 "java/lang/String" "COMPACT_STRINGS" "Z")) s1 (fun _ _ h => by rw [hh0]; exact h) (g := (mkF m 0 #[.val (.ref x)] [])) rfl (hb hbytes d0)
  have hh2 := q2.trans hh0
  have c3 : Steps p.tables e below (s₁.setTop (entryFrame m #[.ref x] 1)) (T2.setTop (mkF m 7 #[.val (.ref x)] [.ref x])) := (c1.trans (st2 _ (Steps.refl _))).trans (by
    refine XS.ifNo X2.here hexec rfl (hb hbytes d3) rfl (i0_eq_f hz) ?_
    refine XS.aloadN X2.here hexec rfl (hb hbytes d6) rfl rfl ?_
    exact Steps.refl _)
  obtain ⟨T4, X4, q4, st4⟩ := X2.hget hexec hown (wk W (.fieldLink "java/lang/String" 15 "java/lang/String" "coder" "B")) (hx.mv X2.warmed.alike hh2) (g := (mkF m 7 #[.val (.ref x)] [.ref x])) rfl (rest := []) rfl (hb hbytes d7)
  have c5 : Steps p.tables e below (s₁.setTop (entryFrame m #[.ref x] 1)) (T4.setTop (mkF m 10 #[.val (.ref x)] [.int cd])) := c3.trans (st4 _ (Steps.refl _))
  have c6 : Steps p.tables e below (s₁.setTop (entryFrame m #[.ref x] 1)) (T4.setTop (mkF m 18 #[.val (.ref x)] [.int (1 - cd)])) := by
    rcases hc with rfl | rfl
    · exact c5.trans (by
        refine XS.ifNo X4.here hexec rfl (hb hbytes d10) rfl (i0_ne_f rfl) ?_
        refine iconstV X4.here hexec rfl 1 (hb hbytes d13) (by decide) ?_
        refine XS.goto X4.here hexec rfl (pc0 := 14) rfl (hb hbytes d14) (by decide) rfl ?_
        exact Steps.refl _)
    · exact c5.trans (by
        refine XS.ifYes X4.here hexec rfl (pc0 := 10) rfl (hb hbytes d10) rfl (i0_ne_t (by decide)) (by decide) rfl ?_
        refine iconstV X4.here hexec rfl 0 (hb hbytes d17) (by decide) ?_
        exact Steps.refl _)
  exact ⟨T4, some (.int (1 - cd)), _, _, _, X4, rfl, rfl, rfl, (fun h => by cases h), ⟨rfl, q4.trans hh2⟩, fun fs hl => c6.trans (X4.ireturnOut hexec hret (by rcases hc with rfl | rfl <;> rfl) (Or.inr (Or.inl rfl)) (hb hbytes d18) hl)⟩
end IsL
namespace LChA
def yN : MethodName := ⟨"java/lang/StringLatin1", "charAt", "([BI)C"⟩
abbrev yB : ByteArray := jdk_43_method_2_code
theorem d0 : decode yB 0 = .ok (.iload_n 1, 1) := by decide +kernel
theorem d1 : decode yB 1 = .ok (.aload_n 0, 1) := by decide +kernel
theorem d2 : decode yB 2 = .ok (.arraylength, 1) := by decide +kernel
theorem d3 : decode yB 3 = .ok (.invokestatic 9, 3) := by decide +kernel
theorem d6 : decode yB 6 = .ok (.aload_n 0, 1) := by decide +kernel
theorem d7 : decode yB 7 = .ok (.iload_n 1, 1) := by decide +kernel
theorem d8 : decode yB 8 = .ok (.baload, 1) := by decide +kernel
theorem d9 : decode yB 9 = .ok (.sipush 255, 3) := by decide +kernel
theorem d12 : decode yB 12 = .ok (.iand, 1) := by decide +kernel
theorem d13 : decode yB 13 = .ok (.i2c, 1) := by decide +kernel
theorem d14 : decode yB 14 = .ok (.ireturn, 1) := by decide +kernel
def site : List Cond := [JO.Str_checkIndex.tab] ++ staticW "java/lang/StringLatin1" 9 JO.Str_checkIndex.yN
def tab : Cond := tabOf yN yB 2 (some .char) site
def P (t : Addr) (V : Cell) (i : Nat) (u : Int32) (fm : Value) (args : Array Value) (s : State) : Prop := args = #[.ref t, .int (Int32.ofNat i)] ∧ XT.Arr .byte t V s ∧ V.slots[i]? = some (.int u) ∧ (StaticIs s "jdk/internal/util/Preconditions" "SIOOBE_FORMATTER" "Ljava/util/function/BiFunction;" fm ∧ fm.isRef = true)
def E (u : Int32) (r : Option Value) (s w : State) : Prop := XT.PureE (some (.int (chr8 u))) r s w
theorem law (l : Launch) (t : Addr) (V : Cell) (i : Nat) (u : Int32) (fm : Value) : Law l yN 2 2 2 27 yB 2 (some .char) site (P t V i u fm) (E u) [] 0 0 := by
  refine Law.of_walk (plainFor_of_name (by decide +kernel)) (by decide +kernel) (by decide +kernel) (by decide) (fun _ _ h => by rw [h.1]; rfl) (fun _ U U' hal hh h => ⟨h.1, h.2.1.mv hal hh, h.2.2.1, h.2.2.2.1.there hal hh, h.2.2.2.2⟩) (fun r U U' V V' h1 hal h2 h => XT.PureE.mv r U U' V V' h1 hal h2 h) ?_
  intro p e s m args below meth c s₁ X0 hexec hbytes hml hret hlk hnm hown hh0 W hP
  obtain ⟨rfl, hV, hu, s1, rf⟩ := hP
  have v31 := hV.2.2.2
  have hi : i < V.slots.size := (Array.getElem?_eq_some_iff.mp hu).1
  have c1 : Steps p.tables e below (s₁.setTop (entryFrame m #[.ref t, .int (Int32.ofNat i)] 2)) (s₁.setTop (mkF m 0 #[.val (.ref t), .val (.int (Int32.ofNat i))] [])) := entry rfl
  have c2 : Steps p.tables e below (s₁.setTop (entryFrame m #[.ref t, .int (Int32.ofNat i)] 2)) (s₁.setTop (mkF m 3 #[.val (.ref t), .val (.int (Int32.ofNat i))] [.int (Int32.ofNat V.slots.size), .int (Int32.ofNat i)])) := c1.trans (by
    refine XS.iloadN X0.here hexec rfl (hb hbytes d0) rfl ?_
    refine XS.aloadN X0.here hexec rfl (hb hbytes d1) rfl rfl ?_
    refine X0.alen hexec (hV.mv X0.warmed.alike hh0) rfl rfl (hb hbytes d2) ?_
    exact Steps.refl _)
  obtain ⟨v3, T3, X3, E3, g3⟩ := X0.callS hexec (JO.Str_checkIndex.law l (Int32.ofNat i) (Int32.ofNat V.slots.size) fm) hown (wks W (staticW "java/lang/StringLatin1" 9 JO.Str_checkIndex.yN)) (wk W JO.Str_checkIndex.tab) (W := 0) (Nat.le_of_ble_eq_true rfl) (Nat.le_of_ble_eq_true rfl) (Nat.le_refl _) (Nat.le_refl _) (g := (mkF m 3 #[.val (.ref t), .val (.int (Int32.ofNat i))] [.int (Int32.ofNat V.slots.size), .int (Int32.ofNat i)])) rfl (by rw [hml]; rfl) c2 (argsL := [.int (Int32.ofNat i), .int (Int32.ofNat V.slots.size)]) (rest := []) rfl rfl (by show 2 * 0 + 0 ≤ _; decide) (hb hbytes d3) (⟨rfl, rf, s1.there X0.warmed.alike hh0, Int32.ofNat_not_neg (by omega), lt32 v31 hi⟩)
  obtain ⟨rfl, q3⟩ := E3
  have hh3 := q3.trans hh0
  have c4 : Steps p.tables e below (s₁.setTop (entryFrame m #[.ref t, .int (Int32.ofNat i)] 2)) (T3.setTop (mkF m 14 #[.val (.ref t), .val (.int (Int32.ofNat i))] [.int (chr8 u)])) := Steps.trans g3 (by
    refine XS.aloadN X3.here hexec rfl (hb hbytes d6) rfl rfl ?_
    refine XS.iloadN X3.here hexec rfl (hb hbytes d7) rfl ?_
    refine X3.aget hexec (hV.mv X3.warmed.alike hh3) rfl hu rfl rfl (hb hbytes d8) ?_
    refine sipushV X3.here hexec rfl 255 (hb hbytes d9) (by decide) ?_
    refine XS.iand X3.here hexec rfl (hb hbytes d12) rfl ?_
    refine i2c X3.here hexec rfl (hb hbytes d13) rfl ?_
    exact Steps.refl _)
  exact ⟨T3, some (.int (chr8 u)), _, _, _, X3, rfl, rfl, rfl, (fun h => by cases h), ⟨rfl, hh3⟩, fun fs hl => c4.trans (X3.ireturnOut hexec hret (narrow_c _) (Or.inr (Or.inr (Or.inr (Or.inl rfl)))) (hb hbytes d14) hl)⟩
end LChA
end StrChars
namespace StrChars.Road
open Jvm Sem ClassFile Op Lib Jvm.Stand Jvm.Free Jvm.Free.XT
open Jvm.Lib.Cold (StaticIs)
theorem consq {a : Array Value} {s : State} {c : Jvm.Cond} {L : List Jvm.Cond} (h0 : c.before a s = true) (h : ∀ w ∈ L, w.before a s = true) : ∀ w ∈ c :: L, w.before a s = true := fun w hw => (List.mem_cons.mp hw).elim (fun e => e ▸ h0) (h w)
/-- the words of String.length(), either coding -/
abbrev wordsLen : List Jvm.Cond := [.code Len.yN Len.yB 1 (some .int), .initialized ST, .fieldLink ST 9 ST "value" "[B", .fieldLink ST 38 ST "COMPACT_STRINGS" "Z", .fieldLink ST 15 ST "coder" "B", .code Cdr.yN Cdr.yB 1 (some .byte), .methodLink ST 335 Cdr.yN, .declares Cdr.yN, .selects ST Cdr.yN Cdr.yN, .instanceMethod Cdr.yN]
theorem tabLen_of {a : Array Value} {s : State} (h : ∀ w ∈ wordsLen, w.before a s = true) : Len.tab.before a s = true := by
  have hc : Cdr.tab.before a s = true := unparts (wk h (.code Cdr.yN Cdr.yB 1 (some .byte))) (wks h (.initialized Cdr.yN.cls :: Cdr.site))
  have q := consq hc h
  exact unparts (wk q (.code Len.yN Len.yB 1 (some .int))) (wks q (.initialized Len.yN.cls :: Len.site))
theorem movedLen {Z s : State} {a0 args : Array Value} (hZ : Z.Warmed39 s.vm) (hw : ∀ d ∈ wordsLen, d.before a0 Z = true) : ∀ d ∈ wordsLen, d.before args s = true := fun d hd => by
  have q := hw d hd
  have t : ∀ d ∈ wordsLen, d = .arrayClass .byte ∨ (d.onTables && d.keepsFace) = true := by decide +kernel
  rcases t d hd with rfl | t
  · exact RoadKit.mvA hZ q
  · exact RoadKit.mv hZ q t
/-- the bytes of the chars cs, low before high -/
def wideBytes : List Int32 → List Value
  | [] => []
  | c :: cs => .int (lo8 c) :: .int (hi8 c) :: wideBytes cs
theorem wide_lo (d : Value) : ∀ (cs : List Int32) (j : Nat), j < cs.length → (wideBytes cs).getD (2 * j) d = .int (lo8 (cs.getD j 0))
  | [], j, h => absurd h (Nat.not_lt_zero j)
  | c :: cs, 0, _ => rfl
  | c :: cs, j + 1, h => by
    have q := wide_lo d cs j (by simpa using h)
    rw [show 2 * (j + 1) = 2 * j + 1 + 1 from by omega]
    simpa [wideBytes] using q
theorem wide_hi (d : Value) : ∀ (cs : List Int32) (j : Nat), j < cs.length → (wideBytes cs).getD (2 * j + 1) d = .int (hi8 (cs.getD j 0))
  | [], j, h => absurd h (Nat.not_lt_zero j)
  | c :: cs, 0, _ => rfl
  | c :: cs, j + 1, h => by
    have q := wide_hi d cs j (by simpa using h)
    rw [show 2 * (j + 1) + 1 = 2 * j + 1 + 1 + 1 from by omega]
    simpa [wideBytes] using q
theorem low_at (d : Value) (cs : List Int32) (j : Nat) (h : j < cs.length) : (cs.map fun c => Value.int (lo8 c)).getD j d = .int (lo8 (cs.getD j 0)) := by
  simp [List.getD_eq_getElem?_getD, h]
/-- an array of N2 bytes vs codes the chars cs by the coder cd -/
def CodA (cs : List Int32) (cd N2 : Int32) (vs : List Value) : Prop := (cd = 0 ∧ N2 = Int32.ofNat cs.length ∧ vs = (cs.map fun c => Value.int (lo8 c)) ∧ ∀ c ∈ cs, ¬ 255 < c) ∨ (cd = 1 ∧ N2 = Int32.ofNat (2 * cs.length) ∧ vs = wideBytes cs ∧ ∃ c ∈ cs, 255 < c)
theorem CodA.cod {cs : List Int32} {cd N2 : Int32} {vs : List Value} {V : Cell} (h : CodA cs cd N2 vs) (hn : 2 * cs.length < 2 ^ 31) (hs : V.slots.size = N2.toNatClampNeg) (hv : RoadKit.Has V vs (.int 0)) : Cod cd cs.length (fun j => cs.getD j 0) V := by
  rcases h with ⟨rfl, rfl, rfl, h⟩ | ⟨rfl, rfl, rfl, c, hc, hw⟩
  · rw [n32 (by omega)] at hs
    exact Or.inl ⟨rfl, hs, fun j hj => ⟨by rw [hv j (by omega), low_at _ _ _ hj], by
      have e : cs.getD j 0 = cs[j] := by simp [List.getD_eq_getElem?_getD, hj]
      show ¬ 255 < cs.getD j 0
      rw [e]; exact h _ (List.getElem_mem _)⟩⟩
  · rw [n32 (by omega)] at hs
    obtain ⟨j, hj, rfl⟩ := List.getElem_of_mem hc
    exact Or.inr ⟨rfl, hs, fun j hj => ⟨by rw [hv _ (by omega), wide_lo _ _ _ hj], by rw [hv _ (by omega), wide_hi _ _ _ hj]⟩, j, hj, by
      have e : cs.getD j 0 = cs[j] := by simp [List.getD_eq_getElem?_getD, hj]
      show 255 < cs.getD j 0
      rw [e]; exact hw⟩
/-- an object of exactly java/lang/String, its two fields found: as the laws ask it -/
theorem strObj {Z U : State} {a0 : Array Value} {kI : Nat} (wi : (Jvm.Cond.instantiable ST kI).before a0 Z = true) (al : Z.vm.Alike U.vm) {x : Addr} {v0 c0 : Value} (E : RoadKit.Exa Z U.heap x ST) (V : RoadKit.Fld Z U.heap x ST "value" "[B" v0) (C : RoadKit.Fld Z U.heap x ST "coder" "B" c0) :
    ∃ (D : Cell) (fV fC : Field), Blank ST x D U ∧ Found ST "value" "[B" fV U ∧ Found ST "coder" "B" fC U ∧ D.slots[fV.slot]? = some v0 ∧ D.slots[fC.slot]? = some c0 ∧ RoadKit.slotOf Z ST "value" "[B" = fV.slot ∧ RoadKit.slotOf Z ST "coder" "B" = fC.slot := by
  obtain ⟨D, cfV, kV, iV, fV, hD, gV, stV, knV, obV, asV, slV⟩ := V
  obtain ⟨D', cfC, kC, iC, fC, hD', gC, stC, -, -, asC, slC⟩ := C
  cases hD.symm.trans hD'
  obtain ⟨D2, kD, e1, e2, e3, e4, e5⟩ := E
  cases hD.symm.trans e1
  obtain ⟨c2, k2, i1, i2, i3, -⟩ := Cond.instantiable_spec wi
  cases e2.symm.trans i1
  cases e3.symm.trans i2
  obtain ⟨kU, u1, u2⟩ := al.2.2 _ _ e3
  exact ⟨D, fV, fC, ⟨hD, ⟨knV, fun q hq => by rw [hq] at obV; cases obV⟩, by rw [al.findClass]; exact e2, kU, u1, by rw [u2]; exact i3, by rw [u2]; exact e5 i3⟩, ⟨SBG.found_only al ⟨cfV, kV, iV, gV⟩, stV⟩, ⟨SBG.found_only al ⟨cfC, kC, iC, gC⟩, stC⟩, slV, slC, by simp [RoadKit.slotOf, gV], by simp [RoadKit.slotOf, gC]⟩
theorem sta_is {Z U : State} (al : Z.vm.Alike U.vm) {C n d : String} {v : Value} (S : RoadKit.Sta Z U.heap C n d v) : StaticIs U C n d v := by
  obtain ⟨cfS, iS, kS, fS, st, cS, t1, t2, t3, t4, t5, t6, t7⟩ := S
  exact StaticIs.there (s := { Z with heap := U.heap }) ⟨cfS, iS, kS, fS, st, cS, t1, t2, t3, t4, t5, (fun q => by rw [q] at t6; cases t6), t7⟩ al rfl
/-- **length() OF SUCH A STRING** -/
theorem lenW {p : Program} {l : Launch} {e : Env} {R : Room} {s : State} {args : Array Value} {below : List Frame} {len W : Nat} {Z : State} {a0 : Array Value} {h : Heap} (hZ : Z.Warmed39 s.vm) (hw : ∀ d ∈ wordsLen, d.before a0 Z = true) {kI : Nat} (wi : (Jvm.Cond.instantiable ST kI).before a0 Z = true)
    {x t : Addr} {kb : ClassId} {cs : List Int32} {cd N2 z : Int32} {vs : List Value} (E : RoadKit.Exa Z h x ST) (V : RoadKit.Fld Z h x ST "value" "[B" (.ref t)) (C : RoadKit.Fld Z h x ST "coder" "B" (.int cd)) (K : RoadKit.Arv Z h t kb .byte N2 vs (.int 0)) (hc : CodA cs cd N2 vs) (hb : ∀ c ∈ cs, ¬ c < 0 ∧ ¬ (65535 : Int32) < c)
    (S : RoadKit.Sta Z h ST "COMPACT_STRINGS" "Z" (.int z)) (hz : ¬ z = 0) (l2 : cs.length ≤ 4000) (hfr : 2 ≤ R.frames) (hlo : W + 25 ≤ R.locals) :
    Back l R p e below s args (⟨"java/lang/String", "length", "()I"⟩ : MethodName) len W (fun P a => a = #[.ref x] ∧ P.U.heap = h ∧ P.cells + 0 ≤ R.cells ∧ P.slots + 0 ≤ R.slots)
      (fun P _ v B => ∃ L, (v = some (.int (Int32.ofNat cs.length)) ∧ L = [] ∧ B.U.heap = h) ∧ B.locs = P.locs ++ L ∧ B.cells = P.cells + 0 ∧ B.slots = P.slots + 0) := by
  obtain ⟨A, K1, K2, K3, K4, K5, K6⟩ := K
  have hcod := hc.cod (by omega) K3 K5
  intro m meth c P g ig mk a X hg hsize hdg hW hn hp'
  obtain ⟨rfl, rfl, r1, r2⟩ := hp'
  have al : Z.vm.Alike P.U.vm := hZ.alike.trans X.warmed.alike
  obtain ⟨D, fV, fC, hB, F1, F2, g1, g2, -, -⟩ := strObj wi al E V C
  have hx : Txt x t A cd cs.length (fun j => cs.getD j 0) P.U := ⟨⟨_, hB.2.2.1, D, hB.1, rfl, by cases q : D.vm <;> first | rfl | exact absurd q (hB.2.1.2 _)⟩, Has.of hB F1 g1, Has.of hB F2 g2, ⟨K1.1, State.isArrayOf_alike al K1.2.1, K1.2.2, by rcases hcod with ⟨-, q, -⟩ | ⟨-, q, -⟩ <;> omega⟩, hcod, fun j hj => by
    have e : cs.getD j 0 = cs[j] := by simp [List.getD_eq_getElem?_getD, hj]
    show ¬ cs.getD j 0 < 0 ∧ ¬ 65535 < cs.getD j 0
    rw [e]; exact hb _ (List.getElem_mem _)⟩
  obtain ⟨v, B, X', ⟨⟨hv, hh⟩, hl, hk, hs⟩, st⟩ := Len.pays x t A cd cs.length (fun j => cs.getD j 0) z (tabLen_of (movedLen hZ hw)) hfr hlo m meth c P g ig mk _ X hg hsize hdg hW hn ⟨r1, r2, rfl, hx, sta_is al S, hz⟩
  exact ⟨v, B, X', ⟨[], ⟨hv, rfl, hh⟩, hl, hk, hs⟩, st⟩
end StrChars.Road
namespace StrChars.Road
open Jvm Sem ClassFile Op Lib Jvm.Stand Jvm.Free Jvm.Free.XT
open Jvm.Lib.Cold (StaticIs)
/-- the road's facts of a String, as the laws ask it -/
theorem txt_of {Z U : State} {a0 : Array Value} {kI : Nat} (wi : (Jvm.Cond.instantiable ST kI).before a0 Z = true) (al : Z.vm.Alike U.vm) {x t : Addr} {kb : ClassId} {cs : List Int32} {cd N2 : Int32} {vs : List Value} (E : RoadKit.Exa Z U.heap x ST) (V : RoadKit.Fld Z U.heap x ST "value" "[B" (.ref t)) (C : RoadKit.Fld Z U.heap x ST "coder" "B" (.int cd)) (K : RoadKit.Arv Z U.heap t kb .byte N2 vs (.int 0)) (hc : CodA cs cd N2 vs) (hb : ∀ c ∈ cs, ¬ c < 0 ∧ ¬ (65535 : Int32) < c) (l2 : cs.length ≤ 4000) :
    ∃ A, Txt x t A cd cs.length (fun j => cs.getD j 0) U := by
  obtain ⟨A, K1, K2, K3, K4, K5, K6⟩ := K
  have hcod := hc.cod (by omega) K3 K5
  obtain ⟨D, fV, fC, hB, F1, F2, g1, g2, -, -⟩ := strObj wi al E V C
  exact ⟨A, ⟨_, hB.2.2.1, D, hB.1, rfl, by cases q : D.vm <;> first | rfl | exact absurd q (hB.2.1.2 _)⟩, Has.of hB F1 g1, Has.of hB F2 g2, ⟨K1.1, State.isArrayOf_alike al K1.2.1, K1.2.2, by rcases hcod with ⟨-, q, -⟩ | ⟨-, q, -⟩ <;> omega⟩, hcod, fun j hj => by
    have e : cs.getD j 0 = cs[j] := by simp [List.getD_eq_getElem?_getD, hj]
    show ¬ cs.getD j 0 < 0 ∧ ¬ 65535 < cs.getD j 0
    rw [e]; exact hb _ (List.getElem_mem _)⟩
end StrChars.Road
namespace StrChars
open Jvm Sem ClassFile Op Lib Jvm.Stand Jvm.Free.XT Jvm.Free.ALB Jvm.Free.JM Jvm.Free
open Jvm.Lib.Cold (StaticIs)
namespace ChN
def yN : MethodName := ⟨"java/lang/String", "charAt", "(I)C"⟩
abbrev yB : ByteArray := jdk_42_method_56_code
theorem d0 : decode yB 0 = .ok (.aload_n 0, 1) := by decide +kernel
theorem d1 : decode yB 1 = .ok (.invokevirtual 492, 3) := by decide +kernel
theorem d4 : decode yB 4 = .ok (.ifCond (.eq) 12, 3) := by decide +kernel
theorem d7 : decode yB 7 = .ok (.aload_n 0, 1) := by decide +kernel
theorem d8 : decode yB 8 = .ok (.getfield 9, 3) := by decide +kernel
theorem d11 : decode yB 11 = .ok (.iload_n 1, 1) := by decide +kernel
theorem d12 : decode yB 12 = .ok (.invokestatic 495, 3) := by decide +kernel
theorem d15 : decode yB 15 = .ok (.ireturn, 1) := by decide +kernel
def site : List Cond := [.fieldLink "java/lang/String" 9 "java/lang/String" "value" "[B", IsL.tab, LChA.tab] ++ virtW "java/lang/String" 492 "java/lang/String" IsL.yN IsL.yN ++ staticW "java/lang/String" 495 LChA.yN
def tab : Cond := tabOf yN yB 2 (some .char) site
def P (x t : Addr) (V : Cell) (n : Nat) (f : Nat → Int32) (z : Int32) (fm : Value) (i : Nat) (args : Array Value) (s : State) : Prop := args = #[.ref x, .int (Int32.ofNat i)] ∧ Txt x t V 0 n f s ∧ i < n ∧ StaticIs s "java/lang/String" "COMPACT_STRINGS" "Z" (.int z) ∧ ¬ z = 0 ∧ StaticIs s "jdk/internal/util/Preconditions" "SIOOBE_FORMATTER" "Ljava/util/function/BiFunction;" fm ∧ fm.isRef = true
def E (f : Nat → Int32) (i : Nat) (r : Option Value) (s u : State) : Prop := XT.PureE (some (.int (f i))) r s u
/-- charAt(i) of a Latin-1 String of n chars, i < n: f i -/
theorem law (l : Launch) (x t : Addr) (V : Cell) (n : Nat) (f : Nat → Int32) (z : Int32) (fm : Value) (i : Nat) : Law l yN 2 1 3 40 yB 2 (some .char) site (P x t V n f z fm i) (E f i) [] 0 0 := by
  refine Law.of_walk (plainFor_of_name (by decide +kernel)) (by decide +kernel) (by decide +kernel) (by decide) (fun _ _ h => by rw [h.1]; rfl) (fun _ U U' hal hh h => ⟨h.1, h.2.1.mv hal hh, h.2.2.1, h.2.2.2.1.there hal hh, h.2.2.2.2.1, h.2.2.2.2.2.1.there hal hh, h.2.2.2.2.2.2⟩) (fun r U U' V V' h1 hal h2 h => XT.PureE.mv r U U' V V' h1 hal h2 h) ?_
  intro p e s m args below meth c s₁ X0 hexec hbytes hml hret hlk hnm hown hh0 W hP
  obtain ⟨rfl, hx, hi, s1, hz, s3, rf⟩ := hP
  have v31 := hx.2.2.2.1.2.2.2
  have hr := hx.2.2.2.2.2 i hi
  have hx0 := hx.mv X0.warmed.alike hh0
  have c1 : Steps p.tables e below (s₁.setTop (entryFrame m #[.ref x, .int (Int32.ofNat i)] 2)) (s₁.setTop (mkF m 1 #[.val (.ref x), .val (.int (Int32.ofNat i))] [.ref x])) := Steps.trans (entry rfl) (by
    show Steps p.tables e below (s₁.setTop (mkF m 0 #[.val (.ref x), .val (.int (Int32.ofNat i))] [])) _
    refine XS.aloadN X0.here hexec rfl (hb hbytes d0) rfl rfl ?_
    exact Steps.refl _)
  obtain ⟨v2, T2, X2, E2, g2⟩ := X0.callV hexec (IsL.law l x 0 z) hown (wks W (virtW "java/lang/String" 492 "java/lang/String" IsL.yN IsL.yN)) rfl (by decide) (wk W IsL.tab) (W := 0) (Nat.le_of_ble_eq_true rfl) (Nat.le_of_ble_eq_true rfl) (Nat.le_refl _) (Nat.le_refl _) (hx0.1.fc X0.warmed.alike) hx0.1.is (g := (mkF m 1 #[.val (.ref x), .val (.int (Int32.ofNat i))] [.ref x])) rfl (by rw [hml]; rfl) c1 (argsL := []) (rest := []) rfl rfl (by show 2 * 0 + 0 ≤ _; decide) (hb hbytes d1) (⟨rfl, hx0.2.2.1, hx.2.2.2.2.1.cd, s1.there X0.warmed.alike hh0, hz⟩)
  obtain ⟨rfl, q2⟩ := E2
  have hh2 := q2.trans hh0
  have hx2 := hx.mv X2.warmed.alike hh2
  obtain ⟨-, k1, k2⟩ | ⟨k0, -⟩ := hx.2.2.2.2.1
  · have c3 : Steps p.tables e below (s₁.setTop (entryFrame m #[.ref x, .int (Int32.ofNat i)] 2)) (T2.setTop (mkF m 8 #[.val (.ref x), .val (.int (Int32.ofNat i))] [.ref x])) := Steps.trans g2 (by
      refine XS.ifNo X2.here hexec rfl (hb hbytes d4) rfl (i0_eq_f (by decide)) ?_
      refine XS.aloadN X2.here hexec rfl (hb hbytes d7) rfl rfl ?_
      exact Steps.refl _)
    obtain ⟨T4, X4, q4, st4⟩ := X2.hget hexec hown (wk W (.fieldLink "java/lang/String" 9 "java/lang/String" "value" "[B")) hx2.2.1 (g := (mkF m 8 #[.val (.ref x), .val (.int (Int32.ofNat i))] [.ref x])) rfl (rest := []) rfl (hb hbytes d8)
    have hh4 := q4.trans hh2
    have c5 : Steps p.tables e below (s₁.setTop (entryFrame m #[.ref x, .int (Int32.ofNat i)] 2)) (T4.setTop (mkF m 12 #[.val (.ref x), .val (.int (Int32.ofNat i))] [.int (Int32.ofNat i), .ref t])) := (c3.trans (st4 _ (Steps.refl _))).trans (by
      refine XS.iloadN X4.here hexec rfl (hb hbytes d11) rfl ?_
      exact Steps.refl _)
    obtain ⟨v6, T6, X6, E6, g6⟩ := X4.callS hexec (LChA.law l t V i (lo8 (f i)) fm) hown (wks W (staticW "java/lang/String" 495 LChA.yN)) (wk W LChA.tab) (W := 0) (Nat.le_of_ble_eq_true rfl) (Nat.le_of_ble_eq_true rfl) (Nat.le_refl _) (Nat.le_refl _) (g := (mkF m 12 #[.val (.ref x), .val (.int (Int32.ofNat i))] [.int (Int32.ofNat i), .ref t])) rfl (by rw [hml]; rfl) c5 (argsL := [.ref t, .int (Int32.ofNat i)]) (rest := []) rfl rfl (by show 2 * 0 + 0 ≤ _; decide) (hb hbytes d12) (⟨rfl, hx.2.2.2.1.mv X4.warmed.alike hh4, (k2 i hi).1, s3.there X4.warmed.alike hh4, rf⟩)
    obtain ⟨rfl, q6⟩ := E6
    rw [chr8_lo8 hr.1 (k2 i hi).2] at g6
    exact ⟨T6, some (.int (f i)), _, _, _, X6, rfl, rfl, rfl, (fun h => by cases h), ⟨rfl, q6.trans hh4⟩, fun fs hl => Steps.trans g6 (X6.ireturnOut hexec hret (narrow_ch hr.1 hr.2) (Or.inr (Or.inr (Or.inr (Or.inl rfl)))) (hb hbytes d15) hl)⟩
  · exact absurd k0 (by decide)
theorem pays {l : Launch} {R : Room} {p : Program} {e : Env} {below : List Frame} {s : State} {sargs : Array Value} {len W : Nat} (x t : Addr) (V : Cell) (n : Nat) (f : Nat → Int32) (z : Int32) (fm : Value) (i : Nat) (htab : tab.before sargs s = true) (hfr : 4 ≤ R.frames) (hlo : W + 53 ≤ R.locals) :
    Back l R p e below s sargs yN len W (fun A₁ a₁ => A₁.cells + 0 ≤ R.cells ∧ A₁.slots + 0 ≤ R.slots ∧ P x t V n f z fm i a₁ A₁.U) (fun A₁ _ v₁ B₁ => E f i v₁ A₁.U B₁.U ∧ B₁.locs = A₁.locs ++ [] ∧ B₁.cells = A₁.cells + 0 ∧ B₁.slots = A₁.slots + 0) :=
  (law l x t V n f z fm i).pays htab hfr (by omega)
end ChN
end StrChars
namespace StrChars.Road
open Jvm Sem ClassFile Op Lib Jvm.Stand Jvm.Free Jvm.Free.XT
open Jvm.Lib.Cold (StaticIs)
/-- the words of String.charAt(int), the Latin-1 road alone -/
abbrev wordsChN : List Jvm.Cond := [.code ChN.yN ChN.yB 2 (some .char), .initialized ST, .fieldLink ST 9 ST "value" "[B", .fieldLink ST 38 ST "COMPACT_STRINGS" "Z", .fieldLink ST 15 ST "coder" "B", .code IsL.yN IsL.yB 1 (some .boolean), .methodLink ST 492 IsL.yN, .declares IsL.yN, .selects ST IsL.yN IsL.yN, .instanceMethod IsL.yN,
  .methodLink ST 495 LChA.yN, .static LChA.yN, .code LChA.yN LChA.yB 2 (some .char), .initialized "java/lang/StringLatin1", .methodLink "java/lang/StringLatin1" 9 JO.Str_checkIndex.yN, .static JO.Str_checkIndex.yN, .code JO.Str_checkIndex.yN JO.Str_checkIndex.yB 2 none,
  .fieldLink ST 1053 "jdk/internal/util/Preconditions" "SIOOBE_FORMATTER" "Ljava/util/function/BiFunction;", .methodLink ST 1059 JC.PreCheck.yN, .static JC.PreCheck.yN, .code JC.PreCheck.yN JC.PreCheck.yB 3 (some .int), .initialized "jdk/internal/util/Preconditions"]
theorem tabChN_of {a : Array Value} {s : State} (h : ∀ w ∈ wordsChN, w.before a s = true) : ChN.tab.before a s = true := by
  have hp : JC.PreCheck.tab.before a s = true := unparts (wk h (.code JC.PreCheck.yN JC.PreCheck.yB 3 (some .int))) (wks h (.initialized JC.PreCheck.yN.cls :: JC.PreCheck.site))
  have qk := consq hp h
  have hk : JO.Str_checkIndex.tab.before a s = true := unparts (wk qk (.code JO.Str_checkIndex.yN JO.Str_checkIndex.yB 2 none)) (wks qk (.initialized JO.Str_checkIndex.yN.cls :: JO.Str_checkIndex.site))
  have ql := consq hk h
  have hl : LChA.tab.before a s = true := unparts (wk ql (.code LChA.yN LChA.yB 2 (some .char))) (wks ql (.initialized LChA.yN.cls :: LChA.site))
  have hi : IsL.tab.before a s = true := unparts (wk h (.code IsL.yN IsL.yB 1 (some .boolean))) (wks h (.initialized IsL.yN.cls :: IsL.site))
  have q := consq hi (consq hl h)
  exact unparts (wk q (.code ChN.yN ChN.yB 2 (some .char))) (wks q (.initialized ChN.yN.cls :: ChN.site))
theorem movedChN {Z s : State} {a0 args : Array Value} (hZ : Z.Warmed39 s.vm) (hw : ∀ d ∈ wordsChN, d.before a0 Z = true) : ∀ d ∈ wordsChN, d.before args s = true := fun d hd => by
  have t : ∀ d ∈ wordsChN, (d.onTables && d.keepsFace) = true := by decide +kernel
  exact RoadKit.mv hZ (hw d hd) (t d hd)
/-- **charAt(i) OF A LATIN-1 STRING**, i < n: the char -/
theorem chN {p : Program} {l : Launch} {e : Env} {R : Room} {s : State} {args : Array Value} {below : List Frame} {len W : Nat} {Z : State} {a0 : Array Value} {h : Heap} (hZ : Z.Warmed39 s.vm) (hw : ∀ d ∈ wordsChN, d.before a0 Z = true) {kI : Nat} (wi : (Jvm.Cond.instantiable ST kI).before a0 Z = true)
    {x t : Addr} {kb : ClassId} {cs : List Int32} {N2 z : Int32} {vs : List Value} {fm : Value} {i : Nat} {j : Int32} (E : RoadKit.Exa Z h x ST) (V : RoadKit.Fld Z h x ST "value" "[B" (.ref t)) (C : RoadKit.Fld Z h x ST "coder" "B" (.int 0)) (K : RoadKit.Arv Z h t kb .byte N2 vs (.int 0)) (hc : CodA cs 0 N2 vs) (hb : ∀ c ∈ cs, ¬ c < 0 ∧ ¬ (65535 : Int32) < c)
    (S : RoadKit.Sta Z h ST "COMPACT_STRINGS" "Z" (.int z)) (hz : ¬ z = 0) (F : RoadKit.Sta Z h "jdk/internal/util/Preconditions" "SIOOBE_FORMATTER" "Ljava/util/function/BiFunction;" fm) (rf : fm.isRef = true) (l2 : cs.length ≤ 4000) (hi : i < cs.length) (hj : j = Int32.ofNat i) (hfr : 4 ≤ R.frames) (hlo : W + 53 ≤ R.locals) :
    Back l R p e below s args (⟨"java/lang/String", "charAt", "(I)C"⟩ : MethodName) len W (fun P a => a = #[.ref x, .int j] ∧ P.U.heap = h ∧ P.cells + 0 ≤ R.cells ∧ P.slots + 0 ≤ R.slots)
      (fun P _ v B => ∃ L, (v = some (.int (cs.getD i 0)) ∧ L = [] ∧ B.U.heap = h) ∧ B.locs = P.locs ++ L ∧ B.cells = P.cells + 0 ∧ B.slots = P.slots + 0) := by
  subst hj
  intro m meth c P g ig mk a X hg hsize hdg hW hn hp'
  obtain ⟨rfl, rfl, r1, r2⟩ := hp'
  have al : Z.vm.Alike P.U.vm := hZ.alike.trans X.warmed.alike
  obtain ⟨A, hx⟩ := txt_of wi al E V C K hc hb l2
  obtain ⟨v, B, X', ⟨⟨hv, hh⟩, hl, hk, hs⟩, st⟩ := ChN.pays x t A cs.length (fun j => cs.getD j 0) z fm i (tabChN_of (movedChN hZ hw)) hfr hlo m meth c P g ig mk _ X hg hsize hdg hW hn ⟨r1, r2, rfl, hx, hi, sta_is al S, hz, sta_is al F, rf⟩
  exact ⟨v, B, X', ⟨[], ⟨hv, rfl, hh⟩, hl, hk, hs⟩, st⟩
/-- what backV says of its String, as the contracts of this text ask it: cs's low bytes, coder 0 -/
theorem codOf {cs : List Int32} {n : Nat} (hn : cs.length = n) (hb : ∀ c ∈ cs, ¬ 255 < c) : CodA cs 0 (Int32.ofNat n) ((cs.map lo8).map Value.int) := Or.inl ⟨rfl, by rw [hn], by simp [List.map_map, Function.comp_def], hb⟩
end StrChars.Road
end Jvm.Pilot.@@N@@
namespace Jvm.Pilot.@@N@@
open Jvm Jvm.ClassFile Sem Op Lib Jvm.Free Jvm.Stand Jvm.LawKit Jvm.RoadKit Bundle Jvm.Pilot.@@N@@.Jvm.D
theorem own_up (cs : List Int32) (h : ∀ c ∈ cs, ¬ c < 0 ∧ ¬ (255 : Int32) < c) : ∀ c ∈ cs, ¬ c < 0 ∧ ¬ (65535 : Int32) < c := fun c hc => ⟨(h c hc).1, fun q => (h c hc).2 (by rw [Int32.lt_iff_toInt_lt] at q ⊢; have e1 : (65535 : Int32).toInt = 65535 := rfl; have e2 : (255 : Int32).toInt = 255 := rfl; omega)⟩
theorem own_hw_backV {Z : State} {a0 : Array Value} (hw : ∀ d ∈ tables_1, d.before a0 Z = true) : ∀ d ∈ StrChars.Road.words, d.before a0 Z = true := fun d hd => hw d ((by decide +kernel : ∀ d ∈ StrChars.Road.words, d ∈ tables_1) d hd)
theorem own_hw_lenW {Z : State} {a0 : Array Value} (hw : ∀ d ∈ tables_1, d.before a0 Z = true) : ∀ d ∈ StrChars.Road.wordsLen, d.before a0 Z = true := fun d hd => hw d ((by decide +kernel : ∀ d ∈ StrChars.Road.wordsLen, d ∈ tables_1) d hd)
theorem own_hw_chN {Z : State} {a0 : Array Value} (hw : ∀ d ∈ tables_1, d.before a0 Z = true) : ∀ d ∈ StrChars.Road.wordsChN, d.before a0 Z = true := fun d hd => hw d ((by decide +kernel : ∀ d ∈ StrChars.Road.wordsChN, d ∈ tables_1) d hd)
theorem own_safe_null {Z : State} {EL : List (String × Nat)} {vm : Vm} {h : Heap} {x : Addr} (hal : Z.vm.Alike vm) (E : Exa Z h x "java/lang/String") (F : Fld Z h x "java/lang/String" "value" "[B" .null) : Safe Z EL vm h x := fun B => by
  obtain ⟨cell, cf, k, i, f, h1, h2, h3, -, -, -, h7⟩ := F
  obtain ⟨p, -, u, a, -, q, -, FF, rfl | rfl⟩ := B
  · cases (show h[q.sa]? = some q.sC from FF.ha).symm.trans h1
    obtain ⟨cS, ⟨⟨-, -, -, ⟨c1, k1, i1, f1, -⟩, -, -, -, v1, -⟩, -⟩, -⟩ := FF
    obtain ⟨k3, e3⟩ := ff_back (U := Wst Z vm h) hal f1
    cases h2.symm.trans e3
    rw [v1] at h7
    cases h7
  · cases (show h[q.sd]? = some q.SA from FF.hd).symm.trans h1
    obtain ⟨cS, -, -, fB, -⟩ := FF
    obtain ⟨cell2, kk, e1, e2, e3, -, -⟩ := E
    cases h1.symm.trans e1
    have fB' : vm.findClass "[B" = some q.SA.cls := fB
    rw [hal.findClass] at fB'
    obtain ⟨k1, q1, q2⟩ := Vm.findClass_spec fB'
    obtain ⟨k2, q3, q4⟩ := Vm.findClass_spec e2
    cases q1.symm.trans q3
    exact absurd (q2.symm.trans q4) (by decide)
theorem own_hw_str {Z : State} {a0 : Array Value} (hw : ∀ d ∈ tables_1, d.before a0 Z = true) : ∀ d ∈ Bundle.stringAtoms, d.before a0 Z = true := fun d hd => hw d ((by decide +kernel : ∀ d ∈ Bundle.stringAtoms, d ∈ tables_1) d hd)
theorem own_EW {Z : State} {a0 : Array Value} (hw : ∀ d ∈ tables_1, d.before a0 Z = true) : EW Z a0 [("java/lang/String", 7)] := (EW.cons (hw _ (List.mem_of_getElem? (i := 121) rfl)) (by decide) EW.nil)
theorem own_clamp {j : Nat} (h : j < 2 ^ 31) : (Int32.ofNat j).toNatClampNeg = j := clamp_of rfl h
theorem own_toInt {j : Nat} (h : j < 2 ^ 31) : (Int32.ofNat j).toInt = (j : Int) := toInt_of rfl h
theorem own_inb {i n : Nat} (h : i < n) (hn : n < 2 ^ 31) : ¬ (Int32.ofNat i < (0 : Int32)) ∧ Int32.ofNat i < Int32.ofNat n := by
  rw [Int32.lt_iff_toInt_lt, Int32.lt_iff_toInt_lt, own_toInt (by omega), own_toInt hn]
  have e0 : (0 : Int32).toInt = 0 := rfl
  omega
theorem own_nlt {i n : Nat} (h : n ≤ i) (hi : i < 2 ^ 31) : ¬ (Int32.ofNat i < Int32.ofNat n) := by
  rw [Int32.lt_iff_toInt_lt, own_toInt hi, own_toInt (by omega)]
  omega
theorem own_oinj {i n : Nat} (hi : i < 2 ^ 31) (hn : n < 2 ^ 31) (h : Int32.ofNat i = Int32.ofNat n) : i = n := by
  have q := congrArg Int32.toInt h
  rw [own_toInt hi, own_toInt hn] at q
  omega
theorem own_shl1 (i : Nat) : Int32.ofNat i <<< ((1 : Int32) &&& 31) = Int32.ofNat (2 * i) := by
  rw [shlm (show (1 : Int32) <<< ((1 : Int32) &&& 31) = 2 by decide), Nat.mul_comm, Int32.ofNat_mul]
  rfl
theorem own_nc {c : Int32} (h0 : ¬ c < 0) (h1 : ¬ (65535 : Int32) < c) : c.toUInt32.toUInt16.toUInt32.toInt32 = c := by
  have q := c_i2c c
  rw [Int32.lt_iff_toInt_lt] at h0 h1
  have e0 : (0 : Int32).toInt = 0 := rfl
  have e1 : (65535 : Int32).toInt = 65535 := rfl
  apply Int32.toInt_inj.mp
  omega
theorem own_i2c (x : Int32) : ¬ (x.toUInt32.toUInt16.toUInt32.toInt32) < 0 ∧ ¬ (65535 : Int32) < (x.toUInt32.toUInt16.toUInt32.toInt32) := by
  have q := c_i2c x
  rw [Int32.lt_iff_toInt_lt, Int32.lt_iff_toInt_lt]
  have e0 : (0 : Int32).toInt = 0 := rfl
  have e1 : (65535 : Int32).toInt = 65535 := rfl
  omega
theorem own_mapat {cs : List Int32} {j : Nat} {d : Value} (hj : j < cs.length) (hN : cs.length < 2 ^ 31) : (cs.map Value.int).getD (Int32.ofNat j).toNatClampNeg d = .int (cs.getD j 0) := by
  rw [own_clamp (by omega)]
  simp [List.getD_eq_getElem?_getD, hj]
theorem own_widelen : ∀ cs : List Int32, (StrChars.Road.wideBytes cs).length = 2 * cs.length
  | [] => rfl
  | c :: cs => by simp only [StrChars.Road.wideBytes, List.length_cons, own_widelen cs]; omega
theorem own_wideapp : ∀ (cs : List Int32) (c : Int32), StrChars.Road.wideBytes (cs ++ [c]) = StrChars.Road.wideBytes cs ++ [.int (StrChars.lo8 c), .int (StrChars.hi8 c)]
  | [], _ => rfl
  | d :: cs, c => by simp only [List.cons_append, StrChars.Road.wideBytes, own_wideapp cs c]
theorem own_set2 {α : Type} (A : List α) (x y a b : α) (B : List α) : ((A ++ x :: y :: B).set A.length a).set (A.length + 1) b = A ++ a :: b :: B := by
  induction A with
  | nil => rfl
  | cons z A ih => simpa using ih
theorem own_widestep {ds : List Int32} {i n : Nat} (hn : ds.length = n) (hi : i < n) (z : Value) :
    ((StrChars.Road.wideBytes (ds.take i) ++ List.replicate (2 * (n - i)) z).set (2 * i) (.int (StrChars.lo8 (ds.getD i 0)))).set (2 * i + 1) (.int (StrChars.hi8 (ds.getD i 0))) = StrChars.Road.wideBytes (ds.take (i + 1)) ++ List.replicate (2 * (n - (i + 1))) z := by
  have hl : (StrChars.Road.wideBytes (ds.take i)).length = 2 * i := by rw [own_widelen, List.length_take]; omega
  have hr : List.replicate (2 * (n - i)) z = z :: z :: List.replicate (2 * (n - (i + 1))) z := by
    rw [show 2 * (n - i) = 2 * (n - (i + 1)) + 1 + 1 by omega, List.replicate_succ, List.replicate_succ]
  have ht : ds.take (i + 1) = ds.take i ++ [ds.getD i 0] := by
    rw [List.take_add_one]
    simp [List.getD_eq_getElem?_getD, show i < ds.length by omega]
  have q := own_set2 (StrChars.Road.wideBytes (ds.take i)) z z (.int (StrChars.lo8 (ds.getD i 0))) (.int (StrChars.hi8 (ds.getD i 0))) (List.replicate (2 * (n - (i + 1))) z)
  rw [hl] at q
  rw [hr, q, ht, own_wideapp, List.append_assoc]
  rfl
theorem own_first : ∀ cs : List Int32, (∃ c ∈ cs, (255 : Int32) < c) → ∃ r, r < cs.length ∧ (∀ q, q < r → ¬ (255 : Int32) < cs.getD (0 + q) 0) ∧ (255 : Int32) < cs.getD (0 + r) 0
  | [], h => by obtain ⟨c, hc, -⟩ := h; simp at hc
  | d :: cs, h => by
    by_cases hd : (255 : Int32) < d
    · exact ⟨0, by simp, fun q hq => absurd hq (Nat.not_lt_zero q), by simpa using hd⟩
    · obtain ⟨r, h1, h2, h3⟩ := own_first cs (by
        obtain ⟨c, hc, hw⟩ := h
        rcases List.mem_cons.mp hc with rfl | hc
        · exact absurd hw hd
        · exact ⟨c, hc, hw⟩)
      refine ⟨r + 1, by simpa using h1, fun q hq => ?_, by simpa using h3⟩
      cases q with
      | zero => simpa using hd
      | succ q => simpa using h2 q (by omega)
theorem own_coder1 {n : Nat} (h0 : 0 < n) (h : 2 * n < 2 ^ 31) : (((Int32.ofNat n - Int32.ofNat (2 * n)).toUInt32 >>> ((31 : Int32) &&& 31).toUInt32).toInt32).toInt8.toInt32 = (1 : Int32) := by
  have q : ((Int32.ofNat n - Int32.ofNat (2 * n)).toUInt32 >>> ((31 : Int32) &&& 31).toUInt32).toInt32 = (1 : Int32) := by
    apply Int32.toInt_inj.mp
    rw [c_iushr _ 31 31 (by decide) (by decide)]
    have e1 := own_toInt (j := n) (by omega)
    have e2 := own_toInt (j := 2 * n) h
    have e3 := c_isub (Int32.ofNat n) (Int32.ofNat (2 * n))
    have e4 := rng32 (Int32.ofNat n - Int32.ofNat (2 * n))
    have e5 : (1 : Int32).toInt = 1 := rfl
    rw [e5]
    show _ / (2147483648 : Int) = 1
    omega
  rw [q]
  rfl
theorem d_jdk_52_method_21_code_3 : decode jdk_52_method_21_code 3 = .ok (.iload 5, 2) := by decide +kernel
theorem d_jdk_52_method_21_code_5 : decode jdk_52_method_21_code 5 = .ok (.iload 4, 2) := by decide +kernel
theorem d_jdk_52_method_21_code_7 : decode jdk_52_method_21_code 7 = .ok (.if_icmp .ge 37, 3) := by decide +kernel
theorem d_jdk_52_method_21_code_10 : decode jdk_52_method_21_code 10 = .ok (.aload_n 0, 1) := by decide +kernel
theorem d_jdk_52_method_21_code_11 : decode jdk_52_method_21_code 11 = .ok (.iload_n 1, 1) := by decide +kernel
theorem d_jdk_52_method_21_code_12 : decode jdk_52_method_21_code 12 = .ok (.caload, 1) := by decide +kernel
theorem d_jdk_52_method_21_code_13 : decode jdk_52_method_21_code 13 = .ok (.istore 6, 2) := by decide +kernel
theorem d_jdk_52_method_21_code_15 : decode jdk_52_method_21_code 15 = .ok (.iload 6, 2) := by decide +kernel
theorem d_jdk_52_method_21_code_17 : decode jdk_52_method_21_code 17 = .ok (.sipush 255, 3) := by decide +kernel
theorem d_jdk_52_method_21_code_20 : decode jdk_52_method_21_code 20 = .ok (.if_icmp .le 6, 3) := by decide +kernel
theorem d_jdk_52_method_21_code_23 : decode jdk_52_method_21_code 23 = .ok (.iload 5, 2) := by decide +kernel
theorem d_jdk_52_method_21_code_26 : decode jdk_52_method_21_code 26 = .ok (.aload_n 2, 1) := by decide +kernel
theorem d_jdk_52_method_21_code_27 : decode jdk_52_method_21_code 27 = .ok (.iload_n 3, 1) := by decide +kernel
theorem d_jdk_52_method_21_code_28 : decode jdk_52_method_21_code 28 = .ok (.iload 6, 2) := by decide +kernel
theorem d_jdk_52_method_21_code_30 : decode jdk_52_method_21_code 30 = .ok (.i2b, 1) := by decide +kernel
theorem d_jdk_52_method_21_code_31 : decode jdk_52_method_21_code 31 = .ok (.bastore, 1) := by decide +kernel
theorem d_jdk_52_method_21_code_32 : decode jdk_52_method_21_code 32 = .ok (.iinc 1 1, 3) := by decide +kernel
theorem d_jdk_52_method_21_code_35 : decode jdk_52_method_21_code 35 = .ok (.iinc 3 1, 3) := by decide +kernel
theorem d_jdk_52_method_21_code_38 : decode jdk_52_method_21_code 38 = .ok (.iinc 5 1, 3) := by decide +kernel
theorem d_jdk_52_method_21_code_41 : decode jdk_52_method_21_code 41 = .ok (.goto (-38), 3) := by decide +kernel
set_option maxRecDepth 65536 in
set_option maxHeartbeats 40000000 in
theorem lp_cmp5 {p : Program} {l : Launch} {e : Env} {R : Room} {s : State} {m : MethodId} {args : Array Value} {below : List Frame} {meth : Method} {c : Code} {cells slots : Nat} {Z : State} {a0 : Array Value} {n0 : Nat} (ca : Addr) (kc : ClassId) (cs : List Int32) (dv : Value) (dd : Addr) (kd : ClassId) (n : Nat) (rr : Nat) (rj : Nat) (hx : p.tables.exec = Jvm.exec) (hZ : Z.Warmed39 s.vm) (hw : ∀ d ∈ tables_1, d.before a0 Z = true) (hby : c.code = jdk_52_method_21_code) (hml : c.maxLocals = 7) (hown : s.vm.findClass "java/lang/StringUTF16" = some m.cls) (hcl : cells ≤ R.cells) (hsl : slots ≤ R.slots) (hfr : 0 ≤ R.frames) (hlo : 0 ≤ R.locals) (hN : cs.length < 2 ^ 31) (hy1 : n0 ≤ dd) (hy2 : ca ≠ dd) (hn31 : n < 2 ^ 31) (hrn : rr < n) (hrj : rj < cs.length) (hwide : (255 : Int32) < cs.getD rj 0) :
    ∀ (k : Nat) (i : Nat) (j : Nat) (vs : List Value) (z6 : Slot) (T0 : State) (h0 : Heap) (locs : List Loc), Stand p l e R s m args below meth c T0 locs cells slots → T0.heap = h0 → Fr n0 locs → n0 ≤ h0.size → Arv Z h0 ca kc .char (Int32.ofNat cs.length) (cs.map Value.int) dv → Arv Z h0 dd kd .byte (Int32.ofNat n) vs (.int (0 : Int32)) → (One z6) → (vs.length = n) → (i + k = rr) → (j + k = rj) → (∀ q, q < k → ¬ (255 : Int32) < cs.getD (j + q) 0) → ∃ (T' : State) (h' : Heap) (locs' : List Loc), Stand p l e R s m args below meth c T' locs' cells slots ∧ T'.heap = h' ∧ Fr n0 locs' ∧ Keep h0 h' ([dd] : List Addr) ∧ ∀ t, Steps p.tables e below (T'.setTop (mkF m 25 #[.val (.ref ca), .val (.int (Int32.ofNat rj)), .val (.ref dd), .val (.int (Int32.ofNat rr)), .val (.int (Int32.ofNat n)), .val (.int (Int32.ofNat rr)), .val (.int (cs.getD rj 0))] [(.int (Int32.ofNat rr))])) t → Steps p.tables e below (T0.setTop (mkF m 3 #[.val (.ref ca), .val (.int (Int32.ofNat j)), .val (.ref dd), .val (.int (Int32.ofNat i)), .val (.int (Int32.ofNat n)), .val (.int (Int32.ofNat i)), z6] [])) t := by
  intro k
  induction k with
  | zero =>
    intro i j vs z6 T0 h0 locs X0 e0 N0 Z0 q0 q1 hz6 hvl hik hjk hlow
    have pre0 : ∀ t, Steps p.tables e below (T0.setTop (mkF m 3 #[.val (.ref ca), .val (.int (Int32.ofNat j)), .val (.ref dd), .val (.int (Int32.ofNat i)), .val (.int (Int32.ofNat n)), .val (.int (Int32.ofNat i)), z6] [])) t → Steps p.tables e below (T0.setTop (mkF m 3 #[.val (.ref ca), .val (.int (Int32.ofNat j)), .val (.ref dd), .val (.int (Int32.ofNat i)), .val (.int (Int32.ofNat n)), .val (.int (Int32.ofNat i)), z6] [])) t := fun _ kk => kk
    have hik' : i = rr := by omega
    have hjk' : j = rj := by omega
    have hwd : (255 : Int32) < cs.getD j 0 := by rw [hjk']; exact hwide
    obtain ⟨cl301, Ar301, qq301, S301, M301, Hh301, U301⟩ := id q0
    have ib301 : ¬ ((Int32.ofNat j) < 0 ∨ cl301.slots.size ≤ ((Int32.ofNat j)).toNatClampNeg) := inb_of S301 (own_inb (by omega) hN)
    have pre302 : ∀ t, Steps p.tables e below (T0.setTop (mkF m 25 #[.val (.ref ca), .val (.int (Int32.ofNat j)), .val (.ref dd), .val (.int (Int32.ofNat i)), .val (.int (Int32.ofNat n)), .val (.int (Int32.ofNat i)), .val (.int (cs.getD j 0))] [(.int (Int32.ofNat i))])) t → Steps p.tables e below (T0.setTop (mkF m 3 #[.val (.ref ca), .val (.int (Int32.ofNat j)), .val (.ref dd), .val (.int (Int32.ofNat i)), .val (.int (Int32.ofNat n)), .val (.int (Int32.ofNat i)), z6] [])) t := fun t kk => pre0 t (by
      refine XS.iload X0.here hx rfl (hb hby d_jdk_52_method_21_code_3) rfl ?_
      show Steps p.tables e below (T0.setTop (mkF m 5 #[.val (.ref ca), .val (.int (Int32.ofNat j)), .val (.ref dd), .val (.int (Int32.ofNat i)), .val (.int (Int32.ofNat n)), .val (.int (Int32.ofNat i)), z6] [(.int (Int32.ofNat i))])) _
      refine XS.iload X0.here hx rfl (hb hby d_jdk_52_method_21_code_5) rfl ?_
      show Steps p.tables e below (T0.setTop (mkF m 7 #[.val (.ref ca), .val (.int (Int32.ofNat j)), .val (.ref dd), .val (.int (Int32.ofNat i)), .val (.int (Int32.ofNat n)), .val (.int (Int32.ofNat i)), z6] [(.int (Int32.ofNat n)), (.int (Int32.ofNat i))])) _
      refine XS.icmpNo X0.here hx rfl (hb hby d_jdk_52_method_21_code_7) rfl (tlt ((own_inb (by omega) hn31).2 : (Int32.ofNat i) < (Int32.ofNat n))).2.1 ?_
      show Steps p.tables e below (T0.setTop (mkF m 10 #[.val (.ref ca), .val (.int (Int32.ofNat j)), .val (.ref dd), .val (.int (Int32.ofNat i)), .val (.int (Int32.ofNat n)), .val (.int (Int32.ofNat i)), z6] [])) _
      refine XS.aloadN X0.here hx rfl (hb hby d_jdk_52_method_21_code_10) rfl rfl ?_
      show Steps p.tables e below (T0.setTop (mkF m 11 #[.val (.ref ca), .val (.int (Int32.ofNat j)), .val (.ref dd), .val (.int (Int32.ofNat i)), .val (.int (Int32.ofNat n)), .val (.int (Int32.ofNat i)), z6] [(.ref ca)])) _
      refine XS.iloadN X0.here hx rfl (hb hby d_jdk_52_method_21_code_11) rfl ?_
      show Steps p.tables e below (T0.setTop (mkF m 12 #[.val (.ref ca), .val (.int (Int32.ofNat j)), .val (.ref dd), .val (.int (Int32.ofNat i)), .val (.int (Int32.ofNat n)), .val (.int (Int32.ofNat i)), z6] [(.int (Int32.ofNat j)), (.ref ca)])) _
      refine X0.caload hx (j := (Int32.ofNat j)) (v := (.int (cs.getD j 0))) (by rw [e0]; exact Ar301.1) (State.isArrayOf_alike hZ.alike Ar301.2.1) Ar301.2.2 ib301 (Hh301.at ib301 (own_mapat (by omega) hN)) (g := (mkF m 12 #[.val (.ref ca), .val (.int (Int32.ofNat j)), .val (.ref dd), .val (.int (Int32.ofNat i)), .val (.int (Int32.ofNat n)), .val (.int (Int32.ofNat i)), z6] [(.int (Int32.ofNat j)), (.ref ca)])) rfl rfl (hb hby d_jdk_52_method_21_code_12) _ ?_
      show Steps p.tables e below (T0.setTop (mkF m 13 #[.val (.ref ca), .val (.int (Int32.ofNat j)), .val (.ref dd), .val (.int (Int32.ofNat i)), .val (.int (Int32.ofNat n)), .val (.int (Int32.ofNat i)), z6] [(.int (cs.getD j 0))])) _
      refine XS.istoreS X0.here hx rfl (hb hby d_jdk_52_method_21_code_13) rfl rfl hz6 ?_
      show Steps p.tables e below (T0.setTop (mkF m 15 #[.val (.ref ca), .val (.int (Int32.ofNat j)), .val (.ref dd), .val (.int (Int32.ofNat i)), .val (.int (Int32.ofNat n)), .val (.int (Int32.ofNat i)), .val (.int (cs.getD j 0))] [])) _
      refine XS.iload X0.here hx rfl (hb hby d_jdk_52_method_21_code_15) rfl ?_
      show Steps p.tables e below (T0.setTop (mkF m 17 #[.val (.ref ca), .val (.int (Int32.ofNat j)), .val (.ref dd), .val (.int (Int32.ofNat i)), .val (.int (Int32.ofNat n)), .val (.int (Int32.ofNat i)), .val (.int (cs.getD j 0))] [(.int (cs.getD j 0))])) _
      refine XS.sipush X0.here hx rfl (hb hby d_jdk_52_method_21_code_17) ?_
      show Steps p.tables e below (T0.setTop (mkF m 20 #[.val (.ref ca), .val (.int (Int32.ofNat j)), .val (.ref dd), .val (.int (Int32.ofNat i)), .val (.int (Int32.ofNat n)), .val (.int (Int32.ofNat i)), .val (.int (cs.getD j 0))] [(.int (255 : Int32)), (.int (cs.getD j 0))])) _
      refine XS.icmpNo X0.here hx rfl (hb hby d_jdk_52_method_21_code_20) rfl (tlt (hwd : (255 : Int32) < (cs.getD j 0))).2.2.2 ?_
      show Steps p.tables e below (T0.setTop (mkF m 23 #[.val (.ref ca), .val (.int (Int32.ofNat j)), .val (.ref dd), .val (.int (Int32.ofNat i)), .val (.int (Int32.ofNat n)), .val (.int (Int32.ofNat i)), .val (.int (cs.getD j 0))] [])) _
      refine XS.iload X0.here hx rfl (hb hby d_jdk_52_method_21_code_23) rfl ?_
      show Steps p.tables e below (T0.setTop (mkF m 25 #[.val (.ref ca), .val (.int (Int32.ofNat j)), .val (.ref dd), .val (.int (Int32.ofNat i)), .val (.int (Int32.ofNat n)), .val (.int (Int32.ofNat i)), .val (.int (cs.getD j 0))] [(.int (Int32.ofNat i))])) _
      exact kk)
    exact ⟨T0, h0, _, X0, e0, N0, (Keep.refl h0 ([dd] : List Addr)), (by rw [← hik', ← hjk']; exact pre302)⟩
  | succ k ih =>
    intro i j vs z6 T0 h0 locs X0 e0 N0 Z0 q0 q1 hz6 hvl hik hjk hlow
    have pre0 : ∀ t, Steps p.tables e below (T0.setTop (mkF m 3 #[.val (.ref ca), .val (.int (Int32.ofNat j)), .val (.ref dd), .val (.int (Int32.ofNat i)), .val (.int (Int32.ofNat n)), .val (.int (Int32.ofNat i)), z6] [])) t → Steps p.tables e below (T0.setTop (mkF m 3 #[.val (.ref ca), .val (.int (Int32.ofNat j)), .val (.ref dd), .val (.int (Int32.ofNat i)), .val (.int (Int32.ofNat n)), .val (.int (Int32.ofNat i)), z6] [])) t := fun _ kk => kk
    have hlw : ¬ (255 : Int32) < cs.getD j 0 := by simpa using hlow 0 (by omega)
    obtain ⟨cl301, Ar301, qq301, S301, M301, Hh301, U301⟩ := id q0
    have ib301 : ¬ ((Int32.ofNat j) < 0 ∨ cl301.slots.size ≤ ((Int32.ofNat j)).toNatClampNeg) := inb_of S301 (own_inb (by omega) hN)
    obtain ⟨cl302, Ar302, qq302, S302, M302, Hh302, U302⟩ := id q1
    obtain ⟨T302, h302, X302, e302, W302, st302⟩ := stB X0 hx hZ e0 Ar302 (j := (Int32.ofNat i)) (inb_of S302 (own_inb (by omega) hn31)) (g := (mkF m 31 #[.val (.ref ca), .val (.int (Int32.ofNat j)), .val (.ref dd), .val (.int (Int32.ofNat i)), .val (.int (Int32.ofNat n)), .val (.int (Int32.ofNat i)), .val (.int (cs.getD j 0))] [(.int ((cs.getD j 0).toInt8.toInt32)), (.int (Int32.ofNat i)), (.ref dd)])) rfl rfl (hb hby d_jdk_52_method_21_code_31)
    have N302 := Fr.snoc X302 N0 hy1
    have V302 : Arv Z h302 dd kd .byte (Int32.ofNat n) (vs.set i (.int (nar .byte ((cs.getD j 0).toInt8.toInt32)))) (.int (0 : Int32)) := Arv.set Ar302 qq302 S302 M302 Hh302 U302 (fits_nar_byte _) W302 i (own_clamp (by omega)) (by omega)
    have pre303 : ∀ t, Steps p.tables e below (T302.setTop (mkF m 3 #[.val (.ref ca), .val (.int ((Int32.ofNat j) + (1 : Int32))), .val (.ref dd), .val (.int ((Int32.ofNat i) + (1 : Int32))), .val (.int (Int32.ofNat n)), .val (.int ((Int32.ofNat i) + (1 : Int32))), .val (.int (cs.getD j 0))] [])) t → Steps p.tables e below (T0.setTop (mkF m 3 #[.val (.ref ca), .val (.int (Int32.ofNat j)), .val (.ref dd), .val (.int (Int32.ofNat i)), .val (.int (Int32.ofNat n)), .val (.int (Int32.ofNat i)), z6] [])) t := fun t kk => pre0 t (by
      refine XS.iload X0.here hx rfl (hb hby d_jdk_52_method_21_code_3) rfl ?_
      show Steps p.tables e below (T0.setTop (mkF m 5 #[.val (.ref ca), .val (.int (Int32.ofNat j)), .val (.ref dd), .val (.int (Int32.ofNat i)), .val (.int (Int32.ofNat n)), .val (.int (Int32.ofNat i)), z6] [(.int (Int32.ofNat i))])) _
      refine XS.iload X0.here hx rfl (hb hby d_jdk_52_method_21_code_5) rfl ?_
      show Steps p.tables e below (T0.setTop (mkF m 7 #[.val (.ref ca), .val (.int (Int32.ofNat j)), .val (.ref dd), .val (.int (Int32.ofNat i)), .val (.int (Int32.ofNat n)), .val (.int (Int32.ofNat i)), z6] [(.int (Int32.ofNat n)), (.int (Int32.ofNat i))])) _
      refine XS.icmpNo X0.here hx rfl (hb hby d_jdk_52_method_21_code_7) rfl (tlt ((own_inb (by omega) hn31).2 : (Int32.ofNat i) < (Int32.ofNat n))).2.1 ?_
      show Steps p.tables e below (T0.setTop (mkF m 10 #[.val (.ref ca), .val (.int (Int32.ofNat j)), .val (.ref dd), .val (.int (Int32.ofNat i)), .val (.int (Int32.ofNat n)), .val (.int (Int32.ofNat i)), z6] [])) _
      refine XS.aloadN X0.here hx rfl (hb hby d_jdk_52_method_21_code_10) rfl rfl ?_
      show Steps p.tables e below (T0.setTop (mkF m 11 #[.val (.ref ca), .val (.int (Int32.ofNat j)), .val (.ref dd), .val (.int (Int32.ofNat i)), .val (.int (Int32.ofNat n)), .val (.int (Int32.ofNat i)), z6] [(.ref ca)])) _
      refine XS.iloadN X0.here hx rfl (hb hby d_jdk_52_method_21_code_11) rfl ?_
      show Steps p.tables e below (T0.setTop (mkF m 12 #[.val (.ref ca), .val (.int (Int32.ofNat j)), .val (.ref dd), .val (.int (Int32.ofNat i)), .val (.int (Int32.ofNat n)), .val (.int (Int32.ofNat i)), z6] [(.int (Int32.ofNat j)), (.ref ca)])) _
      refine X0.caload hx (j := (Int32.ofNat j)) (v := (.int (cs.getD j 0))) (by rw [e0]; exact Ar301.1) (State.isArrayOf_alike hZ.alike Ar301.2.1) Ar301.2.2 ib301 (Hh301.at ib301 (own_mapat (by omega) hN)) (g := (mkF m 12 #[.val (.ref ca), .val (.int (Int32.ofNat j)), .val (.ref dd), .val (.int (Int32.ofNat i)), .val (.int (Int32.ofNat n)), .val (.int (Int32.ofNat i)), z6] [(.int (Int32.ofNat j)), (.ref ca)])) rfl rfl (hb hby d_jdk_52_method_21_code_12) _ ?_
      show Steps p.tables e below (T0.setTop (mkF m 13 #[.val (.ref ca), .val (.int (Int32.ofNat j)), .val (.ref dd), .val (.int (Int32.ofNat i)), .val (.int (Int32.ofNat n)), .val (.int (Int32.ofNat i)), z6] [(.int (cs.getD j 0))])) _
      refine XS.istoreS X0.here hx rfl (hb hby d_jdk_52_method_21_code_13) rfl rfl hz6 ?_
      show Steps p.tables e below (T0.setTop (mkF m 15 #[.val (.ref ca), .val (.int (Int32.ofNat j)), .val (.ref dd), .val (.int (Int32.ofNat i)), .val (.int (Int32.ofNat n)), .val (.int (Int32.ofNat i)), .val (.int (cs.getD j 0))] [])) _
      refine XS.iload X0.here hx rfl (hb hby d_jdk_52_method_21_code_15) rfl ?_
      show Steps p.tables e below (T0.setTop (mkF m 17 #[.val (.ref ca), .val (.int (Int32.ofNat j)), .val (.ref dd), .val (.int (Int32.ofNat i)), .val (.int (Int32.ofNat n)), .val (.int (Int32.ofNat i)), .val (.int (cs.getD j 0))] [(.int (cs.getD j 0))])) _
      refine XS.sipush X0.here hx rfl (hb hby d_jdk_52_method_21_code_17) ?_
      show Steps p.tables e below (T0.setTop (mkF m 20 #[.val (.ref ca), .val (.int (Int32.ofNat j)), .val (.ref dd), .val (.int (Int32.ofNat i)), .val (.int (Int32.ofNat n)), .val (.int (Int32.ofNat i)), .val (.int (cs.getD j 0))] [(.int (255 : Int32)), (.int (cs.getD j 0))])) _
      refine XS.icmpYes X0.here hx rfl (pc0 := 20) (pc' := 26) rfl (hb hby d_jdk_52_method_21_code_20) rfl (flt (hlw : ¬ ((255 : Int32) < (cs.getD j 0)))).2.2.2 (by decide) (by decide) ?_
      show Steps p.tables e below (T0.setTop (mkF m 26 #[.val (.ref ca), .val (.int (Int32.ofNat j)), .val (.ref dd), .val (.int (Int32.ofNat i)), .val (.int (Int32.ofNat n)), .val (.int (Int32.ofNat i)), .val (.int (cs.getD j 0))] [])) _
      refine XS.aloadN X0.here hx rfl (hb hby d_jdk_52_method_21_code_26) rfl rfl ?_
      show Steps p.tables e below (T0.setTop (mkF m 27 #[.val (.ref ca), .val (.int (Int32.ofNat j)), .val (.ref dd), .val (.int (Int32.ofNat i)), .val (.int (Int32.ofNat n)), .val (.int (Int32.ofNat i)), .val (.int (cs.getD j 0))] [(.ref dd)])) _
      refine XS.iloadN X0.here hx rfl (hb hby d_jdk_52_method_21_code_27) rfl ?_
      show Steps p.tables e below (T0.setTop (mkF m 28 #[.val (.ref ca), .val (.int (Int32.ofNat j)), .val (.ref dd), .val (.int (Int32.ofNat i)), .val (.int (Int32.ofNat n)), .val (.int (Int32.ofNat i)), .val (.int (cs.getD j 0))] [(.int (Int32.ofNat i)), (.ref dd)])) _
      refine XS.iload X0.here hx rfl (hb hby d_jdk_52_method_21_code_28) rfl ?_
      show Steps p.tables e below (T0.setTop (mkF m 30 #[.val (.ref ca), .val (.int (Int32.ofNat j)), .val (.ref dd), .val (.int (Int32.ofNat i)), .val (.int (Int32.ofNat n)), .val (.int (Int32.ofNat i)), .val (.int (cs.getD j 0))] [(.int (cs.getD j 0)), (.int (Int32.ofNat i)), (.ref dd)])) _
      refine XS.i2b X0.here hx rfl (hb hby d_jdk_52_method_21_code_30) rfl ?_
      show Steps p.tables e below (T0.setTop (mkF m 31 #[.val (.ref ca), .val (.int (Int32.ofNat j)), .val (.ref dd), .val (.int (Int32.ofNat i)), .val (.int (Int32.ofNat n)), .val (.int (Int32.ofNat i)), .val (.int (cs.getD j 0))] [(.int ((cs.getD j 0).toInt8.toInt32)), (.int (Int32.ofNat i)), (.ref dd)])) _
      refine st302 _ ?_
      show Steps p.tables e below (T302.setTop (mkF m 32 #[.val (.ref ca), .val (.int (Int32.ofNat j)), .val (.ref dd), .val (.int (Int32.ofNat i)), .val (.int (Int32.ofNat n)), .val (.int (Int32.ofNat i)), .val (.int (cs.getD j 0))] [])) _
      refine XS.iinc X302.here hx rfl (hb hby d_jdk_52_method_21_code_32) rfl (l' := #[.val (.ref ca), .val (.int ((Int32.ofNat j) + (1 : Int32))), .val (.ref dd), .val (.int (Int32.ofNat i)), .val (.int (Int32.ofNat n)), .val (.int (Int32.ofNat i)), .val (.int (cs.getD j 0))]) rfl ?_
      show Steps p.tables e below (T302.setTop (mkF m 35 #[.val (.ref ca), .val (.int ((Int32.ofNat j) + (1 : Int32))), .val (.ref dd), .val (.int (Int32.ofNat i)), .val (.int (Int32.ofNat n)), .val (.int (Int32.ofNat i)), .val (.int (cs.getD j 0))] [])) _
      refine XS.iinc X302.here hx rfl (hb hby d_jdk_52_method_21_code_35) rfl (l' := #[.val (.ref ca), .val (.int ((Int32.ofNat j) + (1 : Int32))), .val (.ref dd), .val (.int ((Int32.ofNat i) + (1 : Int32))), .val (.int (Int32.ofNat n)), .val (.int (Int32.ofNat i)), .val (.int (cs.getD j 0))]) rfl ?_
      show Steps p.tables e below (T302.setTop (mkF m 38 #[.val (.ref ca), .val (.int ((Int32.ofNat j) + (1 : Int32))), .val (.ref dd), .val (.int ((Int32.ofNat i) + (1 : Int32))), .val (.int (Int32.ofNat n)), .val (.int (Int32.ofNat i)), .val (.int (cs.getD j 0))] [])) _
      refine XS.iinc X302.here hx rfl (hb hby d_jdk_52_method_21_code_38) rfl (l' := #[.val (.ref ca), .val (.int ((Int32.ofNat j) + (1 : Int32))), .val (.ref dd), .val (.int ((Int32.ofNat i) + (1 : Int32))), .val (.int (Int32.ofNat n)), .val (.int ((Int32.ofNat i) + (1 : Int32))), .val (.int (cs.getD j 0))]) rfl ?_
      show Steps p.tables e below (T302.setTop (mkF m 41 #[.val (.ref ca), .val (.int ((Int32.ofNat j) + (1 : Int32))), .val (.ref dd), .val (.int ((Int32.ofNat i) + (1 : Int32))), .val (.int (Int32.ofNat n)), .val (.int ((Int32.ofNat i) + (1 : Int32))), .val (.int (cs.getD j 0))] [])) _
      refine XS.goto X302.here hx rfl (pc0 := 41) (pc' := 3) rfl (hb hby d_jdk_52_method_21_code_41) (by decide) (by decide) ?_
      show Steps p.tables e below (T302.setTop (mkF m 3 #[.val (.ref ca), .val (.int ((Int32.ofNat j) + (1 : Int32))), .val (.ref dd), .val (.int ((Int32.ofNat i) + (1 : Int32))), .val (.int (Int32.ofNat n)), .val (.int ((Int32.ofNat i) + (1 : Int32))), .val (.int (cs.getD j 0))] [])) _
      exact kk)
    have c304 : Arv Z h302 ca kc .char (Int32.ofNat cs.length) (cs.map Value.int) dv := (q0.other W302 hy2)
    have preH : ∀ t, Steps p.tables e below (T302.setTop (mkF m 3 #[.val (.ref ca), .val (.int (Int32.ofNat (j + 1))), .val (.ref dd), .val (.int (Int32.ofNat (i + 1))), .val (.int (Int32.ofNat n)), .val (.int (Int32.ofNat (i + 1))), (Slot.val (.int (cs.getD j 0)))] [])) t → Steps p.tables e below (T0.setTop (mkF m 3 #[.val (.ref ca), .val (.int (Int32.ofNat j)), .val (.ref dd), .val (.int (Int32.ofNat i)), .val (.int (Int32.ofNat n)), .val (.int (Int32.ofNat i)), z6] [])) t := by
      rw [inc_ofNat i, inc_ofNat j]
      exact pre303
    obtain ⟨T9, h9, lo9, X9, e9, N9, K9, pre9⟩ := ih ((i + 1)) ((j + 1)) ((vs.set i (.int (nar .byte ((cs.getD j 0).toInt8.toInt32))))) ((Slot.val (.int (cs.getD j 0)))) T302 h302 _ X302 e302 N302 (Nat.le_trans Z0 (Keep.of_wr W302).1) c304 V302 (One.val rfl) (by simpa using hvl) (by omega) (by omega) (fun q hq => by have z := hlow (q + 1) (by omega); rwa [show j + (q + 1) = j + 1 + q by omega] at z)
    exact ⟨T9, h9, _, X9, e9, N9, (((Keep.refl h0 ([dd] : List Addr)).wr W302 (Or.inl (by simp))).trans K9 (allS (Or.inl (by simp)) all0)), fun t kk => preH t (pre9 t kk)⟩
theorem d_jdk_52_method_21_code_0 : decode jdk_52_method_21_code 0 = .ok (.iconst 0, 1) := by decide +kernel
theorem d_jdk_52_method_21_code_1 : decode jdk_52_method_21_code 1 = .ok (.istore 5, 2) := by decide +kernel
theorem d_jdk_52_method_21_code_25 : decode jdk_52_method_21_code 25 = .ok (.ireturn, 1) := by decide +kernel
theorem ef_0 (m : MethodId) (x0 : Addr) (x1 : Int32) (x2 : Addr) (x3 : Int32) (x4 : Int32) : entryFrame m #[(.ref x0), (.int x1), (.ref x2), (.int x3), (.int x4)] 7 = mkF m 0 #[.val (.ref x0), .val (.int x1), .val (.ref x2), .val (.int x3), .val (.int x4), .unset, .unset] [] := by first | (simp [entryFrame, mkF, argsToLocals, Value.category]; done) | rfl
theorem pn_0 : plainName "java/lang/StringUTF16" = true := by first | (simp [plainName, overriddenIn]; done) | decide +kernel
def Q_cmp5w (Z : State) (ca : Addr) (kc : ClassId) (cs : List Int32) (dv : Value) (dd : Addr) (kd : ClassId) (o : Nat) (n : Nat) (rr : Nat) (vs : List Value) (h0 : Heap) (n0 : Nat) (v : Option Value) (h : Heap) (L : List Loc) : Prop := (v = some (.int (Int32.ofNat rr))) ∧ (Fr n0 L) ∧ (Keep h0 h ([dd] : List Addr))
set_option maxRecDepth 65536 in
set_option maxHeartbeats 40000000 in
theorem rm_cmp5w (l : Launch) (Z : State) (a0 : Array Value) (hw : ∀ d ∈ tables_1, d.before a0 Z = true) (ws : List Jvm.Cond) (ca : Addr) (kc : ClassId) (cs : List Int32) (dv : Value) (dd : Addr) (kd : ClassId) (o : Nat) (n : Nat) (rr : Nat) (vs : List Value) (h0 : Heap) (n0 : Nat) (Z0 : n0 ≤ h0.size) (q0 : Arv Z h0 ca kc .char (Int32.ofNat cs.length) (cs.map Value.int) dv) (hN : cs.length < 2 ^ 31) (q2 : Arv Z h0 dd kd .byte (Int32.ofNat n) vs (.int (0 : Int32))) (q3 : n0 ≤ dd) (q4 : ca ≠ dd) (hvl : vs.length = n) (hon : o + n ≤ cs.length) (hrn : rr < n) (hlow : ∀ q, q < rr → ¬ (255 : Int32) < cs.getD (o + q) 0) (hwide : (255 : Int32) < cs.getD (o + rr) 0) :
    MetFree l (⟨"java/lang/StringUTF16", "compress", "([CI[BII)I"⟩ : MethodName) (head1 (Jvm.Cond.code (⟨"java/lang/StringUTF16", "compress", "([CI[BII)I"⟩ : MethodName) jdk_52_method_21_code 7 (some .int) :: ws) ({ frames := 0, cells := 0, slots := 0, locals := 0 } : Room)) (fun a₁ U₁ => a₁ = #[(.ref ca), (.int (Int32.ofNat o)), (.ref dd), (.int (0 : Int32)), (.int (Int32.ofNat n))] ∧ Z.Warmed39 U₁.vm ∧ U₁.heap = h0) (fun _ _ _ _ _ => True) (fun _ U₁ o₁ U₂ => ∃ v₁ L₁, o₁ = .returned v₁ ∧ Q_cmp5w Z ca kc cs dv dd kd o n rr vs h0 n0 v₁ U₂.heap L₁ ∧ FrameEnd U₁ o₁ U₂ L₁ ({ frames := 0, cells := 0, slots := 0, locals := 0 } : Room).cells ({ frames := 0, cells := 0, slots := 0, locals := 0 } : Room).slots) := by
  refine MetFree.of_bodySF (plainFor_of_name pn_0) hisR ?_
  intro p e s m args below meth c s₁ Bd hml0 hP hK
  obtain ⟨rfl, hZ, hh⟩ := hP
  have hx := Bd.exec
  have hby := Bd.bytes
  have hml : c.maxLocals = 7 := hml0
  have hown : s.vm.findClass "java/lang/StringUTF16" = some m.cls := findClass_of_methodNamed Bd.named
  have hnm := (name_of_methodNamed Bd.named Bd.method).1
  have X0 : Stand p l e ({ frames := 0, cells := 0, slots := 0, locals := 0 } : Room) s m #[(.ref ca), (.int (Int32.ofNat o)), (.ref dd), (.int (0 : Int32)), (.int (Int32.ofNat n))] below meth c s₁ [] 0 0 := Stand.of_body Bd
  have e0 : s₁.heap = h0 := by rw [← hh, Bd.state]; rfl
  have N0 := Fr.nil n0
  have pre0 : ∀ t, Steps p.tables e below (s₁.setTop (mkF m 0 #[.val (.ref ca), .val (.int (Int32.ofNat o)), .val (.ref dd), .val (.int (0 : Int32)), .val (.int (Int32.ofNat n)), .unset, .unset] [])) t → Steps p.tables e below (s₁.setTop (entryFrame m #[(.ref ca), (.int (Int32.ofNat o)), (.ref dd), (.int (0 : Int32)), (.int (Int32.ofNat n))] 7)) t := fun t k => castTop (ef_0 m ca (Int32.ofNat o) dd (0 : Int32) (Int32.ofNat n)) k
  have pre301 : ∀ t, Steps p.tables e below (s₁.setTop (mkF m 3 #[.val (.ref ca), .val (.int (Int32.ofNat o)), .val (.ref dd), .val (.int (0 : Int32)), .val (.int (Int32.ofNat n)), .val (.int (0 : Int32)), .unset] [])) t → Steps p.tables e below (s₁.setTop (entryFrame m #[(.ref ca), (.int (Int32.ofNat o)), (.ref dd), (.int (0 : Int32)), (.int (Int32.ofNat n))] 7)) t := fun t kk => pre0 t (by
    refine XS.iconst X0.here hx rfl (hb hby d_jdk_52_method_21_code_0) ?_
    show Steps p.tables e below (s₁.setTop (mkF m 1 #[.val (.ref ca), .val (.int (Int32.ofNat o)), .val (.ref dd), .val (.int (0 : Int32)), .val (.int (Int32.ofNat n)), .unset, .unset] [(.int (0 : Int32))])) _
    refine XS.istore X0.here hx rfl (hb hby d_jdk_52_method_21_code_1) rfl (l' := #[.val (.ref ca), .val (.int (Int32.ofNat o)), .val (.ref dd), .val (.int (0 : Int32)), .val (.int (Int32.ofNat n)), .val (.int (0 : Int32)), .unset]) rfl ?_
    show Steps p.tables e below (s₁.setTop (mkF m 3 #[.val (.ref ca), .val (.int (Int32.ofNat o)), .val (.ref dd), .val (.int (0 : Int32)), .val (.int (Int32.ofNat n)), .val (.int (0 : Int32)), .unset] [])) _
    exact kk)
  have preh302 : ∀ t, Steps p.tables e below (s₁.setTop (mkF m 3 #[.val (.ref ca), .val (.int (Int32.ofNat o)), .val (.ref dd), .val (.int (Int32.ofNat 0)), .val (.int (Int32.ofNat n)), .val (.int (Int32.ofNat 0)), Slot.unset] [])) t → Steps p.tables e below (s₁.setTop (entryFrame m #[(.ref ca), (.int (Int32.ofNat o)), (.ref dd), (.int (0 : Int32)), (.int (Int32.ofNat n))] 7)) t := by
    exact pre301
  obtain ⟨T302, h302, lo302, X302, e302, N302, K302, st302⟩ := lp_cmp5 (ca) (kc) (cs) (dv) (dd) (kd) (n) (rr) ((o + rr)) hx hZ hw hby hml hown (by decide : 0 ≤ _) (by decide : 0 ≤ _) (by decide) (by decide) hN q3 q4 (by omega) hrn (by omega) hwide rr (0) (o) (vs) (Slot.unset) s₁ h0 _ X0 e0 N0 Z0 q0 q2 (One.u) hvl (by omega) (rfl) (by first | assumption | decide)
  obtain ⟨fs, hr, hrun, hended, hW, hsame⟩ := X302.leave (v := some (.int (Int32.ofNat rr))) (fun h => by rw [Bd.returns] at h; cases h)
  refine ⟨_, _, preh302 _ ?_, hrun, hended, _, _, rfl, ?_, ⟨_, rfl⟩, hW, hsame.mono (by decide) (by decide)⟩
  · refine st302 _ ?_
    show Steps p.tables e below (T302.setTop (mkF m 25 #[.val (.ref ca), .val (.int (Int32.ofNat (o + rr))), .val (.ref dd), .val (.int (Int32.ofNat rr)), .val (.int (Int32.ofNat n)), .val (.int (Int32.ofNat rr)), .val (.int (cs.getD (o + rr) 0))] [(.int (Int32.ofNat rr))])) _
    exact retI X302 hx Bd.returns (hb hby d_jdk_52_method_21_code_25) hr
  · show Q_cmp5w Z ca kc cs dv dd kd o n rr vs h0 n0 _ T302.heap _
    rw [e302]
    exact ⟨rfl, N302, ((Keep.refl h0 ([dd] : List Addr)).trans K302 (allS (Or.inl (by simp)) all0))⟩
theorem own_nb (x : Int32) : nar .byte (x.toInt8.toInt32) = x.toInt8.toInt32 := by
  show (x.toInt8.toInt32).toInt8.toInt32 = x.toInt8.toInt32
  rw [Int8.toInt8_toInt32]
theorem d_jdk_52_method_4_code_0 : decode jdk_52_method_4_code 0 = .ok (.getstatic 44, 3) := by decide +kernel
theorem d_jdk_52_method_4_code_3 : decode jdk_52_method_4_code 3 = .ok (.ifCond .ne 25, 3) := by decide +kernel
theorem d_jdk_52_method_4_code_28 : decode jdk_52_method_4_code 28 = .ok (.iload_n 1, 1) := by decide +kernel
theorem d_jdk_52_method_4_code_29 : decode jdk_52_method_4_code 29 = .ok (.iconst 1, 1) := by decide +kernel
theorem d_jdk_52_method_4_code_30 : decode jdk_52_method_4_code 30 = .ok (.ishl, 1) := by decide +kernel
theorem d_jdk_52_method_4_code_31 : decode jdk_52_method_4_code 31 = .ok (.istore_n 1, 1) := by decide +kernel
theorem d_jdk_52_method_4_code_32 : decode jdk_52_method_4_code 32 = .ok (.aload_n 0, 1) := by decide +kernel
theorem d_jdk_52_method_4_code_33 : decode jdk_52_method_4_code 33 = .ok (.iload_n 1, 1) := by decide +kernel
theorem d_jdk_52_method_4_code_34 : decode jdk_52_method_4_code 34 = .ok (.iinc 1 1, 3) := by decide +kernel
theorem d_jdk_52_method_4_code_37 : decode jdk_52_method_4_code 37 = .ok (.iload_n 2, 1) := by decide +kernel
theorem d_jdk_52_method_4_code_38 : decode jdk_52_method_4_code 38 = .ok (.getstatic 59, 3) := by decide +kernel
theorem d_jdk_52_method_4_code_41 : decode jdk_52_method_4_code 41 = .ok (.ishr, 1) := by decide +kernel
theorem d_jdk_52_method_4_code_42 : decode jdk_52_method_4_code 42 = .ok (.i2b, 1) := by decide +kernel
theorem d_jdk_52_method_4_code_43 : decode jdk_52_method_4_code 43 = .ok (.bastore, 1) := by decide +kernel
theorem d_jdk_52_method_4_code_44 : decode jdk_52_method_4_code 44 = .ok (.aload_n 0, 1) := by decide +kernel
theorem d_jdk_52_method_4_code_45 : decode jdk_52_method_4_code 45 = .ok (.iload_n 1, 1) := by decide +kernel
theorem d_jdk_52_method_4_code_46 : decode jdk_52_method_4_code 46 = .ok (.iload_n 2, 1) := by decide +kernel
theorem d_jdk_52_method_4_code_47 : decode jdk_52_method_4_code 47 = .ok (.getstatic 63, 3) := by decide +kernel
theorem d_jdk_52_method_4_code_50 : decode jdk_52_method_4_code 50 = .ok (.ishr, 1) := by decide +kernel
theorem d_jdk_52_method_4_code_51 : decode jdk_52_method_4_code 51 = .ok (.i2b, 1) := by decide +kernel
theorem d_jdk_52_method_4_code_52 : decode jdk_52_method_4_code 52 = .ok (.bastore, 1) := by decide +kernel
theorem d_jdk_52_method_4_code_53 : decode jdk_52_method_4_code 53 = .ok (.return_, 1) := by decide +kernel
theorem ef_1 (m : MethodId) (x0 : Addr) (x1 : Int32) (x2 : Int32) : entryFrame m #[(.ref x0), (.int x1), (.int x2)] 3 = mkF m 0 #[.val (.ref x0), .val (.int x1), .val (.int x2)] [] := by first | (simp [entryFrame, mkF, argsToLocals, Value.category]; done) | rfl
def Q_putCh (Z : State) (dd : Addr) (ii : Nat) (xc : Int32) (kd : ClassId) (n2 : Nat) (vs : List Value) (h0 : Heap) (n0 : Nat) (v : Option Value) (h : Heap) (L : List Loc) : Prop := (v = none) ∧ (Fr n0 L) ∧ (Keep h0 h ([dd] : List Addr)) ∧ (Arv Z h dd kd .byte (Int32.ofNat n2) ((vs.set (2 * ii) (.int (StrChars.lo8 xc))).set (2 * ii + 1) (.int (StrChars.hi8 xc))) (.int (0 : Int32)))
set_option maxRecDepth 65536 in
set_option maxHeartbeats 40000000 in
theorem rm_putCh (l : Launch) (Z : State) (a0 : Array Value) (hw : ∀ d ∈ tables_1, d.before a0 Z = true) (ws : List Jvm.Cond) (dd : Addr) (ii : Nat) (xc : Int32) (kd : ClassId) (n2 : Nat) (vs : List Value) (h0 : Heap) (n0 : Nat) (Z0 : n0 ≤ h0.size) (q0 : Sta Z Z.heap "java/lang/StringUTF16" "$assertionsDisabled" "Z" (.int (1 : Int32))) (q1 : Sta Z Z.heap "java/lang/StringUTF16" "HI_BYTE_SHIFT" "I" (.int (0 : Int32))) (q2 : Sta Z Z.heap "java/lang/StringUTF16" "LO_BYTE_SHIFT" "I" (.int (8 : Int32))) (q3 : Old Z n0 h0) (q4 : Arv Z h0 dd kd .byte (Int32.ofNat n2) vs (.int (0 : Int32))) (q5 : n0 ≤ dd) (hi2 : 2 * ii + 1 < n2) (hn2 : n2 < 2 ^ 31) (hvl : vs.length = n2) :
    MetFree l (⟨"java/lang/StringUTF16", "putChar", "([BII)V"⟩ : MethodName) (head1 (Jvm.Cond.code (⟨"java/lang/StringUTF16", "putChar", "([BII)V"⟩ : MethodName) jdk_52_method_4_code 3 none :: ws) ({ frames := 0, cells := 0, slots := 0, locals := 0 } : Room)) (fun a₁ U₁ => a₁ = #[(.ref dd), (.int (Int32.ofNat ii)), (.int xc)] ∧ Z.Warmed39 U₁.vm ∧ U₁.heap = h0) (fun _ _ _ _ _ => True) (fun _ U₁ o₁ U₂ => ∃ v₁ L₁, o₁ = .returned v₁ ∧ Q_putCh Z dd ii xc kd n2 vs h0 n0 v₁ U₂.heap L₁ ∧ FrameEnd U₁ o₁ U₂ L₁ ({ frames := 0, cells := 0, slots := 0, locals := 0 } : Room).cells ({ frames := 0, cells := 0, slots := 0, locals := 0 } : Room).slots) := by
  refine MetFree.of_bodySF (plainFor_of_name pn_0) hisR ?_
  intro p e s m args below meth c s₁ Bd hml0 hP hK
  obtain ⟨rfl, hZ, hh⟩ := hP
  have hx := Bd.exec
  have hby := Bd.bytes
  have hml : c.maxLocals = 3 := hml0
  have hown : s.vm.findClass "java/lang/StringUTF16" = some m.cls := findClass_of_methodNamed Bd.named
  have hnm := (name_of_methodNamed Bd.named Bd.method).1
  have X0 : Stand p l e ({ frames := 0, cells := 0, slots := 0, locals := 0 } : Room) s m #[(.ref dd), (.int (Int32.ofNat ii)), (.int xc)] below meth c s₁ [] 0 0 := Stand.of_body Bd
  have e0 : s₁.heap = h0 := by rw [← hh, Bd.state]; rfl
  have N0 := Fr.nil n0
  have pre0 : ∀ t, Steps p.tables e below (s₁.setTop (mkF m 0 #[.val (.ref dd), .val (.int (Int32.ofNat ii)), .val (.int xc)] [])) t → Steps p.tables e below (s₁.setTop (entryFrame m #[(.ref dd), (.int (Int32.ofNat ii)), (.int xc)] 3)) t := fun t k => castTop (ef_1 m dd (Int32.ofNat ii) xc) k
  obtain ⟨T301, X301, e301, st301⟩ := getS2 X0 hx hZ hown (host := "") (Or.inl (hw _ (List.mem_of_getElem? (i := 195) rfl))) Via.refl e0 (q0.ext q3.2) (g := (mkF m 0 #[.val (.ref dd), .val (.int (Int32.ofNat ii)), .val (.int xc)] [])) rfl (hb hby d_jdk_52_method_4_code_0)
  obtain ⟨T302, X302, e302, st302⟩ := getS2 X301 hx hZ hown (host := "") (Or.inl (hw _ (List.mem_of_getElem? (i := 196) rfl))) Via.refl e301 (q1.ext q3.2) (g := (mkF m 38 #[.val (.ref dd), .val (.int (Int32.ofNat (2 * ii + 1))), .val (.int xc)] [(.int xc), (.int (Int32.ofNat (2 * ii))), (.ref dd)])) rfl (hb hby d_jdk_52_method_4_code_38)
  obtain ⟨cl303, Ar303, qq303, S303, M303, Hh303, U303⟩ := id q4
  obtain ⟨T303, h303, X303, e303, W303, st303⟩ := stB X302 hx hZ e302 Ar303 (j := (Int32.ofNat (2 * ii))) (inb_of S303 (own_inb (by omega) hn2)) (g := (mkF m 43 #[.val (.ref dd), .val (.int (Int32.ofNat (2 * ii + 1))), .val (.int xc)] [(.int ((xc >>> ((0 : Int32) &&& 31)).toInt8.toInt32)), (.int (Int32.ofNat (2 * ii))), (.ref dd)])) rfl rfl (hb hby d_jdk_52_method_4_code_43)
  have N303 := Fr.snoc X303 N0 q5
  have V303 : Arv Z h303 dd kd .byte (Int32.ofNat n2) (vs.set (2 * ii) (.int (nar .byte ((xc >>> ((0 : Int32) &&& 31)).toInt8.toInt32)))) (.int (0 : Int32)) := Arv.set Ar303 qq303 S303 M303 Hh303 U303 (fits_nar_byte _) W303 (2 * ii) (own_clamp (by omega)) (by omega)
  have R304 : Arv Z h303 dd kd .byte (Int32.ofNat n2) (vs.set (2 * ii) (.int (StrChars.lo8 xc))) (.int (0 : Int32)) := by have q := V303; rw [own_nb, StrChars.shr0] at q; exact q
  have c306 : Old Z n0 h303 := (q3.wr W303 q5)
  obtain ⟨T305, X305, e305, st305⟩ := getS2 X303 hx hZ hown (host := "") (Or.inl (hw _ (List.mem_of_getElem? (i := 197) rfl))) Via.refl e303 (q2.ext c306.2) (g := (mkF m 47 #[.val (.ref dd), .val (.int (Int32.ofNat (2 * ii + 1))), .val (.int xc)] [(.int xc), (.int (Int32.ofNat (2 * ii + 1))), (.ref dd)])) rfl (hb hby d_jdk_52_method_4_code_47)
  obtain ⟨cl307, Ar307, qq307, S307, M307, Hh307, U307⟩ := id R304
  obtain ⟨T307, h307, X307, e307, W307, st307⟩ := stB X305 hx hZ e305 Ar307 (j := (Int32.ofNat (2 * ii + 1))) (inb_of S307 (own_inb hi2 hn2)) (g := (mkF m 52 #[.val (.ref dd), .val (.int (Int32.ofNat (2 * ii + 1))), .val (.int xc)] [(.int ((xc >>> ((8 : Int32) &&& 31)).toInt8.toInt32)), (.int (Int32.ofNat (2 * ii + 1))), (.ref dd)])) rfl rfl (hb hby d_jdk_52_method_4_code_52)
  have N307 := Fr.snoc X307 N303 q5
  have V307 : Arv Z h307 dd kd .byte (Int32.ofNat n2) ((vs.set (2 * ii) (.int (StrChars.lo8 xc))).set (2 * ii + 1) (.int (nar .byte ((xc >>> ((8 : Int32) &&& 31)).toInt8.toInt32)))) (.int (0 : Int32)) := Arv.set Ar307 qq307 S307 M307 Hh307 U307 (fits_nar_byte _) W307 (2 * ii + 1) (own_clamp (by omega)) (by rw [List.length_set]; omega)
  have R308 : Arv Z h307 dd kd .byte (Int32.ofNat n2) ((vs.set (2 * ii) (.int (StrChars.lo8 xc))).set (2 * ii + 1) (.int (StrChars.hi8 xc))) (.int (0 : Int32)) := by have q := V307; rw [own_nb] at q; exact q
  obtain ⟨fs, hr, hrun, hended, hW, hsame⟩ := X307.leave (v := none) (fun _ => rfl)
  refine ⟨_, _, pre0 _ ?_, hrun, hended, _, _, rfl, ?_, ⟨_, rfl⟩, hW, hsame.mono (by decide) (by decide)⟩
  · refine st301 _ ?_
    show Steps p.tables e below (T301.setTop (mkF m 3 #[.val (.ref dd), .val (.int (Int32.ofNat ii)), .val (.int xc)] [(.int (1 : Int32))])) _
    refine XS.ifYes X301.here hx rfl (pc0 := 3) (pc' := 28) rfl (hb hby d_jdk_52_method_4_code_3) rfl ((if0 _ _).trans (feq ((by decide) : ¬ ((1 : Int32) = (0 : Int32)))).2) (by decide) (by decide) ?_
    show Steps p.tables e below (T301.setTop (mkF m 28 #[.val (.ref dd), .val (.int (Int32.ofNat ii)), .val (.int xc)] [])) _
    refine XS.iloadN X301.here hx rfl (hb hby d_jdk_52_method_4_code_28) rfl ?_
    show Steps p.tables e below (T301.setTop (mkF m 29 #[.val (.ref dd), .val (.int (Int32.ofNat ii)), .val (.int xc)] [(.int (Int32.ofNat ii))])) _
    refine XS.iconst X301.here hx rfl (hb hby d_jdk_52_method_4_code_29) ?_
    show Steps p.tables e below (T301.setTop (mkF m 30 #[.val (.ref dd), .val (.int (Int32.ofNat ii)), .val (.int xc)] [(.int (1 : Int32)), (.int (Int32.ofNat ii))])) _
    refine XS.ishl X301.here hx rfl (hb hby d_jdk_52_method_4_code_30) rfl ?_
    show Steps p.tables e below (T301.setTop (mkF m 31 #[.val (.ref dd), .val (.int (Int32.ofNat ii)), .val (.int xc)] [(.int ((Int32.ofNat ii) <<< ((1 : Int32) &&& 31)))])) _
    rw [own_shl1]
    show Steps p.tables e below (T301.setTop (mkF m 31 #[.val (.ref dd), .val (.int (Int32.ofNat ii)), .val (.int xc)] [(.int (Int32.ofNat (2 * ii)))])) _
    refine XS.istoreN X301.here hx rfl (hb hby d_jdk_52_method_4_code_31) rfl (l' := #[.val (.ref dd), .val (.int (Int32.ofNat (2 * ii))), .val (.int xc)]) rfl ?_
    show Steps p.tables e below (T301.setTop (mkF m 32 #[.val (.ref dd), .val (.int (Int32.ofNat (2 * ii))), .val (.int xc)] [])) _
    refine XS.aloadN X301.here hx rfl (hb hby d_jdk_52_method_4_code_32) rfl rfl ?_
    show Steps p.tables e below (T301.setTop (mkF m 33 #[.val (.ref dd), .val (.int (Int32.ofNat (2 * ii))), .val (.int xc)] [(.ref dd)])) _
    refine XS.iloadN X301.here hx rfl (hb hby d_jdk_52_method_4_code_33) rfl ?_
    show Steps p.tables e below (T301.setTop (mkF m 34 #[.val (.ref dd), .val (.int (Int32.ofNat (2 * ii))), .val (.int xc)] [(.int (Int32.ofNat (2 * ii))), (.ref dd)])) _
    refine XS.iinc X301.here hx rfl (hb hby d_jdk_52_method_4_code_34) rfl (l' := #[.val (.ref dd), .val (.int ((Int32.ofNat (2 * ii)) + (1 : Int32))), .val (.int xc)]) rfl ?_
    show Steps p.tables e below (T301.setTop (mkF m 37 #[.val (.ref dd), .val (.int ((Int32.ofNat (2 * ii)) + (1 : Int32))), .val (.int xc)] [(.int (Int32.ofNat (2 * ii))), (.ref dd)])) _
    rw [← inc_ofNat]
    show Steps p.tables e below (T301.setTop (mkF m 37 #[.val (.ref dd), .val (.int (Int32.ofNat (2 * ii + 1))), .val (.int xc)] [(.int (Int32.ofNat (2 * ii))), (.ref dd)])) _
    refine XS.iloadN X301.here hx rfl (hb hby d_jdk_52_method_4_code_37) rfl ?_
    show Steps p.tables e below (T301.setTop (mkF m 38 #[.val (.ref dd), .val (.int (Int32.ofNat (2 * ii + 1))), .val (.int xc)] [(.int xc), (.int (Int32.ofNat (2 * ii))), (.ref dd)])) _
    refine st302 _ ?_
    show Steps p.tables e below (T302.setTop (mkF m 41 #[.val (.ref dd), .val (.int (Int32.ofNat (2 * ii + 1))), .val (.int xc)] [(.int (0 : Int32)), (.int xc), (.int (Int32.ofNat (2 * ii))), (.ref dd)])) _
    refine XS.ishr X302.here hx rfl (hb hby d_jdk_52_method_4_code_41) rfl ?_
    show Steps p.tables e below (T302.setTop (mkF m 42 #[.val (.ref dd), .val (.int (Int32.ofNat (2 * ii + 1))), .val (.int xc)] [(.int (xc >>> ((0 : Int32) &&& 31))), (.int (Int32.ofNat (2 * ii))), (.ref dd)])) _
    refine XS.i2b X302.here hx rfl (hb hby d_jdk_52_method_4_code_42) rfl ?_
    show Steps p.tables e below (T302.setTop (mkF m 43 #[.val (.ref dd), .val (.int (Int32.ofNat (2 * ii + 1))), .val (.int xc)] [(.int ((xc >>> ((0 : Int32) &&& 31)).toInt8.toInt32)), (.int (Int32.ofNat (2 * ii))), (.ref dd)])) _
    refine st303 _ ?_
    show Steps p.tables e below (T303.setTop (mkF m 44 #[.val (.ref dd), .val (.int (Int32.ofNat (2 * ii + 1))), .val (.int xc)] [])) _
    refine XS.aloadN X303.here hx rfl (hb hby d_jdk_52_method_4_code_44) rfl rfl ?_
    show Steps p.tables e below (T303.setTop (mkF m 45 #[.val (.ref dd), .val (.int (Int32.ofNat (2 * ii + 1))), .val (.int xc)] [(.ref dd)])) _
    refine XS.iloadN X303.here hx rfl (hb hby d_jdk_52_method_4_code_45) rfl ?_
    show Steps p.tables e below (T303.setTop (mkF m 46 #[.val (.ref dd), .val (.int (Int32.ofNat (2 * ii + 1))), .val (.int xc)] [(.int (Int32.ofNat (2 * ii + 1))), (.ref dd)])) _
    refine XS.iloadN X303.here hx rfl (hb hby d_jdk_52_method_4_code_46) rfl ?_
    show Steps p.tables e below (T303.setTop (mkF m 47 #[.val (.ref dd), .val (.int (Int32.ofNat (2 * ii + 1))), .val (.int xc)] [(.int xc), (.int (Int32.ofNat (2 * ii + 1))), (.ref dd)])) _
    refine st305 _ ?_
    show Steps p.tables e below (T305.setTop (mkF m 50 #[.val (.ref dd), .val (.int (Int32.ofNat (2 * ii + 1))), .val (.int xc)] [(.int (8 : Int32)), (.int xc), (.int (Int32.ofNat (2 * ii + 1))), (.ref dd)])) _
    refine XS.ishr X305.here hx rfl (hb hby d_jdk_52_method_4_code_50) rfl ?_
    show Steps p.tables e below (T305.setTop (mkF m 51 #[.val (.ref dd), .val (.int (Int32.ofNat (2 * ii + 1))), .val (.int xc)] [(.int (xc >>> ((8 : Int32) &&& 31))), (.int (Int32.ofNat (2 * ii + 1))), (.ref dd)])) _
    refine XS.i2b X305.here hx rfl (hb hby d_jdk_52_method_4_code_51) rfl ?_
    show Steps p.tables e below (T305.setTop (mkF m 52 #[.val (.ref dd), .val (.int (Int32.ofNat (2 * ii + 1))), .val (.int xc)] [(.int ((xc >>> ((8 : Int32) &&& 31)).toInt8.toInt32)), (.int (Int32.ofNat (2 * ii + 1))), (.ref dd)])) _
    refine st307 _ ?_
    show Steps p.tables e below (T307.setTop (mkF m 53 #[.val (.ref dd), .val (.int (Int32.ofNat (2 * ii + 1))), .val (.int xc)] [])) _
    exact X307.returnOut hx Bd.returns (hb hby d_jdk_52_method_4_code_53) hr
  · show Q_putCh Z dd ii xc kd n2 vs h0 n0 _ T307.heap _
    rw [e307]
    exact ⟨rfl, N307, (((Keep.refl h0 ([dd] : List Addr)).wr W303 (Or.inl (by simp))).wr W307 (Or.inl (by simp))), R308⟩
theorem d_jdk_52_method_5_code_0 : decode jdk_52_method_5_code 0 = .ok (.getstatic 44, 3) := by decide +kernel
theorem d_jdk_52_method_5_code_3 : decode jdk_52_method_5_code 3 = .ok (.ifCond .ne 25, 3) := by decide +kernel
theorem d_jdk_52_method_5_code_28 : decode jdk_52_method_5_code 28 = .ok (.iload_n 1, 1) := by decide +kernel
theorem d_jdk_52_method_5_code_29 : decode jdk_52_method_5_code 29 = .ok (.iconst 1, 1) := by decide +kernel
theorem d_jdk_52_method_5_code_30 : decode jdk_52_method_5_code 30 = .ok (.ishl, 1) := by decide +kernel
theorem d_jdk_52_method_5_code_31 : decode jdk_52_method_5_code 31 = .ok (.istore_n 1, 1) := by decide +kernel
theorem d_jdk_52_method_5_code_32 : decode jdk_52_method_5_code 32 = .ok (.aload_n 0, 1) := by decide +kernel
theorem d_jdk_52_method_5_code_33 : decode jdk_52_method_5_code 33 = .ok (.iload_n 1, 1) := by decide +kernel
theorem d_jdk_52_method_5_code_34 : decode jdk_52_method_5_code 34 = .ok (.iinc 1 1, 3) := by decide +kernel
theorem d_jdk_52_method_5_code_37 : decode jdk_52_method_5_code 37 = .ok (.baload, 1) := by decide +kernel
theorem d_jdk_52_method_5_code_38 : decode jdk_52_method_5_code 38 = .ok (.sipush 255, 3) := by decide +kernel
theorem d_jdk_52_method_5_code_41 : decode jdk_52_method_5_code 41 = .ok (.iand, 1) := by decide +kernel
theorem d_jdk_52_method_5_code_42 : decode jdk_52_method_5_code 42 = .ok (.getstatic 59, 3) := by decide +kernel
theorem d_jdk_52_method_5_code_45 : decode jdk_52_method_5_code 45 = .ok (.ishl, 1) := by decide +kernel
theorem d_jdk_52_method_5_code_46 : decode jdk_52_method_5_code 46 = .ok (.aload_n 0, 1) := by decide +kernel
theorem d_jdk_52_method_5_code_47 : decode jdk_52_method_5_code 47 = .ok (.iload_n 1, 1) := by decide +kernel
theorem d_jdk_52_method_5_code_48 : decode jdk_52_method_5_code 48 = .ok (.baload, 1) := by decide +kernel
theorem d_jdk_52_method_5_code_49 : decode jdk_52_method_5_code 49 = .ok (.sipush 255, 3) := by decide +kernel
theorem d_jdk_52_method_5_code_52 : decode jdk_52_method_5_code 52 = .ok (.iand, 1) := by decide +kernel
theorem d_jdk_52_method_5_code_53 : decode jdk_52_method_5_code 53 = .ok (.getstatic 63, 3) := by decide +kernel
theorem d_jdk_52_method_5_code_56 : decode jdk_52_method_5_code 56 = .ok (.ishl, 1) := by decide +kernel
theorem d_jdk_52_method_5_code_57 : decode jdk_52_method_5_code 57 = .ok (.ior, 1) := by decide +kernel
theorem d_jdk_52_method_5_code_58 : decode jdk_52_method_5_code 58 = .ok (.i2c, 1) := by decide +kernel
theorem d_jdk_52_method_5_code_59 : decode jdk_52_method_5_code 59 = .ok (.ireturn, 1) := by decide +kernel
theorem ef_2 (m : MethodId) (x0 : Addr) (x1 : Int32) : entryFrame m #[(.ref x0), (.int x1)] 2 = mkF m 0 #[.val (.ref x0), .val (.int x1)] [] := by first | (simp [entryFrame, mkF, argsToLocals, Value.category]; done) | rfl
def Q_getCh (Z : State) (dd : Addr) (ii : Nat) (xc : Int32) (kd : ClassId) (n2 : Nat) (vs : List Value) (h0 : Heap) (n0 : Nat) (v : Option Value) (h : Heap) (L : List Loc) : Prop := (v = some (.int xc)) ∧ (Fr n0 L) ∧ (h = h0)
set_option maxRecDepth 65536 in
set_option maxHeartbeats 40000000 in
theorem rm_getCh (l : Launch) (Z : State) (a0 : Array Value) (hw : ∀ d ∈ tables_1, d.before a0 Z = true) (ws : List Jvm.Cond) (dd : Addr) (ii : Nat) (xc : Int32) (kd : ClassId) (n2 : Nat) (vs : List Value) (h0 : Heap) (n0 : Nat) (Z0 : n0 ≤ h0.size) (q0 : Sta Z Z.heap "java/lang/StringUTF16" "$assertionsDisabled" "Z" (.int (1 : Int32))) (q1 : Sta Z Z.heap "java/lang/StringUTF16" "HI_BYTE_SHIFT" "I" (.int (0 : Int32))) (q2 : Sta Z Z.heap "java/lang/StringUTF16" "LO_BYTE_SHIFT" "I" (.int (8 : Int32))) (q3 : Old Z n0 h0) (q4 : Arv Z h0 dd kd .byte (Int32.ofNat n2) vs (.int (0 : Int32))) (hi2 : 2 * ii + 1 < n2) (hn2 : n2 < 2 ^ 31) (hlo_ : vs.getD (2 * ii) (.int (0 : Int32)) = (.int (StrChars.lo8 xc))) (hhi_ : vs.getD (2 * ii + 1) (.int (0 : Int32)) = (.int (StrChars.hi8 xc))) (hc0 : ¬ xc < 0) (hc1 : ¬ (65535 : Int32) < xc) :
    MetFree l (⟨"java/lang/StringUTF16", "getChar", "([BI)C"⟩ : MethodName) (head1 (Jvm.Cond.code (⟨"java/lang/StringUTF16", "getChar", "([BI)C"⟩ : MethodName) jdk_52_method_5_code 2 (some .char) :: ws) ({ frames := 0, cells := 0, slots := 0, locals := 0 } : Room)) (fun a₁ U₁ => a₁ = #[(.ref dd), (.int (Int32.ofNat ii))] ∧ Z.Warmed39 U₁.vm ∧ U₁.heap = h0) (fun _ _ _ _ _ => True) (fun _ U₁ o₁ U₂ => ∃ v₁ L₁, o₁ = .returned v₁ ∧ Q_getCh Z dd ii xc kd n2 vs h0 n0 v₁ U₂.heap L₁ ∧ FrameEnd U₁ o₁ U₂ L₁ ({ frames := 0, cells := 0, slots := 0, locals := 0 } : Room).cells ({ frames := 0, cells := 0, slots := 0, locals := 0 } : Room).slots) := by
  refine MetFree.of_bodySF (plainFor_of_name pn_0) hisR ?_
  intro p e s m args below meth c s₁ Bd hml0 hP hK
  obtain ⟨rfl, hZ, hh⟩ := hP
  have hx := Bd.exec
  have hby := Bd.bytes
  have hml : c.maxLocals = 2 := hml0
  have hown : s.vm.findClass "java/lang/StringUTF16" = some m.cls := findClass_of_methodNamed Bd.named
  have hnm := (name_of_methodNamed Bd.named Bd.method).1
  have X0 : Stand p l e ({ frames := 0, cells := 0, slots := 0, locals := 0 } : Room) s m #[(.ref dd), (.int (Int32.ofNat ii))] below meth c s₁ [] 0 0 := Stand.of_body Bd
  have e0 : s₁.heap = h0 := by rw [← hh, Bd.state]; rfl
  have N0 := Fr.nil n0
  have pre0 : ∀ t, Steps p.tables e below (s₁.setTop (mkF m 0 #[.val (.ref dd), .val (.int (Int32.ofNat ii))] [])) t → Steps p.tables e below (s₁.setTop (entryFrame m #[(.ref dd), (.int (Int32.ofNat ii))] 2)) t := fun t k => castTop (ef_2 m dd (Int32.ofNat ii)) k
  obtain ⟨T301, X301, e301, st301⟩ := getS2 X0 hx hZ hown (host := "") (Or.inl (hw _ (List.mem_of_getElem? (i := 195) rfl))) Via.refl e0 (q0.ext q3.2) (g := (mkF m 0 #[.val (.ref dd), .val (.int (Int32.ofNat ii))] [])) rfl (hb hby d_jdk_52_method_5_code_0)
  obtain ⟨cl302, Ar302, qq302, S302, M302, Hh302, U302⟩ := id q4
  have ib302 : ¬ ((Int32.ofNat (2 * ii)) < 0 ∨ cl302.slots.size ≤ ((Int32.ofNat (2 * ii))).toNatClampNeg) := inb_of S302 (own_inb (by omega) hn2)
  obtain ⟨T303, X303, e303, st303⟩ := getS2 X301 hx hZ hown (host := "") (Or.inl (hw _ (List.mem_of_getElem? (i := 196) rfl))) Via.refl e301 (q1.ext q3.2) (g := (mkF m 42 #[.val (.ref dd), .val (.int (Int32.ofNat (2 * ii + 1)))] [(.int ((StrChars.lo8 xc) &&& (255 : Int32)))])) rfl (hb hby d_jdk_52_method_5_code_42)
  obtain ⟨cl304, Ar304, qq304, S304, M304, Hh304, U304⟩ := id q4
  have ib304 : ¬ ((Int32.ofNat (2 * ii + 1)) < 0 ∨ cl304.slots.size ≤ ((Int32.ofNat (2 * ii + 1))).toNatClampNeg) := inb_of S304 (own_inb hi2 hn2)
  obtain ⟨T305, X305, e305, st305⟩ := getS2 X303 hx hZ hown (host := "") (Or.inl (hw _ (List.mem_of_getElem? (i := 197) rfl))) Via.refl e303 (q2.ext q3.2) (g := (mkF m 53 #[.val (.ref dd), .val (.int (Int32.ofNat (2 * ii + 1)))] [(.int ((StrChars.hi8 xc) &&& (255 : Int32))), (.int (((StrChars.lo8 xc) &&& (255 : Int32)) <<< ((0 : Int32) &&& 31)))])) rfl (hb hby d_jdk_52_method_5_code_53)
  obtain ⟨fs, hr, hrun, hended, hW, hsame⟩ := X305.leave (v := some (.int xc)) (fun h => by rw [Bd.returns] at h; cases h)
  refine ⟨_, _, pre0 _ ?_, hrun, hended, _, _, rfl, ?_, ⟨_, rfl⟩, hW, hsame.mono (by decide) (by decide)⟩
  · refine st301 _ ?_
    show Steps p.tables e below (T301.setTop (mkF m 3 #[.val (.ref dd), .val (.int (Int32.ofNat ii))] [(.int (1 : Int32))])) _
    refine XS.ifYes X301.here hx rfl (pc0 := 3) (pc' := 28) rfl (hb hby d_jdk_52_method_5_code_3) rfl ((if0 _ _).trans (feq ((by decide) : ¬ ((1 : Int32) = (0 : Int32)))).2) (by decide) (by decide) ?_
    show Steps p.tables e below (T301.setTop (mkF m 28 #[.val (.ref dd), .val (.int (Int32.ofNat ii))] [])) _
    refine XS.iloadN X301.here hx rfl (hb hby d_jdk_52_method_5_code_28) rfl ?_
    show Steps p.tables e below (T301.setTop (mkF m 29 #[.val (.ref dd), .val (.int (Int32.ofNat ii))] [(.int (Int32.ofNat ii))])) _
    refine XS.iconst X301.here hx rfl (hb hby d_jdk_52_method_5_code_29) ?_
    show Steps p.tables e below (T301.setTop (mkF m 30 #[.val (.ref dd), .val (.int (Int32.ofNat ii))] [(.int (1 : Int32)), (.int (Int32.ofNat ii))])) _
    refine XS.ishl X301.here hx rfl (hb hby d_jdk_52_method_5_code_30) rfl ?_
    show Steps p.tables e below (T301.setTop (mkF m 31 #[.val (.ref dd), .val (.int (Int32.ofNat ii))] [(.int ((Int32.ofNat ii) <<< ((1 : Int32) &&& 31)))])) _
    rw [own_shl1]
    show Steps p.tables e below (T301.setTop (mkF m 31 #[.val (.ref dd), .val (.int (Int32.ofNat ii))] [(.int (Int32.ofNat (2 * ii)))])) _
    refine XS.istoreN X301.here hx rfl (hb hby d_jdk_52_method_5_code_31) rfl (l' := #[.val (.ref dd), .val (.int (Int32.ofNat (2 * ii)))]) rfl ?_
    show Steps p.tables e below (T301.setTop (mkF m 32 #[.val (.ref dd), .val (.int (Int32.ofNat (2 * ii)))] [])) _
    refine XS.aloadN X301.here hx rfl (hb hby d_jdk_52_method_5_code_32) rfl rfl ?_
    show Steps p.tables e below (T301.setTop (mkF m 33 #[.val (.ref dd), .val (.int (Int32.ofNat (2 * ii)))] [(.ref dd)])) _
    refine XS.iloadN X301.here hx rfl (hb hby d_jdk_52_method_5_code_33) rfl ?_
    show Steps p.tables e below (T301.setTop (mkF m 34 #[.val (.ref dd), .val (.int (Int32.ofNat (2 * ii)))] [(.int (Int32.ofNat (2 * ii))), (.ref dd)])) _
    refine XS.iinc X301.here hx rfl (hb hby d_jdk_52_method_5_code_34) rfl (l' := #[.val (.ref dd), .val (.int ((Int32.ofNat (2 * ii)) + (1 : Int32)))]) rfl ?_
    show Steps p.tables e below (T301.setTop (mkF m 37 #[.val (.ref dd), .val (.int ((Int32.ofNat (2 * ii)) + (1 : Int32)))] [(.int (Int32.ofNat (2 * ii))), (.ref dd)])) _
    rw [← inc_ofNat]
    show Steps p.tables e below (T301.setTop (mkF m 37 #[.val (.ref dd), .val (.int (Int32.ofNat (2 * ii + 1)))] [(.int (Int32.ofNat (2 * ii))), (.ref dd)])) _
    refine X301.baloadBytes hx (j := (Int32.ofNat (2 * ii))) (v := (.int (StrChars.lo8 xc))) (by rw [e301]; exact Ar302.1) (State.isArrayOf_alike hZ.alike Ar302.2.1) Ar302.2.2 ib302 (Hh302.at ib302 (by rw [own_clamp (by omega)]; exact hlo_)) (g := (mkF m 37 #[.val (.ref dd), .val (.int (Int32.ofNat (2 * ii + 1)))] [(.int (Int32.ofNat (2 * ii))), (.ref dd)])) rfl rfl (hb hby d_jdk_52_method_5_code_37) _ ?_
    show Steps p.tables e below (T301.setTop (mkF m 38 #[.val (.ref dd), .val (.int (Int32.ofNat (2 * ii + 1)))] [(.int (StrChars.lo8 xc))])) _
    refine XS.sipush X301.here hx rfl (hb hby d_jdk_52_method_5_code_38) ?_
    show Steps p.tables e below (T301.setTop (mkF m 41 #[.val (.ref dd), .val (.int (Int32.ofNat (2 * ii + 1)))] [(.int (255 : Int32)), (.int (StrChars.lo8 xc))])) _
    refine XS.iand X301.here hx rfl (hb hby d_jdk_52_method_5_code_41) rfl ?_
    show Steps p.tables e below (T301.setTop (mkF m 42 #[.val (.ref dd), .val (.int (Int32.ofNat (2 * ii + 1)))] [(.int ((StrChars.lo8 xc) &&& (255 : Int32)))])) _
    refine st303 _ ?_
    show Steps p.tables e below (T303.setTop (mkF m 45 #[.val (.ref dd), .val (.int (Int32.ofNat (2 * ii + 1)))] [(.int (0 : Int32)), (.int ((StrChars.lo8 xc) &&& (255 : Int32)))])) _
    refine XS.ishl X303.here hx rfl (hb hby d_jdk_52_method_5_code_45) rfl ?_
    show Steps p.tables e below (T303.setTop (mkF m 46 #[.val (.ref dd), .val (.int (Int32.ofNat (2 * ii + 1)))] [(.int (((StrChars.lo8 xc) &&& (255 : Int32)) <<< ((0 : Int32) &&& 31)))])) _
    refine XS.aloadN X303.here hx rfl (hb hby d_jdk_52_method_5_code_46) rfl rfl ?_
    show Steps p.tables e below (T303.setTop (mkF m 47 #[.val (.ref dd), .val (.int (Int32.ofNat (2 * ii + 1)))] [(.ref dd), (.int (((StrChars.lo8 xc) &&& (255 : Int32)) <<< ((0 : Int32) &&& 31)))])) _
    refine XS.iloadN X303.here hx rfl (hb hby d_jdk_52_method_5_code_47) rfl ?_
    show Steps p.tables e below (T303.setTop (mkF m 48 #[.val (.ref dd), .val (.int (Int32.ofNat (2 * ii + 1)))] [(.int (Int32.ofNat (2 * ii + 1))), (.ref dd), (.int (((StrChars.lo8 xc) &&& (255 : Int32)) <<< ((0 : Int32) &&& 31)))])) _
    refine X303.baloadBytes hx (j := (Int32.ofNat (2 * ii + 1))) (v := (.int (StrChars.hi8 xc))) (by rw [e303]; exact Ar304.1) (State.isArrayOf_alike hZ.alike Ar304.2.1) Ar304.2.2 ib304 (Hh304.at ib304 (by rw [own_clamp (by omega)]; exact hhi_)) (g := (mkF m 48 #[.val (.ref dd), .val (.int (Int32.ofNat (2 * ii + 1)))] [(.int (Int32.ofNat (2 * ii + 1))), (.ref dd), (.int (((StrChars.lo8 xc) &&& (255 : Int32)) <<< ((0 : Int32) &&& 31)))])) rfl rfl (hb hby d_jdk_52_method_5_code_48) _ ?_
    show Steps p.tables e below (T303.setTop (mkF m 49 #[.val (.ref dd), .val (.int (Int32.ofNat (2 * ii + 1)))] [(.int (StrChars.hi8 xc)), (.int (((StrChars.lo8 xc) &&& (255 : Int32)) <<< ((0 : Int32) &&& 31)))])) _
    refine XS.sipush X303.here hx rfl (hb hby d_jdk_52_method_5_code_49) ?_
    show Steps p.tables e below (T303.setTop (mkF m 52 #[.val (.ref dd), .val (.int (Int32.ofNat (2 * ii + 1)))] [(.int (255 : Int32)), (.int (StrChars.hi8 xc)), (.int (((StrChars.lo8 xc) &&& (255 : Int32)) <<< ((0 : Int32) &&& 31)))])) _
    refine XS.iand X303.here hx rfl (hb hby d_jdk_52_method_5_code_52) rfl ?_
    show Steps p.tables e below (T303.setTop (mkF m 53 #[.val (.ref dd), .val (.int (Int32.ofNat (2 * ii + 1)))] [(.int ((StrChars.hi8 xc) &&& (255 : Int32))), (.int (((StrChars.lo8 xc) &&& (255 : Int32)) <<< ((0 : Int32) &&& 31)))])) _
    refine st305 _ ?_
    show Steps p.tables e below (T305.setTop (mkF m 56 #[.val (.ref dd), .val (.int (Int32.ofNat (2 * ii + 1)))] [(.int (8 : Int32)), (.int ((StrChars.hi8 xc) &&& (255 : Int32))), (.int (((StrChars.lo8 xc) &&& (255 : Int32)) <<< ((0 : Int32) &&& 31)))])) _
    refine XS.ishl X305.here hx rfl (hb hby d_jdk_52_method_5_code_56) rfl ?_
    show Steps p.tables e below (T305.setTop (mkF m 57 #[.val (.ref dd), .val (.int (Int32.ofNat (2 * ii + 1)))] [(.int (((StrChars.hi8 xc) &&& (255 : Int32)) <<< ((8 : Int32) &&& 31))), (.int (((StrChars.lo8 xc) &&& (255 : Int32)) <<< ((0 : Int32) &&& 31)))])) _
    refine XS.ior X305.here hx rfl (hb hby d_jdk_52_method_5_code_57) rfl ?_
    show Steps p.tables e below (T305.setTop (mkF m 58 #[.val (.ref dd), .val (.int (Int32.ofNat (2 * ii + 1)))] [(.int ((((StrChars.lo8 xc) &&& (255 : Int32)) <<< ((0 : Int32) &&& 31)) ||| (((StrChars.hi8 xc) &&& (255 : Int32)) <<< ((8 : Int32) &&& 31))))])) _
    refine XS.i2c X305.here hx rfl (hb hby d_jdk_52_method_5_code_58) rfl ?_
    show Steps p.tables e below (T305.setTop (mkF m 59 #[.val (.ref dd), .val (.int (Int32.ofNat (2 * ii + 1)))] [(.int (((((StrChars.lo8 xc) &&& (255 : Int32)) <<< ((0 : Int32) &&& 31)) ||| (((StrChars.hi8 xc) &&& (255 : Int32)) <<< ((8 : Int32) &&& 31))).toUInt32.toUInt16.toUInt32.toInt32))])) _
    rw [(show (((((StrChars.lo8 xc) &&& (255 : Int32)) <<< ((0 : Int32) &&& 31)) ||| (((StrChars.hi8 xc) &&& (255 : Int32)) <<< ((8 : Int32) &&& 31))).toUInt32.toUInt16.toUInt32.toInt32) = xc from StrChars.pair_says hc0 hc1)]
    show Steps p.tables e below (T305.setTop (mkF m 59 #[.val (.ref dd), .val (.int (Int32.ofNat (2 * ii + 1)))] [(.int xc)])) _
    exact retN X305 hx (t := .char) Bd.returns (by simp) (hb hby d_jdk_52_method_5_code_59) (by rw [(show nar .char xc = xc from own_nc hc0 hc1)]; exact hr)
  · show Q_getCh Z dd ii xc kd n2 vs h0 n0 _ T305.heap _
    rw [e305]
    exact ⟨rfl, N0, rfl⟩
theorem d_jdk_52_method_3_code_0 : decode jdk_52_method_3_code 0 = .ok (.iload_n 0, 1) := by decide +kernel
theorem d_jdk_52_method_3_code_1 : decode jdk_52_method_3_code 1 = .ok (.ifCond .ge 11, 3) := by decide +kernel
theorem d_jdk_52_method_3_code_12 : decode jdk_52_method_3_code 12 = .ok (.iload_n 0, 1) := by decide +kernel
theorem d_jdk_52_method_3_code_13 : decode jdk_52_method_3_code 13 = .ok (.ldc 20, 2) := by decide +kernel
theorem d_jdk_52_method_3_code_15 : decode jdk_52_method_3_code 15 = .ok (.if_icmp .lt 40, 3) := by decide +kernel
theorem d_jdk_52_method_3_code_55 : decode jdk_52_method_3_code 55 = .ok (.iload_n 0, 1) := by decide +kernel
theorem d_jdk_52_method_3_code_56 : decode jdk_52_method_3_code 56 = .ok (.iconst 1, 1) := by decide +kernel
theorem d_jdk_52_method_3_code_57 : decode jdk_52_method_3_code 57 = .ok (.ishl, 1) := by decide +kernel
theorem d_jdk_52_method_3_code_58 : decode jdk_52_method_3_code 58 = .ok (.ireturn, 1) := by decide +kernel
theorem ef_3 (m : MethodId) (x0 : Int32) : entryFrame m #[(.int x0)] 1 = mkF m 0 #[.val (.int x0)] [] := by first | (simp [entryFrame, mkF, argsToLocals, Value.category]; done) | rfl
def Q_nbl (Z : State) (n : Nat) (h0 : Heap) (n0 : Nat) (v : Option Value) (h : Heap) (L : List Loc) : Prop := (v = some (.int (Int32.ofNat (2 * n)))) ∧ (Fr n0 L) ∧ (h = h0)
set_option maxRecDepth 65536 in
set_option maxHeartbeats 40000000 in
theorem rm_nbl (l : Launch) (Z : State) (a0 : Array Value) (hw : ∀ d ∈ tables_1, d.before a0 Z = true) (ws : List Jvm.Cond) (n : Nat) (h0 : Heap) (n0 : Nat) (Z0 : n0 ≤ h0.size) (hcap : n ≤ 3) :
    MetFree l (⟨"java/lang/StringUTF16", "newBytesLength", "(I)I"⟩ : MethodName) (head1 (Jvm.Cond.code (⟨"java/lang/StringUTF16", "newBytesLength", "(I)I"⟩ : MethodName) jdk_52_method_3_code 1 (some .int) :: ws) ({ frames := 0, cells := 0, slots := 0, locals := 0 } : Room)) (fun a₁ U₁ => a₁ = #[(.int (Int32.ofNat n))] ∧ Z.Warmed39 U₁.vm ∧ U₁.heap = h0) (fun _ _ _ _ _ => True) (fun _ U₁ o₁ U₂ => ∃ v₁ L₁, o₁ = .returned v₁ ∧ Q_nbl Z n h0 n0 v₁ U₂.heap L₁ ∧ FrameEnd U₁ o₁ U₂ L₁ ({ frames := 0, cells := 0, slots := 0, locals := 0 } : Room).cells ({ frames := 0, cells := 0, slots := 0, locals := 0 } : Room).slots) := by
  refine MetFree.of_bodySF (plainFor_of_name pn_0) hisR ?_
  intro p e s m args below meth c s₁ Bd hml0 hP hK
  obtain ⟨rfl, hZ, hh⟩ := hP
  have hx := Bd.exec
  have hby := Bd.bytes
  have hml : c.maxLocals = 1 := hml0
  have hown : s.vm.findClass "java/lang/StringUTF16" = some m.cls := findClass_of_methodNamed Bd.named
  have hnm := (name_of_methodNamed Bd.named Bd.method).1
  have X0 : Stand p l e ({ frames := 0, cells := 0, slots := 0, locals := 0 } : Room) s m #[(.int (Int32.ofNat n))] below meth c s₁ [] 0 0 := Stand.of_body Bd
  have e0 : s₁.heap = h0 := by rw [← hh, Bd.state]; rfl
  have N0 := Fr.nil n0
  have pre0 : ∀ t, Steps p.tables e below (s₁.setTop (mkF m 0 #[.val (.int (Int32.ofNat n))] [])) t → Steps p.tables e below (s₁.setTop (entryFrame m #[(.int (Int32.ofNat n))] 1)) t := fun t k => castTop (ef_3 m (Int32.ofNat n)) k
  obtain ⟨fs, hr, hrun, hended, hW, hsame⟩ := X0.leave (v := some (.int (Int32.ofNat (2 * n)))) (fun h => by rw [Bd.returns] at h; cases h)
  refine ⟨_, _, pre0 _ ?_, hrun, hended, _, _, rfl, ?_, ⟨_, rfl⟩, hW, hsame.mono (by decide) (by decide)⟩
  · refine XS.iloadN X0.here hx rfl (hb hby d_jdk_52_method_3_code_0) rfl ?_
    show Steps p.tables e below (s₁.setTop (mkF m 1 #[.val (.int (Int32.ofNat n))] [(.int (Int32.ofNat n))])) _
    refine XS.ifYes X0.here hx rfl (pc0 := 1) (pc' := 12) rfl (hb hby d_jdk_52_method_3_code_1) rfl ((if0 _ _).trans (flt ((own_nlt (Nat.zero_le _) (by omega)) : ¬ ((Int32.ofNat n) < (0 : Int32)))).2.1) (by decide) (by decide) ?_
    show Steps p.tables e below (s₁.setTop (mkF m 12 #[.val (.int (Int32.ofNat n))] [])) _
    refine XS.iloadN X0.here hx rfl (hb hby d_jdk_52_method_3_code_12) rfl ?_
    show Steps p.tables e below (s₁.setTop (mkF m 13 #[.val (.int (Int32.ofNat n))] [(.int (Int32.ofNat n))])) _
    refine X0.ldcInt hx hown (mvT hZ (hw _ (List.mem_of_getElem? (i := 191) rfl))) (g := (mkF m 13 #[.val (.int (Int32.ofNat n))] [(.int (Int32.ofNat n))])) rfl (hb hby d_jdk_52_method_3_code_13) _ ?_
    show Steps p.tables e below (s₁.setTop (mkF m 15 #[.val (.int (Int32.ofNat n))] [(.int (1073741823 : Int32)), (.int (Int32.ofNat n))])) _
    refine XS.icmpYes X0.here hx rfl (pc0 := 15) (pc' := 55) rfl (hb hby d_jdk_52_method_3_code_15) rfl (tlt ((by rw [Int32.lt_iff_toInt_lt, own_toInt (by omega)]; have e : (1073741823 : Int32).toInt = 1073741823 := rfl; omega) : (Int32.ofNat n) < (1073741823 : Int32))).1 (by decide) (by decide) ?_
    show Steps p.tables e below (s₁.setTop (mkF m 55 #[.val (.int (Int32.ofNat n))] [])) _
    refine XS.iloadN X0.here hx rfl (hb hby d_jdk_52_method_3_code_55) rfl ?_
    show Steps p.tables e below (s₁.setTop (mkF m 56 #[.val (.int (Int32.ofNat n))] [(.int (Int32.ofNat n))])) _
    refine XS.iconst X0.here hx rfl (hb hby d_jdk_52_method_3_code_56) ?_
    show Steps p.tables e below (s₁.setTop (mkF m 57 #[.val (.int (Int32.ofNat n))] [(.int (1 : Int32)), (.int (Int32.ofNat n))])) _
    refine XS.ishl X0.here hx rfl (hb hby d_jdk_52_method_3_code_57) rfl ?_
    show Steps p.tables e below (s₁.setTop (mkF m 58 #[.val (.int (Int32.ofNat n))] [(.int ((Int32.ofNat n) <<< ((1 : Int32) &&& 31)))])) _
    rw [own_shl1]
    show Steps p.tables e below (s₁.setTop (mkF m 58 #[.val (.int (Int32.ofNat n))] [(.int (Int32.ofNat (2 * n)))])) _
    exact retI X0 hx Bd.returns (hb hby d_jdk_52_method_3_code_58) hr
  · show Q_nbl Z n h0 n0 _ s₁.heap _
    rw [e0]
    exact ⟨rfl, N0, rfl⟩
theorem d_jdk_52_method_2_code_0 : decode jdk_52_method_2_code 0 = .ok (.iload_n 0, 1) := by decide +kernel
theorem d_jdk_52_method_2_code_1 : decode jdk_52_method_2_code 1 = .ok (.invokestatic 11, 3) := by decide +kernel
theorem pd_0 : parseMethodDescriptor "(I)I" = some ⟨[.int], some .int⟩ := by decide +kernel
theorem d_jdk_52_method_2_code_4 : decode jdk_52_method_2_code 4 = .ok (.newarray .byte, 2) := by decide +kernel
theorem d_jdk_52_method_2_code_6 : decode jdk_52_method_2_code 6 = .ok (.areturn, 1) := by decide +kernel
def Q_nbf (Z : State) (n : Nat) (h0 : Heap) (n0 : Nat) (v : Option Value) (h : Heap) (L : List Loc) : Prop := ∃ (tt : Addr) (kt : ClassId), (v = some (.ref tt)) ∧ (Fr n0 L) ∧ (Keep h0 h ([] : List Addr)) ∧ (h0.size ≤ tt) ∧ (Arv Z h tt kt .byte (Int32.ofNat (2 * n)) (List.replicate (2 * n) (.int (0 : Int32))) (.int (0 : Int32)))
set_option maxRecDepth 65536 in
set_option maxHeartbeats 40000000 in
theorem rm_nbf (l : Launch) (Z : State) (a0 : Array Value) (hw : ∀ d ∈ tables_1, d.before a0 Z = true) (ws : List Jvm.Cond) (n : Nat) (h0 : Heap) (n0 : Nat) (Z0 : n0 ≤ h0.size) (hcap : n ≤ 3) :
    MetFree l (⟨"java/lang/StringUTF16", "newBytesFor", "(I)[B"⟩ : MethodName) (head1 (Jvm.Cond.code (⟨"java/lang/StringUTF16", "newBytesFor", "(I)[B"⟩ : MethodName) jdk_52_method_2_code 1 (some (.array .byte)) :: ws) ({ frames := 1, cells := 1, slots := 6, locals := 12 } : Room)) (fun a₁ U₁ => a₁ = #[(.int (Int32.ofNat n))] ∧ Z.Warmed39 U₁.vm ∧ U₁.heap = h0) (fun _ _ _ _ _ => True) (fun _ U₁ o₁ U₂ => ∃ v₁ L₁, o₁ = .returned v₁ ∧ Q_nbf Z n h0 n0 v₁ U₂.heap L₁ ∧ FrameEnd U₁ o₁ U₂ L₁ ({ frames := 1, cells := 1, slots := 6, locals := 12 } : Room).cells ({ frames := 1, cells := 1, slots := 6, locals := 12 } : Room).slots) := by
  refine MetFree.of_bodySF (plainFor_of_name pn_0) hisR ?_
  intro p e s m args below meth c s₁ Bd hml0 hP hK
  obtain ⟨rfl, hZ, hh⟩ := hP
  have hx := Bd.exec
  have hby := Bd.bytes
  have hml : c.maxLocals = 1 := hml0
  have hown : s.vm.findClass "java/lang/StringUTF16" = some m.cls := findClass_of_methodNamed Bd.named
  have hnm := (name_of_methodNamed Bd.named Bd.method).1
  have X0 : Stand p l e ({ frames := 1, cells := 1, slots := 6, locals := 12 } : Room) s m #[(.int (Int32.ofNat n))] below meth c s₁ [] 0 0 := Stand.of_body Bd
  have e0 : s₁.heap = h0 := by rw [← hh, Bd.state]; rfl
  have N0 := Fr.nil n0
  have pre0 : ∀ t, Steps p.tables e below (s₁.setTop (mkF m 0 #[.val (.int (Int32.ofNat n))] [])) t → Steps p.tables e below (s₁.setTop (entryFrame m #[(.int (Int32.ofNat n))] 1)) t := fun t k => castTop (ef_3 m (Int32.ofNat n)) k
  obtain ⟨_, _, ⟨T301, L301, k301, n301⟩, -, X301, ⟨Lc301, hQ301, l301, y301, z301⟩, st301⟩ := Jvm.LawKit.callS X0 hx (y := (⟨"java/lang/StringUTF16", "newBytesLength", "(I)I"⟩ : MethodName)) hown (mvT hZ (hw _ (List.mem_of_getElem? (i := 188) rfl))) (mvT hZ (hw _ (List.mem_of_getElem? (i := 189) rfl))) (mvT hZ (hw _ (List.mem_of_getElem? (i := 37) rfl))) (mvT hZ (hw _ (List.mem_of_getElem? (i := 190) rfl))) (by decide) (backOf (W := 0) (rm_nbl l Z a0 hw [] n h0 n0 Z0 hcap) hZ (hw _ (List.mem_of_getElem? (i := 190) rfl)) (hw _ (List.mem_of_getElem? (i := 37) rfl)) (by decide) (by decide)) (g := (mkF m 1 #[.val (.int (Int32.ofNat n))] [(.int (Int32.ofNat n))])) rfl (by rw [hml]; rfl) (argsL := [(.int (Int32.ofNat n))]) (rest := []) (lenOf pd_0 rfl) rfl (by show 2 * 0 + _ ≤ _; exact Nat.le_of_eq rfl) (hb hby d_jdk_52_method_2_code_1) (fun _ _ => ⟨rfl, e0, (by decide : 0 + 0 ≤ _), (by decide : 0 + 0 ≤ _)⟩)
  dsimp only [Pt.U, Pt.locs, Pt.cells, Pt.slots] at X301 l301 y301 z301 st301 hQ301
  replace l301 := l301.symm
  replace y301 := y301.symm
  replace z301 := z301.symm
  subst l301 y301 z301
  obtain ⟨rfl, Nq301, e301⟩ := hQ301
  have N301 := Fr.app N0 Nq301
  obtain ⟨T302, h302, ky302, X302, e302, E302, A302, st302⟩ := newP X301 hx hZ (hw _ (List.mem_of_getElem? (i := 16) rfl)) e301 (g := (mkF m 4 #[.val (.int (Int32.ofNat n))] [(.int (Int32.ofNat (2 * n)))])) rfl (hb hby d_jdk_52_method_2_code_4) rfl ((own_nlt (Nat.zero_le _) (by omega)) : ¬ ((Int32.ofNat (2 * n)) < (0 : Int32))) (cap := 6) ((by rw [own_clamp (by omega)]; omega) : (Int32.ofNat (2 * n)).toNatClampNeg ≤ 6) (by decide) (by decide) (by decide)
  obtain ⟨b302, g302⟩ : ∃ z, z = h0.size := ⟨_, rfl⟩
  rw [← g302] at A302 st302
  have V302 : Arv Z h302 b302 ky302 .byte (Int32.ofNat (2 * n)) [] (.int (0 : Int32)) := Arv.new A302 (own_nlt (Nat.zero_le _) (by omega))
  have U302 : Arv Z h302 b302 ky302 .byte (Int32.ofNat (2 * n)) (List.replicate (2 * n) (.int (0 : Int32))) (.int (0 : Int32)) := V302.pad (pad_rep [] (.int (0 : Int32)) (2 * n))
  obtain ⟨fs, hr, hrun, hended, hW, hsame⟩ := X302.leave (v := some (.ref b302)) (fun h => by rw [Bd.returns] at h; cases h)
  refine ⟨_, _, pre0 _ ?_, hrun, hended, _, _, rfl, ?_, ⟨_, rfl⟩, hW, hsame.mono (by decide) (by decide)⟩
  · refine XS.iloadN X0.here hx rfl (hb hby d_jdk_52_method_2_code_0) rfl ?_
    show Steps p.tables e below (s₁.setTop (mkF m 1 #[.val (.int (Int32.ofNat n))] [(.int (Int32.ofNat n))])) _
    refine st301 _ ?_
    show Steps p.tables e below (T301.setTop (mkF m 4 #[.val (.int (Int32.ofNat n))] [(.int (Int32.ofNat (2 * n)))])) _
    refine st302 _ ?_
    show Steps p.tables e below (T302.setTop (mkF m 6 #[.val (.int (Int32.ofNat n))] [(.ref b302)])) _
    jvm_step X302.here [X302.here.top, hx, (hb hby d_jdk_52_method_2_code_6), X302.method', Bd.returns, Value.isRef, FieldType.isReference]
    first | (intro acts; rw [hr _ acts rfl rfl rfl]) | rw [hr _ _ rfl rfl rfl]
    exact Steps.refl _
  · show Q_nbf Z n h0 n0 _ T302.heap _
    rw [e302]
    exact ⟨b302, ky302, rfl, N301, ((Keep.refl h0 ([] : List Addr)).ext E302), (Nat.le_trans (Nat.le_refl _) (Nat.le_of_eq g302.symm)), U302⟩
theorem d_jdk_52_method_14_code_8 : decode jdk_52_method_14_code 8 = .ok (.iload 4, 2) := by decide +kernel
theorem d_jdk_52_method_14_code_10 : decode jdk_52_method_14_code 10 = .ok (.iload_n 2, 1) := by decide +kernel
theorem d_jdk_52_method_14_code_11 : decode jdk_52_method_14_code 11 = .ok (.if_icmp .ge 21, 3) := by decide +kernel
theorem d_jdk_52_method_14_code_14 : decode jdk_52_method_14_code 14 = .ok (.aload_n 3, 1) := by decide +kernel
theorem d_jdk_52_method_14_code_15 : decode jdk_52_method_14_code 15 = .ok (.iload 4, 2) := by decide +kernel
theorem d_jdk_52_method_14_code_17 : decode jdk_52_method_14_code 17 = .ok (.aload_n 0, 1) := by decide +kernel
theorem d_jdk_52_method_14_code_18 : decode jdk_52_method_14_code 18 = .ok (.iload_n 1, 1) := by decide +kernel
theorem d_jdk_52_method_14_code_19 : decode jdk_52_method_14_code 19 = .ok (.caload, 1) := by decide +kernel
theorem d_jdk_52_method_14_code_20 : decode jdk_52_method_14_code 20 = .ok (.invokestatic 111, 3) := by decide +kernel
theorem pd_1 : parseMethodDescriptor "([BII)V" = some ⟨[(.array .byte), .int, .int], none⟩ := by decide +kernel
theorem d_jdk_52_method_14_code_23 : decode jdk_52_method_14_code 23 = .ok (.iinc 1 1, 3) := by decide +kernel
theorem d_jdk_52_method_14_code_26 : decode jdk_52_method_14_code 26 = .ok (.iinc 4 1, 3) := by decide +kernel
theorem d_jdk_52_method_14_code_29 : decode jdk_52_method_14_code 29 = .ok (.goto (-21), 3) := by decide +kernel
set_option maxRecDepth 65536 in
set_option maxHeartbeats 40000000 in
theorem lp_toB {p : Program} {l : Launch} {e : Env} {R : Room} {s : State} {m : MethodId} {args : Array Value} {below : List Frame} {meth : Method} {c : Code} {cells slots : Nat} {Z : State} {a0 : Array Value} {n0 : Nat} (ca : Addr) (kc : ClassId) (cs : List Int32) (dv : Value) (dd : Addr) (kd : ClassId) (o : Nat) (n : Nat) (ds : List Int32) (ie : Nat) (je : Nat) (hx : p.tables.exec = Jvm.exec) (hZ : Z.Warmed39 s.vm) (hw : ∀ d ∈ tables_1, d.before a0 Z = true) (hby : c.code = jdk_52_method_14_code) (hml : c.maxLocals = 5) (hown : s.vm.findClass "java/lang/StringUTF16" = some m.cls) (hcl : cells ≤ R.cells) (hsl : slots ≤ R.slots) (hfr : 1 ≤ R.frames) (hlo : 14 ≤ R.locals) (hN : cs.length < 2 ^ 31) (hy1 : Sta Z Z.heap "java/lang/StringUTF16" "$assertionsDisabled" "Z" (.int (1 : Int32))) (hy2 : Sta Z Z.heap "java/lang/StringUTF16" "HI_BYTE_SHIFT" "I" (.int (0 : Int32))) (hy3 : Sta Z Z.heap "java/lang/StringUTF16" "LO_BYTE_SHIFT" "I" (.int (8 : Int32))) (hy4 : n0 ≤ dd) (hy5 : ca ≠ dd) (hcap : n ≤ 3) (hie : ie = n) (hon : o + n ≤ cs.length) (hds : ds.length = n) (hdc : ∀ q, q < n → ds.getD q 0 = cs.getD (o + q) 0) :
    ∀ (k : Nat) (i : Nat) (j : Nat) (vs : List Value) (T0 : State) (h0 : Heap) (locs : List Loc), Stand p l e R s m args below meth c T0 locs cells slots → T0.heap = h0 → Fr n0 locs → n0 ≤ h0.size → Arv Z h0 ca kc .char (Int32.ofNat cs.length) (cs.map Value.int) dv → Arv Z h0 dd kd .byte (Int32.ofNat (2 * n)) vs (.int (0 : Int32)) → Old Z n0 h0 → (i + k = ie) → (j + k = je) → (j = o + i) → (vs = StrChars.Road.wideBytes (ds.take i) ++ List.replicate (2 * (n - i)) (.int (0 : Int32))) → ∃ (T' : State) (h' : Heap) (locs' : List Loc), Stand p l e R s m args below meth c T' locs' cells slots ∧ T'.heap = h' ∧ Fr n0 locs' ∧ Keep h0 h' ([dd] : List Addr) ∧ (Arv Z h' dd kd .byte (Int32.ofNat (2 * n)) (StrChars.Road.wideBytes ds) (.int (0 : Int32))) ∧ ∀ t, Steps p.tables e below (T'.setTop (mkF m 32 #[.val (.ref ca), .val (.int (Int32.ofNat je)), .val (.int (Int32.ofNat n)), .val (.ref dd), .val (.int (Int32.ofNat ie))] [])) t → Steps p.tables e below (T0.setTop (mkF m 8 #[.val (.ref ca), .val (.int (Int32.ofNat j)), .val (.int (Int32.ofNat n)), .val (.ref dd), .val (.int (Int32.ofNat i))] [])) t := by
  intro k
  induction k with
  | zero =>
    intro i j vs T0 h0 locs X0 e0 N0 Z0 q0 q1 q2 hik hjk hjo hvs
    have pre0 : ∀ t, Steps p.tables e below (T0.setTop (mkF m 8 #[.val (.ref ca), .val (.int (Int32.ofNat j)), .val (.int (Int32.ofNat n)), .val (.ref dd), .val (.int (Int32.ofNat i))] [])) t → Steps p.tables e below (T0.setTop (mkF m 8 #[.val (.ref ca), .val (.int (Int32.ofNat j)), .val (.int (Int32.ofNat n)), .val (.ref dd), .val (.int (Int32.ofNat i))] [])) t := fun _ kk => kk
    have hi' : i = n := by omega
    have hi2 : i = ie := by omega
    have hj2 : j = je := by omega
    have hv' : vs = StrChars.Road.wideBytes ds := by rw [hvs, hi', Nat.sub_self, List.take_of_length_le (by omega)]; simp
    have R301 : Arv Z h0 dd kd .byte (Int32.ofNat (2 * n)) (StrChars.Road.wideBytes ds) (.int (0 : Int32)) := by have q := q1; rw [hv'] at q; exact q
    have pre302 : ∀ t, Steps p.tables e below (T0.setTop (mkF m 32 #[.val (.ref ca), .val (.int (Int32.ofNat j)), .val (.int (Int32.ofNat n)), .val (.ref dd), .val (.int (Int32.ofNat i))] [])) t → Steps p.tables e below (T0.setTop (mkF m 8 #[.val (.ref ca), .val (.int (Int32.ofNat j)), .val (.int (Int32.ofNat n)), .val (.ref dd), .val (.int (Int32.ofNat i))] [])) t := fun t kk => pre0 t (by
      refine XS.iload X0.here hx rfl (hb hby d_jdk_52_method_14_code_8) rfl ?_
      show Steps p.tables e below (T0.setTop (mkF m 10 #[.val (.ref ca), .val (.int (Int32.ofNat j)), .val (.int (Int32.ofNat n)), .val (.ref dd), .val (.int (Int32.ofNat i))] [(.int (Int32.ofNat i))])) _
      refine XS.iloadN X0.here hx rfl (hb hby d_jdk_52_method_14_code_10) rfl ?_
      show Steps p.tables e below (T0.setTop (mkF m 11 #[.val (.ref ca), .val (.int (Int32.ofNat j)), .val (.int (Int32.ofNat n)), .val (.ref dd), .val (.int (Int32.ofNat i))] [(.int (Int32.ofNat n)), (.int (Int32.ofNat i))])) _
      refine XS.icmpYes X0.here hx rfl (pc0 := 11) (pc' := 32) rfl (hb hby d_jdk_52_method_14_code_11) rfl (flt ((own_nlt (by omega) (by omega)) : ¬ ((Int32.ofNat i) < (Int32.ofNat n)))).2.1 (by decide) (by decide) ?_
      show Steps p.tables e below (T0.setTop (mkF m 32 #[.val (.ref ca), .val (.int (Int32.ofNat j)), .val (.int (Int32.ofNat n)), .val (.ref dd), .val (.int (Int32.ofNat i))] [])) _
      exact kk)
    exact ⟨T0, h0, _, X0, e0, N0, (Keep.refl h0 ([dd] : List Addr)), R301, (by rw [← hi2, ← hj2]; exact pre302)⟩
  | succ k ih =>
    intro i j vs T0 h0 locs X0 e0 N0 Z0 q0 q1 q2 hik hjk hjo hvs
    have pre0 : ∀ t, Steps p.tables e below (T0.setTop (mkF m 8 #[.val (.ref ca), .val (.int (Int32.ofNat j)), .val (.int (Int32.ofNat n)), .val (.ref dd), .val (.int (Int32.ofNat i))] [])) t → Steps p.tables e below (T0.setTop (mkF m 8 #[.val (.ref ca), .val (.int (Int32.ofNat j)), .val (.int (Int32.ofNat n)), .val (.ref dd), .val (.int (Int32.ofNat i))] [])) t := fun _ kk => kk
    have hj' : j < cs.length := by omega
    have hdi : ds.getD i 0 = cs.getD j 0 := by rw [hdc i (by omega), hjo]
    have hvl : vs.length = 2 * n := by rw [hvs, List.length_append, own_widelen, List.length_take, List.length_replicate]; omega
    obtain ⟨cl301, Ar301, qq301, S301, M301, Hh301, U301⟩ := id q0
    have ib301 : ¬ ((Int32.ofNat j) < 0 ∨ cl301.slots.size ≤ ((Int32.ofNat j)).toNatClampNeg) := inb_of S301 (own_inb hj' hN)
    obtain ⟨_, _, ⟨T302, L302, k302, n302⟩, -, X302, ⟨Lc302, hQ302, l302, y302, z302⟩, st302⟩ := Jvm.LawKit.callS X0 hx (y := (⟨"java/lang/StringUTF16", "putChar", "([BII)V"⟩ : MethodName)) hown (mvT hZ (hw _ (List.mem_of_getElem? (i := 192) rfl))) (mvT hZ (hw _ (List.mem_of_getElem? (i := 193) rfl))) (mvT hZ (hw _ (List.mem_of_getElem? (i := 37) rfl))) (mvT hZ (hw _ (List.mem_of_getElem? (i := 194) rfl))) (by decide) (backOf (W := 0) (rm_putCh l Z a0 hw [] dd i (cs.getD j 0) kd (2 * n) vs h0 n0 Z0 hy1 hy2 hy3 q2 q1 hy4 (by omega) (by omega) (hvl)) hZ (hw _ (List.mem_of_getElem? (i := 194) rfl)) (hw _ (List.mem_of_getElem? (i := 37) rfl)) (Nat.le_trans (by decide) hfr) (Nat.le_trans (by decide) hlo)) (g := (mkF m 20 #[.val (.ref ca), .val (.int (Int32.ofNat j)), .val (.int (Int32.ofNat n)), .val (.ref dd), .val (.int (Int32.ofNat i))] [(.int (cs.getD j 0)), (.int (Int32.ofNat i)), (.ref dd)])) rfl (by rw [hml]; rfl) (argsL := [(.ref dd), (.int (Int32.ofNat i)), (.int (cs.getD j 0))]) (rest := []) (lenOf pd_1 rfl) rfl (by show 2 * 0 + _ ≤ _; exact Nat.le_of_eq rfl) (hb hby d_jdk_52_method_14_code_20) (fun _ _ => ⟨rfl, e0, hcl, hsl⟩)
    dsimp only [Pt.U, Pt.locs, Pt.cells, Pt.slots] at X302 l302 y302 z302 st302 hQ302
    replace l302 := l302.symm
    replace y302 := y302.symm
    replace z302 := z302.symm
    subst l302 y302 z302
    obtain ⟨rfl, Nq302, K302, f302_0⟩ := hQ302
    have N302 := Fr.app N0 Nq302
    have pre303 : ∀ t, Steps p.tables e below (T302.setTop (mkF m 8 #[.val (.ref ca), .val (.int ((Int32.ofNat j) + (1 : Int32))), .val (.int (Int32.ofNat n)), .val (.ref dd), .val (.int ((Int32.ofNat i) + (1 : Int32)))] [])) t → Steps p.tables e below (T0.setTop (mkF m 8 #[.val (.ref ca), .val (.int (Int32.ofNat j)), .val (.int (Int32.ofNat n)), .val (.ref dd), .val (.int (Int32.ofNat i))] [])) t := fun t kk => pre0 t (by
      refine XS.iload X0.here hx rfl (hb hby d_jdk_52_method_14_code_8) rfl ?_
      show Steps p.tables e below (T0.setTop (mkF m 10 #[.val (.ref ca), .val (.int (Int32.ofNat j)), .val (.int (Int32.ofNat n)), .val (.ref dd), .val (.int (Int32.ofNat i))] [(.int (Int32.ofNat i))])) _
      refine XS.iloadN X0.here hx rfl (hb hby d_jdk_52_method_14_code_10) rfl ?_
      show Steps p.tables e below (T0.setTop (mkF m 11 #[.val (.ref ca), .val (.int (Int32.ofNat j)), .val (.int (Int32.ofNat n)), .val (.ref dd), .val (.int (Int32.ofNat i))] [(.int (Int32.ofNat n)), (.int (Int32.ofNat i))])) _
      refine XS.icmpNo X0.here hx rfl (hb hby d_jdk_52_method_14_code_11) rfl (tlt ((own_inb (by omega) (by omega)).2 : (Int32.ofNat i) < (Int32.ofNat n))).2.1 ?_
      show Steps p.tables e below (T0.setTop (mkF m 14 #[.val (.ref ca), .val (.int (Int32.ofNat j)), .val (.int (Int32.ofNat n)), .val (.ref dd), .val (.int (Int32.ofNat i))] [])) _
      refine XS.aloadN X0.here hx rfl (hb hby d_jdk_52_method_14_code_14) rfl rfl ?_
      show Steps p.tables e below (T0.setTop (mkF m 15 #[.val (.ref ca), .val (.int (Int32.ofNat j)), .val (.int (Int32.ofNat n)), .val (.ref dd), .val (.int (Int32.ofNat i))] [(.ref dd)])) _
      refine XS.iload X0.here hx rfl (hb hby d_jdk_52_method_14_code_15) rfl ?_
      show Steps p.tables e below (T0.setTop (mkF m 17 #[.val (.ref ca), .val (.int (Int32.ofNat j)), .val (.int (Int32.ofNat n)), .val (.ref dd), .val (.int (Int32.ofNat i))] [(.int (Int32.ofNat i)), (.ref dd)])) _
      refine XS.aloadN X0.here hx rfl (hb hby d_jdk_52_method_14_code_17) rfl rfl ?_
      show Steps p.tables e below (T0.setTop (mkF m 18 #[.val (.ref ca), .val (.int (Int32.ofNat j)), .val (.int (Int32.ofNat n)), .val (.ref dd), .val (.int (Int32.ofNat i))] [(.ref ca), (.int (Int32.ofNat i)), (.ref dd)])) _
      refine XS.iloadN X0.here hx rfl (hb hby d_jdk_52_method_14_code_18) rfl ?_
      show Steps p.tables e below (T0.setTop (mkF m 19 #[.val (.ref ca), .val (.int (Int32.ofNat j)), .val (.int (Int32.ofNat n)), .val (.ref dd), .val (.int (Int32.ofNat i))] [(.int (Int32.ofNat j)), (.ref ca), (.int (Int32.ofNat i)), (.ref dd)])) _
      refine X0.caload hx (j := (Int32.ofNat j)) (v := (.int (cs.getD j 0))) (by rw [e0]; exact Ar301.1) (State.isArrayOf_alike hZ.alike Ar301.2.1) Ar301.2.2 ib301 (Hh301.at ib301 (own_mapat hj' hN)) (g := (mkF m 19 #[.val (.ref ca), .val (.int (Int32.ofNat j)), .val (.int (Int32.ofNat n)), .val (.ref dd), .val (.int (Int32.ofNat i))] [(.int (Int32.ofNat j)), (.ref ca), (.int (Int32.ofNat i)), (.ref dd)])) rfl rfl (hb hby d_jdk_52_method_14_code_19) _ ?_
      show Steps p.tables e below (T0.setTop (mkF m 20 #[.val (.ref ca), .val (.int (Int32.ofNat j)), .val (.int (Int32.ofNat n)), .val (.ref dd), .val (.int (Int32.ofNat i))] [(.int (cs.getD j 0)), (.int (Int32.ofNat i)), (.ref dd)])) _
      refine st302 _ ?_
      show Steps p.tables e below (T302.setTop (mkF m 23 #[.val (.ref ca), .val (.int (Int32.ofNat j)), .val (.int (Int32.ofNat n)), .val (.ref dd), .val (.int (Int32.ofNat i))] [])) _
      refine XS.iinc X302.here hx rfl (hb hby d_jdk_52_method_14_code_23) rfl (l' := #[.val (.ref ca), .val (.int ((Int32.ofNat j) + (1 : Int32))), .val (.int (Int32.ofNat n)), .val (.ref dd), .val (.int (Int32.ofNat i))]) rfl ?_
      show Steps p.tables e below (T302.setTop (mkF m 26 #[.val (.ref ca), .val (.int ((Int32.ofNat j) + (1 : Int32))), .val (.int (Int32.ofNat n)), .val (.ref dd), .val (.int (Int32.ofNat i))] [])) _
      refine XS.iinc X302.here hx rfl (hb hby d_jdk_52_method_14_code_26) rfl (l' := #[.val (.ref ca), .val (.int ((Int32.ofNat j) + (1 : Int32))), .val (.int (Int32.ofNat n)), .val (.ref dd), .val (.int ((Int32.ofNat i) + (1 : Int32)))]) rfl ?_
      show Steps p.tables e below (T302.setTop (mkF m 29 #[.val (.ref ca), .val (.int ((Int32.ofNat j) + (1 : Int32))), .val (.int (Int32.ofNat n)), .val (.ref dd), .val (.int ((Int32.ofNat i) + (1 : Int32)))] [])) _
      refine XS.goto X302.here hx rfl (pc0 := 29) (pc' := 8) rfl (hb hby d_jdk_52_method_14_code_29) (by decide) (by decide) ?_
      show Steps p.tables e below (T302.setTop (mkF m 8 #[.val (.ref ca), .val (.int ((Int32.ofNat j) + (1 : Int32))), .val (.int (Int32.ofNat n)), .val (.ref dd), .val (.int ((Int32.ofNat i) + (1 : Int32)))] [])) _
      exact kk)
    have c304 : Arv Z T302.heap ca kc .char (Int32.ofNat cs.length) (cs.map Value.int) dv := (q0.keep K302 (ninS hy5 nin0))
    have c305 : Old Z n0 T302.heap := (q2.keep K302 (allS hy4 all0))
    have preH : ∀ t, Steps p.tables e below (T302.setTop (mkF m 8 #[.val (.ref ca), .val (.int (Int32.ofNat (j + 1))), .val (.int (Int32.ofNat n)), .val (.ref dd), .val (.int (Int32.ofNat (i + 1)))] [])) t → Steps p.tables e below (T0.setTop (mkF m 8 #[.val (.ref ca), .val (.int (Int32.ofNat j)), .val (.int (Int32.ofNat n)), .val (.ref dd), .val (.int (Int32.ofNat i))] [])) t := by
      rw [inc_ofNat i, inc_ofNat j]
      exact pre303
    obtain ⟨T9, h9, lo9, X9, e9, N9, K9, g9_0, pre9⟩ := ih ((i + 1)) ((j + 1)) (((vs.set (2 * i) (.int (StrChars.lo8 (cs.getD j 0)))).set (2 * i + 1) (.int (StrChars.hi8 (cs.getD j 0))))) T302 T302.heap _ X302 rfl N302 (Nat.le_trans Z0 K302.1) c304 f302_0 c305 (by omega) (by omega) (by omega) (by rw [← hdi, hvs]; exact own_widestep hds (by omega) _)
    exact ⟨T9, h9, _, X9, e9, N9, (((Keep.refl h0 ([dd] : List Addr)).trans K302 (allS (Or.inl (by simp)) all0)).trans K9 (allS (Or.inl (by simp)) all0)), g9_0, fun t kk => preH t (pre9 t kk)⟩
theorem d_jdk_52_method_14_code_0 : decode jdk_52_method_14_code 0 = .ok (.iload_n 2, 1) := by decide +kernel
theorem d_jdk_52_method_14_code_1 : decode jdk_52_method_14_code 1 = .ok (.invokestatic 107, 3) := by decide +kernel
theorem pd_2 : parseMethodDescriptor "(I)[B" = some ⟨[.int], some (.array .byte)⟩ := by decide +kernel
theorem d_jdk_52_method_14_code_4 : decode jdk_52_method_14_code 4 = .ok (.astore_n 3, 1) := by decide +kernel
theorem d_jdk_52_method_14_code_5 : decode jdk_52_method_14_code 5 = .ok (.iconst 0, 1) := by decide +kernel
theorem d_jdk_52_method_14_code_6 : decode jdk_52_method_14_code 6 = .ok (.istore 4, 2) := by decide +kernel
theorem d_jdk_52_method_14_code_32 : decode jdk_52_method_14_code 32 = .ok (.aload_n 3, 1) := by decide +kernel
theorem d_jdk_52_method_14_code_33 : decode jdk_52_method_14_code 33 = .ok (.areturn, 1) := by decide +kernel
theorem ef_4 (m : MethodId) (x0 : Addr) (x1 : Int32) (x2 : Int32) : entryFrame m #[(.ref x0), (.int x1), (.int x2)] 5 = mkF m 0 #[.val (.ref x0), .val (.int x1), .val (.int x2), .unset, .unset] [] := by first | (simp [entryFrame, mkF, argsToLocals, Value.category]; done) | rfl
def Q_toByt (Z : State) (ca : Addr) (kc : ClassId) (cs : List Int32) (dv : Value) (o : Nat) (n : Nat) (ds : List Int32) (h0 : Heap) (n0 : Nat) (v : Option Value) (h : Heap) (L : List Loc) : Prop := ∃ (tt : Addr) (kt : ClassId), (v = some (.ref tt)) ∧ (Fr n0 L) ∧ (Keep h0 h ([] : List Addr)) ∧ (h0.size ≤ tt) ∧ (Arv Z h tt kt .byte (Int32.ofNat (2 * n)) (StrChars.Road.wideBytes ds) (.int (0 : Int32)))
set_option maxRecDepth 65536 in
set_option maxHeartbeats 40000000 in
theorem rm_toByt (l : Launch) (Z : State) (a0 : Array Value) (hw : ∀ d ∈ tables_1, d.before a0 Z = true) (ws : List Jvm.Cond) (ca : Addr) (kc : ClassId) (cs : List Int32) (dv : Value) (o : Nat) (n : Nat) (ds : List Int32) (h0 : Heap) (n0 : Nat) (Z0 : n0 ≤ h0.size) (q0 : Arv Z h0 ca kc .char (Int32.ofNat cs.length) (cs.map Value.int) dv) (hN : cs.length < 2 ^ 31) (q2 : Sta Z Z.heap "java/lang/StringUTF16" "$assertionsDisabled" "Z" (.int (1 : Int32))) (q3 : Sta Z Z.heap "java/lang/StringUTF16" "HI_BYTE_SHIFT" "I" (.int (0 : Int32))) (q4 : Sta Z Z.heap "java/lang/StringUTF16" "LO_BYTE_SHIFT" "I" (.int (8 : Int32))) (q5 : Old Z n0 h0) (hcap : n ≤ 3) (hon : o + n ≤ cs.length) (hds : ds.length = n) (hdc : ∀ q, q < n → ds.getD q 0 = cs.getD (o + q) 0) :
    MetFree l (⟨"java/lang/StringUTF16", "toBytes", "([CII)[B"⟩ : MethodName) (head1 (Jvm.Cond.code (⟨"java/lang/StringUTF16", "toBytes", "([CII)[B"⟩ : MethodName) jdk_52_method_14_code 5 (some (.array .byte)) :: ws) ({ frames := 2, cells := 1, slots := 6, locals := 24 } : Room)) (fun a₁ U₁ => a₁ = #[(.ref ca), (.int (Int32.ofNat o)), (.int (Int32.ofNat n))] ∧ Z.Warmed39 U₁.vm ∧ U₁.heap = h0) (fun _ _ _ _ _ => True) (fun _ U₁ o₁ U₂ => ∃ v₁ L₁, o₁ = .returned v₁ ∧ Q_toByt Z ca kc cs dv o n ds h0 n0 v₁ U₂.heap L₁ ∧ FrameEnd U₁ o₁ U₂ L₁ ({ frames := 2, cells := 1, slots := 6, locals := 24 } : Room).cells ({ frames := 2, cells := 1, slots := 6, locals := 24 } : Room).slots) := by
  refine MetFree.of_bodySF (plainFor_of_name pn_0) hisR ?_
  intro p e s m args below meth c s₁ Bd hml0 hP hK
  obtain ⟨rfl, hZ, hh⟩ := hP
  have hx := Bd.exec
  have hby := Bd.bytes
  have hml : c.maxLocals = 5 := hml0
  have hown : s.vm.findClass "java/lang/StringUTF16" = some m.cls := findClass_of_methodNamed Bd.named
  have hnm := (name_of_methodNamed Bd.named Bd.method).1
  have X0 : Stand p l e ({ frames := 2, cells := 1, slots := 6, locals := 24 } : Room) s m #[(.ref ca), (.int (Int32.ofNat o)), (.int (Int32.ofNat n))] below meth c s₁ [] 0 0 := Stand.of_body Bd
  have e0 : s₁.heap = h0 := by rw [← hh, Bd.state]; rfl
  have N0 := Fr.nil n0
  have pre0 : ∀ t, Steps p.tables e below (s₁.setTop (mkF m 0 #[.val (.ref ca), .val (.int (Int32.ofNat o)), .val (.int (Int32.ofNat n)), .unset, .unset] [])) t → Steps p.tables e below (s₁.setTop (entryFrame m #[(.ref ca), (.int (Int32.ofNat o)), (.int (Int32.ofNat n))] 5)) t := fun t k => castTop (ef_4 m ca (Int32.ofNat o) (Int32.ofNat n)) k
  obtain ⟨_, _, ⟨T301, L301, k301, n301⟩, -, X301, ⟨Lc301, hQ301, l301, y301, z301⟩, st301⟩ := Jvm.LawKit.callS X0 hx (y := (⟨"java/lang/StringUTF16", "newBytesFor", "(I)[B"⟩ : MethodName)) hown (mvT hZ (hw _ (List.mem_of_getElem? (i := 185) rfl))) (mvT hZ (hw _ (List.mem_of_getElem? (i := 186) rfl))) (mvT hZ (hw _ (List.mem_of_getElem? (i := 37) rfl))) (mvT hZ (hw _ (List.mem_of_getElem? (i := 187) rfl))) (by decide) (backOf (W := 0) (rm_nbf l Z a0 hw [] n h0 n0 Z0 hcap) hZ (hw _ (List.mem_of_getElem? (i := 187) rfl)) (hw _ (List.mem_of_getElem? (i := 37) rfl)) (by decide) (by decide)) (g := (mkF m 1 #[.val (.ref ca), .val (.int (Int32.ofNat o)), .val (.int (Int32.ofNat n)), .unset, .unset] [(.int (Int32.ofNat n))])) rfl (by rw [hml]; rfl) (argsL := [(.int (Int32.ofNat n))]) (rest := []) (lenOf pd_2 rfl) rfl (by show 2 * 0 + _ ≤ _; exact Nat.le_of_eq rfl) (hb hby d_jdk_52_method_14_code_1) (fun _ _ => ⟨rfl, e0, (by decide : 0 + 1 ≤ _), (by decide : 0 + 6 ≤ _)⟩)
  dsimp only [Pt.U, Pt.locs, Pt.cells, Pt.slots] at X301 l301 y301 z301 st301 hQ301
  replace l301 := l301.symm
  replace y301 := y301.symm
  replace z301 := z301.symm
  subst l301 y301 z301
  obtain ⟨tt_301, kt_301, rfl, Nq301, K301, f301_0, f301_1⟩ := hQ301
  have N301 := Fr.app N0 Nq301
  have pre302 : ∀ t, Steps p.tables e below (T301.setTop (mkF m 8 #[.val (.ref ca), .val (.int (Int32.ofNat o)), .val (.int (Int32.ofNat n)), .val (.ref tt_301), .val (.int (0 : Int32))] [])) t → Steps p.tables e below (s₁.setTop (entryFrame m #[(.ref ca), (.int (Int32.ofNat o)), (.int (Int32.ofNat n))] 5)) t := fun t kk => pre0 t (by
    refine XS.iloadN X0.here hx rfl (hb hby d_jdk_52_method_14_code_0) rfl ?_
    show Steps p.tables e below (s₁.setTop (mkF m 1 #[.val (.ref ca), .val (.int (Int32.ofNat o)), .val (.int (Int32.ofNat n)), .unset, .unset] [(.int (Int32.ofNat n))])) _
    refine st301 _ ?_
    show Steps p.tables e below (T301.setTop (mkF m 4 #[.val (.ref ca), .val (.int (Int32.ofNat o)), .val (.int (Int32.ofNat n)), .unset, .unset] [(.ref tt_301)])) _
    refine XS.astoreN X301.here hx rfl (hb hby d_jdk_52_method_14_code_4) rfl rfl (l' := #[.val (.ref ca), .val (.int (Int32.ofNat o)), .val (.int (Int32.ofNat n)), .val (.ref tt_301), .unset]) rfl ?_
    show Steps p.tables e below (T301.setTop (mkF m 5 #[.val (.ref ca), .val (.int (Int32.ofNat o)), .val (.int (Int32.ofNat n)), .val (.ref tt_301), .unset] [])) _
    refine XS.iconst X301.here hx rfl (hb hby d_jdk_52_method_14_code_5) ?_
    show Steps p.tables e below (T301.setTop (mkF m 6 #[.val (.ref ca), .val (.int (Int32.ofNat o)), .val (.int (Int32.ofNat n)), .val (.ref tt_301), .unset] [(.int (0 : Int32))])) _
    refine XS.istore X301.here hx rfl (hb hby d_jdk_52_method_14_code_6) rfl (l' := #[.val (.ref ca), .val (.int (Int32.ofNat o)), .val (.int (Int32.ofNat n)), .val (.ref tt_301), .val (.int (0 : Int32))]) rfl ?_
    show Steps p.tables e below (T301.setTop (mkF m 8 #[.val (.ref ca), .val (.int (Int32.ofNat o)), .val (.int (Int32.ofNat n)), .val (.ref tt_301), .val (.int (0 : Int32))] [])) _
    exact kk)
  have c303 : Arv Z T301.heap ca kc .char (Int32.ofNat cs.length) (cs.map Value.int) dv := (q0.keep K301 nin0)
  have ge304 : n0 ≤ tt_301 := Nat.le_trans Z0 (Nat.le_trans (Nat.le_refl _) f301_0)
  have ne305 : ca ≠ tt_301 := Nat.ne_of_lt (Nat.lt_of_lt_of_le q0.lt f301_0)
  have c306 : Old Z n0 T301.heap := (q5.keep K301 all0)
  have preh307 : ∀ t, Steps p.tables e below (T301.setTop (mkF m 8 #[.val (.ref ca), .val (.int (Int32.ofNat o)), .val (.int (Int32.ofNat n)), .val (.ref tt_301), .val (.int (Int32.ofNat 0))] [])) t → Steps p.tables e below (s₁.setTop (entryFrame m #[(.ref ca), (.int (Int32.ofNat o)), (.int (Int32.ofNat n))] 5)) t := by
    exact pre302
  obtain ⟨T307, h307, lo307, X307, e307, N307, K307, f307_0, st307⟩ := lp_toB (ca) (kc) (cs) (dv) (tt_301) (kt_301) (o) (n) (ds) (n) ((o + n)) hx hZ hw hby hml hown (by decide : 1 ≤ _) (by decide : 6 ≤ _) (by decide) (by decide) hN q2 q3 q4 ge304 ne305 hcap (rfl) hon hds hdc n (0) (o) ((List.replicate (2 * n) (.int (0 : Int32)))) T301 T301.heap _ X301 rfl N301 (Nat.le_trans Z0 K301.1) c303 f301_1 c306 (by omega) (rfl) (rfl) (by simp [StrChars.Road.wideBytes])
  obtain ⟨fs, hr, hrun, hended, hW, hsame⟩ := X307.leave (v := some (.ref tt_301)) (fun h => by rw [Bd.returns] at h; cases h)
  refine ⟨_, _, preh307 _ ?_, hrun, hended, _, _, rfl, ?_, ⟨_, rfl⟩, hW, hsame.mono (by decide) (by decide)⟩
  · refine st307 _ ?_
    show Steps p.tables e below (T307.setTop (mkF m 32 #[.val (.ref ca), .val (.int (Int32.ofNat (o + n))), .val (.int (Int32.ofNat n)), .val (.ref tt_301), .val (.int (Int32.ofNat n))] [])) _
    refine XS.aloadN X307.here hx rfl (hb hby d_jdk_52_method_14_code_32) rfl rfl ?_
    show Steps p.tables e below (T307.setTop (mkF m 33 #[.val (.ref ca), .val (.int (Int32.ofNat (o + n))), .val (.int (Int32.ofNat n)), .val (.ref tt_301), .val (.int (Int32.ofNat n))] [(.ref tt_301)])) _
    jvm_step X307.here [X307.here.top, hx, (hb hby d_jdk_52_method_14_code_33), X307.method', Bd.returns, Value.isRef, FieldType.isReference]
    first | (intro acts; rw [hr _ acts rfl rfl rfl]) | rw [hr _ _ rfl rfl rfl]
    exact Steps.refl _
  · show Q_toByt Z ca kc cs dv o n ds h0 n0 _ T307.heap _
    rw [e307]
    exact ⟨tt_301, kt_301, rfl, N307, (((Keep.refl h0 ([] : List Addr)).trans K301 all0).trans K307 (allS (Or.inr (Nat.le_trans (Nat.le_refl _) f301_0)) all0)), (Nat.le_trans (Nat.le_refl _) f301_0), f307_0⟩
theorem d_jdk_52_method_16_code_0 : decode jdk_52_method_16_code 0 = .ok (.iload_n 2, 1) := by decide +kernel
theorem d_jdk_52_method_16_code_1 : decode jdk_52_method_16_code 1 = .ok (.newarray .byte, 2) := by decide +kernel
theorem d_jdk_52_method_16_code_3 : decode jdk_52_method_16_code 3 = .ok (.astore_n 3, 1) := by decide +kernel
theorem d_jdk_52_method_16_code_4 : decode jdk_52_method_16_code 4 = .ok (.aload_n 0, 1) := by decide +kernel
theorem d_jdk_52_method_16_code_5 : decode jdk_52_method_16_code 5 = .ok (.iload_n 1, 1) := by decide +kernel
theorem d_jdk_52_method_16_code_6 : decode jdk_52_method_16_code 6 = .ok (.aload_n 3, 1) := by decide +kernel
theorem d_jdk_52_method_16_code_7 : decode jdk_52_method_16_code 7 = .ok (.iconst 0, 1) := by decide +kernel
theorem d_jdk_52_method_16_code_8 : decode jdk_52_method_16_code 8 = .ok (.iload_n 2, 1) := by decide +kernel
theorem d_jdk_52_method_16_code_9 : decode jdk_52_method_16_code 9 = .ok (.invokestatic 115, 3) := by decide +kernel
theorem pd_3 : parseMethodDescriptor "([CI[BII)I" = some ⟨[(.array .char), .int, (.array .byte), .int, .int], some .int⟩ := by decide +kernel
theorem d_jdk_52_method_16_code_12 : decode jdk_52_method_16_code 12 = .ok (.istore 4, 2) := by decide +kernel
theorem d_jdk_52_method_16_code_14 : decode jdk_52_method_16_code 14 = .ok (.iload 4, 2) := by decide +kernel
theorem d_jdk_52_method_16_code_16 : decode jdk_52_method_16_code 16 = .ok (.iload_n 2, 1) := by decide +kernel
theorem d_jdk_52_method_16_code_17 : decode jdk_52_method_16_code 17 = .ok (.if_icmp .eq 40, 3) := by decide +kernel
theorem d_jdk_52_method_16_code_20 : decode jdk_52_method_16_code 20 = .ok (.aload_n 0, 1) := by decide +kernel
theorem d_jdk_52_method_16_code_21 : decode jdk_52_method_16_code 21 = .ok (.iload_n 1, 1) := by decide +kernel
theorem d_jdk_52_method_16_code_22 : decode jdk_52_method_16_code 22 = .ok (.iload_n 2, 1) := by decide +kernel
theorem d_jdk_52_method_16_code_23 : decode jdk_52_method_16_code 23 = .ok (.invokestatic 119, 3) := by decide +kernel
theorem pd_4 : parseMethodDescriptor "([CII)[B" = some ⟨[(.array .char), .int, .int], some (.array .byte)⟩ := by decide +kernel
theorem d_jdk_52_method_16_code_26 : decode jdk_52_method_16_code 26 = .ok (.astore 5, 2) := by decide +kernel
theorem d_jdk_52_method_16_code_28 : decode jdk_52_method_16_code 28 = .ok (.aload 5, 2) := by decide +kernel
theorem d_jdk_52_method_16_code_30 : decode jdk_52_method_16_code 30 = .ok (.iload 4, 2) := by decide +kernel
theorem d_jdk_52_method_16_code_32 : decode jdk_52_method_16_code 32 = .ok (.invokestatic 71, 3) := by decide +kernel
theorem pd_5 : parseMethodDescriptor "([BI)C" = some ⟨[(.array .byte), .int], some .char⟩ := by decide +kernel
theorem d_jdk_52_method_16_code_35 : decode jdk_52_method_16_code 35 = .ok (.sipush 255, 3) := by decide +kernel
theorem d_jdk_52_method_16_code_38 : decode jdk_52_method_16_code 38 = .ok (.if_icmp .gt 16, 3) := by decide +kernel
theorem d_jdk_52_method_16_code_54 : decode jdk_52_method_16_code 54 = .ok (.aload 5, 2) := by decide +kernel
theorem d_jdk_52_method_16_code_56 : decode jdk_52_method_16_code 56 = .ok (.areturn, 1) := by decide +kernel
theorem ef_5 (m : MethodId) (x0 : Addr) (x1 : Int32) (x2 : Int32) : entryFrame m #[(.ref x0), (.int x1), (.int x2)] 6 = mkF m 0 #[.val (.ref x0), .val (.int x1), .val (.int x2), .unset, .unset, .unset] [] := by first | (simp [entryFrame, mkF, argsToLocals, Value.category]; done) | rfl
def Q_cmp3w (Z : State) (ca : Addr) (kc : ClassId) (cs : List Int32) (dv : Value) (o : Nat) (n : Nat) (rr : Nat) (ds : List Int32) (h0 : Heap) (n0 : Nat) (v : Option Value) (h : Heap) (L : List Loc) : Prop := ∃ (tt : Addr) (kt : ClassId), (v = some (.ref tt)) ∧ (Fr n0 L) ∧ (Keep h0 h ([] : List Addr)) ∧ (h0.size ≤ tt) ∧ (Arv Z h tt kt .byte (Int32.ofNat (2 * n)) (StrChars.Road.wideBytes ds) (.int (0 : Int32)))
set_option maxRecDepth 65536 in
set_option maxHeartbeats 40000000 in
theorem rm_cmp3w (l : Launch) (Z : State) (a0 : Array Value) (hw : ∀ d ∈ tables_1, d.before a0 Z = true) (ws : List Jvm.Cond) (ca : Addr) (kc : ClassId) (cs : List Int32) (dv : Value) (o : Nat) (n : Nat) (rr : Nat) (ds : List Int32) (h0 : Heap) (n0 : Nat) (Z0 : n0 ≤ h0.size) (q0 : Arv Z h0 ca kc .char (Int32.ofNat cs.length) (cs.map Value.int) dv) (hN : cs.length < 2 ^ 31) (q2 : Sta Z Z.heap "java/lang/StringUTF16" "$assertionsDisabled" "Z" (.int (1 : Int32))) (q3 : Sta Z Z.heap "java/lang/StringUTF16" "HI_BYTE_SHIFT" "I" (.int (0 : Int32))) (q4 : Sta Z Z.heap "java/lang/StringUTF16" "LO_BYTE_SHIFT" "I" (.int (8 : Int32))) (q5 : Old Z n0 h0) (hcap : n ≤ 3) (hon : o + n ≤ cs.length) (hds : ds.length = n) (hdc : ∀ q, q < n → ds.getD q 0 = cs.getD (o + q) 0) (hrn : rr < n) (hlow : ∀ q, q < rr → ¬ (255 : Int32) < cs.getD (o + q) 0) (hwide : (255 : Int32) < cs.getD (o + rr) 0) (hc0 : ¬ cs.getD (o + rr) 0 < 0) (hc1 : ¬ (65535 : Int32) < cs.getD (o + rr) 0) :
    MetFree l (⟨"java/lang/StringUTF16", "compress", "([CII)[B"⟩ : MethodName) (head1 (Jvm.Cond.code (⟨"java/lang/StringUTF16", "compress", "([CII)[B"⟩ : MethodName) jdk_52_method_16_code 6 (some (.array .byte)) :: ws) ({ frames := 3, cells := 2, slots := 9, locals := 40 } : Room)) (fun a₁ U₁ => a₁ = #[(.ref ca), (.int (Int32.ofNat o)), (.int (Int32.ofNat n))] ∧ Z.Warmed39 U₁.vm ∧ U₁.heap = h0) (fun _ _ _ _ _ => True) (fun _ U₁ o₁ U₂ => ∃ v₁ L₁, o₁ = .returned v₁ ∧ Q_cmp3w Z ca kc cs dv o n rr ds h0 n0 v₁ U₂.heap L₁ ∧ FrameEnd U₁ o₁ U₂ L₁ ({ frames := 3, cells := 2, slots := 9, locals := 40 } : Room).cells ({ frames := 3, cells := 2, slots := 9, locals := 40 } : Room).slots) := by
  refine MetFree.of_bodySF (plainFor_of_name pn_0) hisR ?_
  intro p e s m args below meth c s₁ Bd hml0 hP hK
  obtain ⟨rfl, hZ, hh⟩ := hP
  have hx := Bd.exec
  have hby := Bd.bytes
  have hml : c.maxLocals = 6 := hml0
  have hown : s.vm.findClass "java/lang/StringUTF16" = some m.cls := findClass_of_methodNamed Bd.named
  have hnm := (name_of_methodNamed Bd.named Bd.method).1
  have X0 : Stand p l e ({ frames := 3, cells := 2, slots := 9, locals := 40 } : Room) s m #[(.ref ca), (.int (Int32.ofNat o)), (.int (Int32.ofNat n))] below meth c s₁ [] 0 0 := Stand.of_body Bd
  have e0 : s₁.heap = h0 := by rw [← hh, Bd.state]; rfl
  have N0 := Fr.nil n0
  have pre0 : ∀ t, Steps p.tables e below (s₁.setTop (mkF m 0 #[.val (.ref ca), .val (.int (Int32.ofNat o)), .val (.int (Int32.ofNat n)), .unset, .unset, .unset] [])) t → Steps p.tables e below (s₁.setTop (entryFrame m #[(.ref ca), (.int (Int32.ofNat o)), (.int (Int32.ofNat n))] 6)) t := fun t k => castTop (ef_5 m ca (Int32.ofNat o) (Int32.ofNat n)) k
  have hdr : ds.getD rr 0 = cs.getD (o + rr) 0 := hdc rr hrn
  obtain ⟨T301, h301, ky301, X301, e301, E301, A301, st301⟩ := newP X0 hx hZ (hw _ (List.mem_of_getElem? (i := 16) rfl)) e0 (g := (mkF m 1 #[.val (.ref ca), .val (.int (Int32.ofNat o)), .val (.int (Int32.ofNat n)), .unset, .unset, .unset] [(.int (Int32.ofNat n))])) rfl (hb hby d_jdk_52_method_16_code_1) rfl ((own_nlt (Nat.zero_le _) (by omega)) : ¬ ((Int32.ofNat n) < (0 : Int32))) (cap := 3) ((by rw [own_clamp (by omega)]; omega) : (Int32.ofNat n).toNatClampNeg ≤ 3) (by decide) (by decide) (by decide)
  obtain ⟨b301, g301⟩ : ∃ z, z = h0.size := ⟨_, rfl⟩
  rw [← g301] at A301 st301
  have V301 : Arv Z h301 b301 ky301 .byte (Int32.ofNat n) [] (.int (0 : Int32)) := Arv.new A301 (own_nlt (Nat.zero_le _) (by omega))
  have U301 : Arv Z h301 b301 ky301 .byte (Int32.ofNat n) (List.replicate n (.int (0 : Int32))) (.int (0 : Int32)) := V301.pad (pad_rep [] (.int (0 : Int32)) n)
  have c302 : Arv Z h301 ca kc .char (Int32.ofNat cs.length) (cs.map Value.int) dv := (q0.ext E301)
  have ge303 : n0 ≤ b301 := Nat.le_trans Z0 (Nat.le_trans (Nat.le_refl _) (Nat.le_of_eq g301.symm))
  have ne304 : ca ≠ b301 := Nat.ne_of_lt (Nat.lt_of_lt_of_le q0.lt (Nat.le_of_eq g301.symm))
  obtain ⟨_, _, ⟨T305, L305, k305, n305⟩, -, X305, ⟨Lc305, hQ305, l305, y305, z305⟩, st305⟩ := Jvm.LawKit.callS X301 hx (y := (⟨"java/lang/StringUTF16", "compress", "([CI[BII)I"⟩ : MethodName)) hown (mvT hZ (hw _ (List.mem_of_getElem? (i := 39) rfl))) (mvT hZ (hw _ (List.mem_of_getElem? (i := 40) rfl))) (mvT hZ (hw _ (List.mem_of_getElem? (i := 37) rfl))) (mvT hZ (hw _ (List.mem_of_getElem? (i := 41) rfl))) (by decide) (backOf (W := 0) (rm_cmp5w l Z a0 hw [] ca kc cs dv b301 ky301 o n rr (List.replicate n (.int (0 : Int32))) h301 n0 (Nat.le_trans Z0 E301.1) c302 hN U301 ge303 ne304 (by simp) hon hrn hlow hwide) hZ (hw _ (List.mem_of_getElem? (i := 41) rfl)) (hw _ (List.mem_of_getElem? (i := 37) rfl)) (by decide) (by decide)) (g := (mkF m 9 #[.val (.ref ca), .val (.int (Int32.ofNat o)), .val (.int (Int32.ofNat n)), .val (.ref b301), .unset, .unset] [(.int (Int32.ofNat n)), (.int (0 : Int32)), (.ref b301), (.int (Int32.ofNat o)), (.ref ca)])) rfl (by rw [hml]; rfl) (argsL := [(.ref ca), (.int (Int32.ofNat o)), (.ref b301), (.int (0 : Int32)), (.int (Int32.ofNat n))]) (rest := []) (lenOf pd_3 rfl) rfl (by show 2 * 0 + _ ≤ _; exact Nat.le_of_eq rfl) (hb hby d_jdk_52_method_16_code_9) (fun _ _ => ⟨rfl, e301, (by decide : 1 + 0 ≤ _), (by decide : 3 + 0 ≤ _)⟩)
  dsimp only [Pt.U, Pt.locs, Pt.cells, Pt.slots] at X305 l305 y305 z305 st305 hQ305
  replace l305 := l305.symm
  replace y305 := y305.symm
  replace z305 := z305.symm
  subst l305 y305 z305
  obtain ⟨rfl, Nq305, K305⟩ := hQ305
  have N305 := Fr.app N0 Nq305
  have c306 : Arv Z T305.heap ca kc .char (Int32.ofNat cs.length) (cs.map Value.int) dv := (c302.keep K305 (ninS ne304 nin0))
  have c307 : Old Z n0 T305.heap := ((q5.ext E301).keep K305 (allS ge303 all0))
  obtain ⟨_, _, ⟨T308, L308, k308, n308⟩, -, X308, ⟨Lc308, hQ308, l308, y308, z308⟩, st308⟩ := Jvm.LawKit.callS X305 hx (y := (⟨"java/lang/StringUTF16", "toBytes", "([CII)[B"⟩ : MethodName)) hown (mvT hZ (hw _ (List.mem_of_getElem? (i := 182) rfl))) (mvT hZ (hw _ (List.mem_of_getElem? (i := 183) rfl))) (mvT hZ (hw _ (List.mem_of_getElem? (i := 37) rfl))) (mvT hZ (hw _ (List.mem_of_getElem? (i := 184) rfl))) (by decide) (backOf (W := 0) (rm_toByt l Z a0 hw [] ca kc cs dv o n ds T305.heap n0 (Nat.le_trans Z0 (Nat.le_trans E301.1 K305.1)) c306 hN q2 q3 q4 c307 hcap hon hds hdc) hZ (hw _ (List.mem_of_getElem? (i := 184) rfl)) (hw _ (List.mem_of_getElem? (i := 37) rfl)) (by decide) (by decide)) (g := (mkF m 23 #[.val (.ref ca), .val (.int (Int32.ofNat o)), .val (.int (Int32.ofNat n)), .val (.ref b301), .val (.int (Int32.ofNat rr)), .unset] [(.int (Int32.ofNat n)), (.int (Int32.ofNat o)), (.ref ca)])) rfl (by rw [hml]; rfl) (argsL := [(.ref ca), (.int (Int32.ofNat o)), (.int (Int32.ofNat n))]) (rest := []) (lenOf pd_4 rfl) rfl (by show 2 * 0 + _ ≤ _; exact Nat.le_of_eq rfl) (hb hby d_jdk_52_method_16_code_23) (fun _ _ => ⟨rfl, rfl, (by decide : 1 + 1 ≤ _), (by decide : 3 + 6 ≤ _)⟩)
  dsimp only [Pt.U, Pt.locs, Pt.cells, Pt.slots] at X308 l308 y308 z308 st308 hQ308
  replace l308 := l308.symm
  replace y308 := y308.symm
  replace z308 := z308.symm
  subst l308 y308 z308
  obtain ⟨tt_308, kt_308, rfl, Nq308, K308, f308_0, f308_1⟩ := hQ308
  have N308 := Fr.app N305 Nq308
  have c309 : Old Z n0 T308.heap := (c307.keep K308 all0)
  obtain ⟨_, _, ⟨T310, L310, k310, n310⟩, -, X310, ⟨Lc310, hQ310, l310, y310, z310⟩, st310⟩ := Jvm.LawKit.callS X308 hx (y := (⟨"java/lang/StringUTF16", "getChar", "([BI)C"⟩ : MethodName)) hown (mvT hZ (hw _ (List.mem_of_getElem? (i := 198) rfl))) (mvT hZ (hw _ (List.mem_of_getElem? (i := 199) rfl))) (mvT hZ (hw _ (List.mem_of_getElem? (i := 37) rfl))) (mvT hZ (hw _ (List.mem_of_getElem? (i := 200) rfl))) (by decide) (backOf (W := 0) (rm_getCh l Z a0 hw [] tt_308 rr (cs.getD (o + rr) 0) kt_308 (2 * n) (StrChars.Road.wideBytes ds) T308.heap n0 (Nat.le_trans Z0 (Nat.le_trans (Nat.le_trans E301.1 K305.1) K308.1)) q2 q3 q4 c309 f308_1 (by omega) (by omega) (by rw [← hdr]; exact StrChars.Road.wide_lo _ _ _ (by omega)) (by rw [← hdr]; exact StrChars.Road.wide_hi _ _ _ (by omega)) (by first | assumption | decide) (by first | assumption | decide)) hZ (hw _ (List.mem_of_getElem? (i := 200) rfl)) (hw _ (List.mem_of_getElem? (i := 37) rfl)) (by decide) (by decide)) (g := (mkF m 32 #[.val (.ref ca), .val (.int (Int32.ofNat o)), .val (.int (Int32.ofNat n)), .val (.ref b301), .val (.int (Int32.ofNat rr)), .val (.ref tt_308)] [(.int (Int32.ofNat rr)), (.ref tt_308)])) rfl (by rw [hml]; rfl) (argsL := [(.ref tt_308), (.int (Int32.ofNat rr))]) (rest := []) (lenOf pd_5 rfl) rfl (by show 2 * 0 + _ ≤ _; exact Nat.le_of_eq rfl) (hb hby d_jdk_52_method_16_code_32) (fun _ _ => ⟨rfl, rfl, (by decide : 2 + 0 ≤ _), (by decide : 9 + 0 ≤ _)⟩)
  dsimp only [Pt.U, Pt.locs, Pt.cells, Pt.slots] at X310 l310 y310 z310 st310 hQ310
  replace l310 := l310.symm
  replace y310 := y310.symm
  replace z310 := z310.symm
  subst l310 y310 z310
  obtain ⟨rfl, Nq310, e310⟩ := hQ310
  have N310 := Fr.app N308 Nq310
  obtain ⟨fs, hr, hrun, hended, hW, hsame⟩ := X310.leave (v := some (.ref tt_308)) (fun h => by rw [Bd.returns] at h; cases h)
  refine ⟨_, _, pre0 _ ?_, hrun, hended, _, _, rfl, ?_, ⟨_, rfl⟩, hW, hsame.mono (by decide) (by decide)⟩
  · refine XS.iloadN X0.here hx rfl (hb hby d_jdk_52_method_16_code_0) rfl ?_
    show Steps p.tables e below (s₁.setTop (mkF m 1 #[.val (.ref ca), .val (.int (Int32.ofNat o)), .val (.int (Int32.ofNat n)), .unset, .unset, .unset] [(.int (Int32.ofNat n))])) _
    refine st301 _ ?_
    show Steps p.tables e below (T301.setTop (mkF m 3 #[.val (.ref ca), .val (.int (Int32.ofNat o)), .val (.int (Int32.ofNat n)), .unset, .unset, .unset] [(.ref b301)])) _
    refine XS.astoreN X301.here hx rfl (hb hby d_jdk_52_method_16_code_3) rfl rfl (l' := #[.val (.ref ca), .val (.int (Int32.ofNat o)), .val (.int (Int32.ofNat n)), .val (.ref b301), .unset, .unset]) rfl ?_
    show Steps p.tables e below (T301.setTop (mkF m 4 #[.val (.ref ca), .val (.int (Int32.ofNat o)), .val (.int (Int32.ofNat n)), .val (.ref b301), .unset, .unset] [])) _
    refine XS.aloadN X301.here hx rfl (hb hby d_jdk_52_method_16_code_4) rfl rfl ?_
    show Steps p.tables e below (T301.setTop (mkF m 5 #[.val (.ref ca), .val (.int (Int32.ofNat o)), .val (.int (Int32.ofNat n)), .val (.ref b301), .unset, .unset] [(.ref ca)])) _
    refine XS.iloadN X301.here hx rfl (hb hby d_jdk_52_method_16_code_5) rfl ?_
    show Steps p.tables e below (T301.setTop (mkF m 6 #[.val (.ref ca), .val (.int (Int32.ofNat o)), .val (.int (Int32.ofNat n)), .val (.ref b301), .unset, .unset] [(.int (Int32.ofNat o)), (.ref ca)])) _
    refine XS.aloadN X301.here hx rfl (hb hby d_jdk_52_method_16_code_6) rfl rfl ?_
    show Steps p.tables e below (T301.setTop (mkF m 7 #[.val (.ref ca), .val (.int (Int32.ofNat o)), .val (.int (Int32.ofNat n)), .val (.ref b301), .unset, .unset] [(.ref b301), (.int (Int32.ofNat o)), (.ref ca)])) _
    refine XS.iconst X301.here hx rfl (hb hby d_jdk_52_method_16_code_7) ?_
    show Steps p.tables e below (T301.setTop (mkF m 8 #[.val (.ref ca), .val (.int (Int32.ofNat o)), .val (.int (Int32.ofNat n)), .val (.ref b301), .unset, .unset] [(.int (0 : Int32)), (.ref b301), (.int (Int32.ofNat o)), (.ref ca)])) _
    refine XS.iloadN X301.here hx rfl (hb hby d_jdk_52_method_16_code_8) rfl ?_
    show Steps p.tables e below (T301.setTop (mkF m 9 #[.val (.ref ca), .val (.int (Int32.ofNat o)), .val (.int (Int32.ofNat n)), .val (.ref b301), .unset, .unset] [(.int (Int32.ofNat n)), (.int (0 : Int32)), (.ref b301), (.int (Int32.ofNat o)), (.ref ca)])) _
    refine st305 _ ?_
    show Steps p.tables e below (T305.setTop (mkF m 12 #[.val (.ref ca), .val (.int (Int32.ofNat o)), .val (.int (Int32.ofNat n)), .val (.ref b301), .unset, .unset] [(.int (Int32.ofNat rr))])) _
    refine XS.istore X305.here hx rfl (hb hby d_jdk_52_method_16_code_12) rfl (l' := #[.val (.ref ca), .val (.int (Int32.ofNat o)), .val (.int (Int32.ofNat n)), .val (.ref b301), .val (.int (Int32.ofNat rr)), .unset]) rfl ?_
    show Steps p.tables e below (T305.setTop (mkF m 14 #[.val (.ref ca), .val (.int (Int32.ofNat o)), .val (.int (Int32.ofNat n)), .val (.ref b301), .val (.int (Int32.ofNat rr)), .unset] [])) _
    refine XS.iload X305.here hx rfl (hb hby d_jdk_52_method_16_code_14) rfl ?_
    show Steps p.tables e below (T305.setTop (mkF m 16 #[.val (.ref ca), .val (.int (Int32.ofNat o)), .val (.int (Int32.ofNat n)), .val (.ref b301), .val (.int (Int32.ofNat rr)), .unset] [(.int (Int32.ofNat rr))])) _
    refine XS.iloadN X305.here hx rfl (hb hby d_jdk_52_method_16_code_16) rfl ?_
    show Steps p.tables e below (T305.setTop (mkF m 17 #[.val (.ref ca), .val (.int (Int32.ofNat o)), .val (.int (Int32.ofNat n)), .val (.ref b301), .val (.int (Int32.ofNat rr)), .unset] [(.int (Int32.ofNat n)), (.int (Int32.ofNat rr))])) _
    refine XS.icmpNo X305.here hx rfl (hb hby d_jdk_52_method_16_code_17) rfl (feq ((fun q => absurd (own_oinj (by omega) (by omega) q) (by omega)) : ¬ ((Int32.ofNat rr) = (Int32.ofNat n)))).1 ?_
    show Steps p.tables e below (T305.setTop (mkF m 20 #[.val (.ref ca), .val (.int (Int32.ofNat o)), .val (.int (Int32.ofNat n)), .val (.ref b301), .val (.int (Int32.ofNat rr)), .unset] [])) _
    refine XS.aloadN X305.here hx rfl (hb hby d_jdk_52_method_16_code_20) rfl rfl ?_
    show Steps p.tables e below (T305.setTop (mkF m 21 #[.val (.ref ca), .val (.int (Int32.ofNat o)), .val (.int (Int32.ofNat n)), .val (.ref b301), .val (.int (Int32.ofNat rr)), .unset] [(.ref ca)])) _
    refine XS.iloadN X305.here hx rfl (hb hby d_jdk_52_method_16_code_21) rfl ?_
    show Steps p.tables e below (T305.setTop (mkF m 22 #[.val (.ref ca), .val (.int (Int32.ofNat o)), .val (.int (Int32.ofNat n)), .val (.ref b301), .val (.int (Int32.ofNat rr)), .unset] [(.int (Int32.ofNat o)), (.ref ca)])) _
    refine XS.iloadN X305.here hx rfl (hb hby d_jdk_52_method_16_code_22) rfl ?_
    show Steps p.tables e below (T305.setTop (mkF m 23 #[.val (.ref ca), .val (.int (Int32.ofNat o)), .val (.int (Int32.ofNat n)), .val (.ref b301), .val (.int (Int32.ofNat rr)), .unset] [(.int (Int32.ofNat n)), (.int (Int32.ofNat o)), (.ref ca)])) _
    refine st308 _ ?_
    show Steps p.tables e below (T308.setTop (mkF m 26 #[.val (.ref ca), .val (.int (Int32.ofNat o)), .val (.int (Int32.ofNat n)), .val (.ref b301), .val (.int (Int32.ofNat rr)), .unset] [(.ref tt_308)])) _
    refine XS.astore X308.here hx rfl (hb hby d_jdk_52_method_16_code_26) rfl rfl (l' := #[.val (.ref ca), .val (.int (Int32.ofNat o)), .val (.int (Int32.ofNat n)), .val (.ref b301), .val (.int (Int32.ofNat rr)), .val (.ref tt_308)]) rfl ?_
    show Steps p.tables e below (T308.setTop (mkF m 28 #[.val (.ref ca), .val (.int (Int32.ofNat o)), .val (.int (Int32.ofNat n)), .val (.ref b301), .val (.int (Int32.ofNat rr)), .val (.ref tt_308)] [])) _
    refine XS.aload X308.here hx rfl (hb hby d_jdk_52_method_16_code_28) rfl rfl ?_
    show Steps p.tables e below (T308.setTop (mkF m 30 #[.val (.ref ca), .val (.int (Int32.ofNat o)), .val (.int (Int32.ofNat n)), .val (.ref b301), .val (.int (Int32.ofNat rr)), .val (.ref tt_308)] [(.ref tt_308)])) _
    refine XS.iload X308.here hx rfl (hb hby d_jdk_52_method_16_code_30) rfl ?_
    show Steps p.tables e below (T308.setTop (mkF m 32 #[.val (.ref ca), .val (.int (Int32.ofNat o)), .val (.int (Int32.ofNat n)), .val (.ref b301), .val (.int (Int32.ofNat rr)), .val (.ref tt_308)] [(.int (Int32.ofNat rr)), (.ref tt_308)])) _
    refine st310 _ ?_
    show Steps p.tables e below (T310.setTop (mkF m 35 #[.val (.ref ca), .val (.int (Int32.ofNat o)), .val (.int (Int32.ofNat n)), .val (.ref b301), .val (.int (Int32.ofNat rr)), .val (.ref tt_308)] [(.int (cs.getD (o + rr) 0))])) _
    refine XS.sipush X310.here hx rfl (hb hby d_jdk_52_method_16_code_35) ?_
    show Steps p.tables e below (T310.setTop (mkF m 38 #[.val (.ref ca), .val (.int (Int32.ofNat o)), .val (.int (Int32.ofNat n)), .val (.ref b301), .val (.int (Int32.ofNat rr)), .val (.ref tt_308)] [(.int (255 : Int32)), (.int (cs.getD (o + rr) 0))])) _
    refine XS.icmpYes X310.here hx rfl (pc0 := 38) (pc' := 54) rfl (hb hby d_jdk_52_method_16_code_38) rfl (tlt (hwide : (255 : Int32) < (cs.getD (o + rr) 0))).2.2.1 (by decide) (by decide) ?_
    show Steps p.tables e below (T310.setTop (mkF m 54 #[.val (.ref ca), .val (.int (Int32.ofNat o)), .val (.int (Int32.ofNat n)), .val (.ref b301), .val (.int (Int32.ofNat rr)), .val (.ref tt_308)] [])) _
    refine XS.aload X310.here hx rfl (hb hby d_jdk_52_method_16_code_54) rfl rfl ?_
    show Steps p.tables e below (T310.setTop (mkF m 56 #[.val (.ref ca), .val (.int (Int32.ofNat o)), .val (.int (Int32.ofNat n)), .val (.ref b301), .val (.int (Int32.ofNat rr)), .val (.ref tt_308)] [(.ref tt_308)])) _
    jvm_step X310.here [X310.here.top, hx, (hb hby d_jdk_52_method_16_code_56), X310.method', Bd.returns, Value.isRef, FieldType.isReference]
    first | (intro acts; rw [hr _ acts rfl rfl rfl]) | rw [hr _ _ rfl rfl rfl]
    exact Steps.refl _
  · show Q_cmp3w Z ca kc cs dv o n rr ds h0 n0 _ T310.heap _
    rw [e310]
    exact ⟨tt_308, kt_308, rfl, N310, ((((Keep.refl h0 ([] : List Addr)).ext E301).trans K305 (allS (Or.inr (Nat.le_trans (Nat.le_refl _) (Nat.le_of_eq g301.symm))) all0)).trans K308 all0), (Nat.le_trans (Nat.le_trans E301.1 K305.1) f308_0), f308_1⟩
theorem d_jdk_52_method_15_code_0 : decode jdk_52_method_15_code 0 = .ok (.iload_n 1, 1) := by decide +kernel
theorem d_jdk_52_method_15_code_1 : decode jdk_52_method_15_code 1 = .ok (.aload_n 0, 1) := by decide +kernel
theorem d_jdk_52_method_15_code_2 : decode jdk_52_method_15_code 2 = .ok (.arraylength, 1) := by decide +kernel
theorem d_jdk_52_method_15_code_3 : decode jdk_52_method_15_code 3 = .ok (.isub, 1) := by decide +kernel
theorem d_jdk_52_method_15_code_4 : decode jdk_52_method_15_code 4 = .ok (.bipush 31, 2) := by decide +kernel
theorem d_jdk_52_method_15_code_6 : decode jdk_52_method_15_code 6 = .ok (.iushr, 1) := by decide +kernel
theorem d_jdk_52_method_15_code_7 : decode jdk_52_method_15_code 7 = .ok (.i2b, 1) := by decide +kernel
theorem d_jdk_52_method_15_code_8 : decode jdk_52_method_15_code 8 = .ok (.ireturn, 1) := by decide +kernel
def Q_codL1 (Z : State) (dd : Addr) (n : Nat) (kd : ClassId) (vs : List Value) (h0 : Heap) (n0 : Nat) (v : Option Value) (h : Heap) (L : List Loc) : Prop := (v = some (.int (1 : Int32))) ∧ (Fr n0 L) ∧ (h = h0)
set_option maxRecDepth 65536 in
set_option maxHeartbeats 40000000 in
theorem rm_codL1 (l : Launch) (Z : State) (a0 : Array Value) (hw : ∀ d ∈ tables_1, d.before a0 Z = true) (ws : List Jvm.Cond) (dd : Addr) (n : Nat) (kd : ClassId) (vs : List Value) (h0 : Heap) (n0 : Nat) (Z0 : n0 ≤ h0.size) (q0 : Arv Z h0 dd kd .byte (Int32.ofNat (2 * n)) vs (.int (0 : Int32))) (hn1 : 0 < n) (hcap : n ≤ 3) :
    MetFree l (⟨"java/lang/StringUTF16", "coderFromArrayLen", "([BI)B"⟩ : MethodName) (head1 (Jvm.Cond.code (⟨"java/lang/StringUTF16", "coderFromArrayLen", "([BI)B"⟩ : MethodName) jdk_52_method_15_code 2 (some .byte) :: ws) ({ frames := 0, cells := 0, slots := 0, locals := 0 } : Room)) (fun a₁ U₁ => a₁ = #[(.ref dd), (.int (Int32.ofNat n))] ∧ Z.Warmed39 U₁.vm ∧ U₁.heap = h0) (fun _ _ _ _ _ => True) (fun _ U₁ o₁ U₂ => ∃ v₁ L₁, o₁ = .returned v₁ ∧ Q_codL1 Z dd n kd vs h0 n0 v₁ U₂.heap L₁ ∧ FrameEnd U₁ o₁ U₂ L₁ ({ frames := 0, cells := 0, slots := 0, locals := 0 } : Room).cells ({ frames := 0, cells := 0, slots := 0, locals := 0 } : Room).slots) := by
  refine MetFree.of_bodySF (plainFor_of_name pn_0) hisR ?_
  intro p e s m args below meth c s₁ Bd hml0 hP hK
  obtain ⟨rfl, hZ, hh⟩ := hP
  have hx := Bd.exec
  have hby := Bd.bytes
  have hml : c.maxLocals = 2 := hml0
  have hown : s.vm.findClass "java/lang/StringUTF16" = some m.cls := findClass_of_methodNamed Bd.named
  have hnm := (name_of_methodNamed Bd.named Bd.method).1
  have X0 : Stand p l e ({ frames := 0, cells := 0, slots := 0, locals := 0 } : Room) s m #[(.ref dd), (.int (Int32.ofNat n))] below meth c s₁ [] 0 0 := Stand.of_body Bd
  have e0 : s₁.heap = h0 := by rw [← hh, Bd.state]; rfl
  have N0 := Fr.nil n0
  have pre0 : ∀ t, Steps p.tables e below (s₁.setTop (mkF m 0 #[.val (.ref dd), .val (.int (Int32.ofNat n))] [])) t → Steps p.tables e below (s₁.setTop (entryFrame m #[(.ref dd), (.int (Int32.ofNat n))] 2)) t := fun t k => castTop (ef_2 m dd (Int32.ofNat n)) k
  obtain ⟨cl301, Ar301, -, S301, M301, -, -⟩ := id q0
  obtain ⟨fs, hr, hrun, hended, hW, hsame⟩ := X0.leave (v := some (.int (1 : Int32))) (fun h => by rw [Bd.returns] at h; cases h)
  refine ⟨_, _, pre0 _ ?_, hrun, hended, _, _, rfl, ?_, ⟨_, rfl⟩, hW, hsame.mono (by decide) (by decide)⟩
  · refine XS.iloadN X0.here hx rfl (hb hby d_jdk_52_method_15_code_0) rfl ?_
    show Steps p.tables e below (s₁.setTop (mkF m 1 #[.val (.ref dd), .val (.int (Int32.ofNat n))] [(.int (Int32.ofNat n))])) _
    refine XS.aloadN X0.here hx rfl (hb hby d_jdk_52_method_15_code_1) rfl rfl ?_
    show Steps p.tables e below (s₁.setTop (mkF m 2 #[.val (.ref dd), .val (.int (Int32.ofNat n))] [(.ref dd), (.int (Int32.ofNat n))])) _
    refine X0.arraylength hx (by rw [e0]; exact Ar301.1) (State.isArrayOf_alike hZ.alike Ar301.2.1) (g := (mkF m 2 #[.val (.ref dd), .val (.int (Int32.ofNat n))] [(.ref dd), (.int (Int32.ofNat n))])) rfl rfl (hb hby d_jdk_52_method_15_code_2) _ ?_
    rw [len_of S301 M301]
    show Steps p.tables e below (s₁.setTop (mkF m 3 #[.val (.ref dd), .val (.int (Int32.ofNat n))] [(.int (Int32.ofNat (2 * n))), (.int (Int32.ofNat n))])) _
    refine XS.isub X0.here hx rfl (hb hby d_jdk_52_method_15_code_3) rfl ?_
    show Steps p.tables e below (s₁.setTop (mkF m 4 #[.val (.ref dd), .val (.int (Int32.ofNat n))] [(.int ((Int32.ofNat n) - (Int32.ofNat (2 * n))))])) _
    refine XS.bipush X0.here hx rfl (hb hby d_jdk_52_method_15_code_4) ?_
    show Steps p.tables e below (s₁.setTop (mkF m 6 #[.val (.ref dd), .val (.int (Int32.ofNat n))] [(.int (31 : Int32)), (.int ((Int32.ofNat n) - (Int32.ofNat (2 * n))))])) _
    refine XS.iushr X0.here hx rfl (hb hby d_jdk_52_method_15_code_6) rfl ?_
    show Steps p.tables e below (s₁.setTop (mkF m 7 #[.val (.ref dd), .val (.int (Int32.ofNat n))] [(.int ((((Int32.ofNat n) - (Int32.ofNat (2 * n))).toUInt32 >>> ((31 : Int32) &&& 31).toUInt32).toInt32))])) _
    refine XS.i2b X0.here hx rfl (hb hby d_jdk_52_method_15_code_7) rfl ?_
    show Steps p.tables e below (s₁.setTop (mkF m 8 #[.val (.ref dd), .val (.int (Int32.ofNat n))] [(.int (((((Int32.ofNat n) - (Int32.ofNat (2 * n))).toUInt32 >>> ((31 : Int32) &&& 31).toUInt32).toInt32).toInt8.toInt32))])) _
    rw [own_coder1 hn1 (by omega)]
    show Steps p.tables e below (s₁.setTop (mkF m 8 #[.val (.ref dd), .val (.int (Int32.ofNat n))] [(.int (1 : Int32))])) _
    exact retN X0 hx (t := .byte) Bd.returns (by simp) (hb hby d_jdk_52_method_15_code_8) hr
  · show Q_codL1 Z dd n kd vs h0 n0 _ s₁.heap _
    rw [e0]
    exact ⟨rfl, N0, rfl⟩
theorem d_jdk_42_method_149_code_0 : decode jdk_42_method_149_code 0 = .ok (.aload_n 0, 1) := by decide +kernel
theorem d_jdk_42_method_149_code_1 : decode jdk_42_method_149_code 1 = .ok (.invokespecial 1, 3) := by decide +kernel
theorem d_jdk_42_method_149_code_4 : decode jdk_42_method_149_code 4 = .ok (.iload_n 3, 1) := by decide +kernel
theorem d_jdk_42_method_149_code_5 : decode jdk_42_method_149_code 5 = .ok (.ifCond .ne 22, 3) := by decide +kernel
theorem d_jdk_42_method_149_code_27 : decode jdk_42_method_149_code 27 = .ok (.getstatic 38, 3) := by decide +kernel
theorem d_jdk_42_method_149_code_30 : decode jdk_42_method_149_code 30 = .ok (.ifCond .eq 28, 3) := by decide +kernel
theorem d_jdk_42_method_149_code_33 : decode jdk_42_method_149_code 33 = .ok (.aload_n 1, 1) := by decide +kernel
theorem d_jdk_42_method_149_code_34 : decode jdk_42_method_149_code 34 = .ok (.iload_n 2, 1) := by decide +kernel
theorem d_jdk_42_method_149_code_35 : decode jdk_42_method_149_code 35 = .ok (.iload_n 3, 1) := by decide +kernel
theorem d_jdk_42_method_149_code_36 : decode jdk_42_method_149_code 36 = .ok (.invokestatic 177, 3) := by decide +kernel
theorem d_jdk_42_method_149_code_39 : decode jdk_42_method_149_code 39 = .ok (.astore 5, 2) := by decide +kernel
theorem d_jdk_42_method_149_code_41 : decode jdk_42_method_149_code 41 = .ok (.aload_n 0, 1) := by decide +kernel
theorem d_jdk_42_method_149_code_42 : decode jdk_42_method_149_code 42 = .ok (.aload 5, 2) := by decide +kernel
theorem d_jdk_42_method_149_code_44 : decode jdk_42_method_149_code 44 = .ok (.iload_n 3, 1) := by decide +kernel
theorem d_jdk_42_method_149_code_45 : decode jdk_42_method_149_code 45 = .ok (.invokestatic 47, 3) := by decide +kernel
theorem pd_6 : parseMethodDescriptor "([BI)B" = some ⟨[(.array .byte), .int], some .byte⟩ := by decide +kernel
theorem d_jdk_42_method_149_code_48 : decode jdk_42_method_149_code 48 = .ok (.putfield 15, 3) := by decide +kernel
theorem d_jdk_42_method_149_code_51 : decode jdk_42_method_149_code 51 = .ok (.aload_n 0, 1) := by decide +kernel
theorem d_jdk_42_method_149_code_52 : decode jdk_42_method_149_code 52 = .ok (.aload 5, 2) := by decide +kernel
theorem d_jdk_42_method_149_code_54 : decode jdk_42_method_149_code 54 = .ok (.putfield 9, 3) := by decide +kernel
theorem d_jdk_42_method_149_code_57 : decode jdk_42_method_149_code 57 = .ok (.return_, 1) := by decide +kernel
theorem ef_6 (m : MethodId) (x0 : Addr) (x1 : Addr) (x2 : Int32) (x3 : Int32) : entryFrame m #[(.ref x0), (.ref x1), (.int x2), (.int x3), .null] 6 = mkF m 0 #[.val (.ref x0), .val (.ref x1), .val (.int x2), .val (.int x3), .val .null, .unset] [] := by first | (simp [entryFrame, mkF, argsToLocals, Value.category]; done) | rfl
theorem pn_1 : plainName "java/lang/String" = true := by first | (simp [plainName, overriddenIn]; done) | decide +kernel
def Q_new4w (Z : State) (xs : Addr) (ca : Addr) (kc : ClassId) (cs : List Int32) (dv : Value) (o : Nat) (n : Nat) (rr : Nat) (ds : List Int32) (G : Int32) (h0 : Heap) (n0 : Nat) (v : Option Value) (h : Heap) (L : List Loc) : Prop := ∃ (tt : Addr) (kt : ClassId), (v = none) ∧ (Fr n0 L) ∧ (Keep h0 h ([xs] : List Addr)) ∧ (Fld Z h xs "java/lang/String" "value" "[B" (.ref tt)) ∧ (Fld Z h xs "java/lang/String" "coder" "B" (.int (1 : Int32))) ∧ (h0.size ≤ tt) ∧ (Arv Z h tt kt .byte (Int32.ofNat (2 * n)) (StrChars.Road.wideBytes ds) (.int (0 : Int32)))
set_option maxRecDepth 65536 in
set_option maxHeartbeats 40000000 in
theorem rm_new4w (l : Launch) (Z : State) (a0 : Array Value) (hw : ∀ d ∈ tables_1, d.before a0 Z = true) (ws : List Jvm.Cond) (xs : Addr) (ca : Addr) (kc : ClassId) (cs : List Int32) (dv : Value) (o : Nat) (n : Nat) (rr : Nat) (ds : List Int32) (G : Int32) (h0 : Heap) (n0 : Nat) (Z0 : n0 ≤ h0.size) (q0 : Sta Z Z.heap "java/lang/String" "COMPACT_STRINGS" "Z" (.int G)) (hCS : ¬ (G = (0 : Int32))) (q2 : Sta Z Z.heap "java/lang/StringUTF16" "$assertionsDisabled" "Z" (.int (1 : Int32))) (q3 : Sta Z Z.heap "java/lang/StringUTF16" "HI_BYTE_SHIFT" "I" (.int (0 : Int32))) (q4 : Sta Z Z.heap "java/lang/StringUTF16" "LO_BYTE_SHIFT" "I" (.int (8 : Int32))) (q5 : Old Z n0 h0) (hcap : n ≤ 3) (hds : ds.length = n) (hrn : rr < n) (q9 : Arv Z h0 ca kc .char (Int32.ofNat cs.length) (cs.map Value.int) dv) (hN : cs.length < 2 ^ 31) (hon : o + n ≤ cs.length) (hdc : ∀ q, q < n → ds.getD q 0 = cs.getD (o + q) 0) (hlow : ∀ q, q < rr → ¬ (255 : Int32) < cs.getD (o + q) 0) (hwide : (255 : Int32) < cs.getD (o + rr) 0) (hc0 : ¬ cs.getD (o + rr) 0 < 0) (hc1 : ¬ (65535 : Int32) < cs.getD (o + rr) 0) (q17 : Exa Z h0 xs "java/lang/String") (q18 : Fld Z h0 xs "java/lang/String" "value" "[B" .null) (q19 : Fld Z h0 xs "java/lang/String" "coder" "B" (.int (0 : Int32))) (q20 : n0 ≤ xs) :
    MetFree l (⟨"java/lang/String", "<init>", "([CIILjava/lang/Void;)V"⟩ : MethodName) (head1 (Jvm.Cond.code (⟨"java/lang/String", "<init>", "([CIILjava/lang/Void;)V"⟩ : MethodName) jdk_42_method_149_code 6 none :: ws) ({ frames := 4, cells := 2, slots := 9, locals := 57 } : Room)) (fun a₁ U₁ => a₁ = #[(.ref xs), (.ref ca), (.int (Int32.ofNat o)), (.int (Int32.ofNat n)), .null] ∧ Z.Warmed39 U₁.vm ∧ U₁.heap = h0) (fun _ _ _ _ _ => True) (fun _ U₁ o₁ U₂ => ∃ v₁ L₁, o₁ = .returned v₁ ∧ Q_new4w Z xs ca kc cs dv o n rr ds G h0 n0 v₁ U₂.heap L₁ ∧ FrameEnd U₁ o₁ U₂ L₁ ({ frames := 4, cells := 2, slots := 9, locals := 57 } : Room).cells ({ frames := 4, cells := 2, slots := 9, locals := 57 } : Room).slots) := by
  refine MetFree.of_bodySF (plainFor_of_name pn_1) hisR ?_
  intro p e s m args below meth c s₁ Bd hml0 hP hK
  obtain ⟨rfl, hZ, hh⟩ := hP
  have hx := Bd.exec
  have hby := Bd.bytes
  have hml : c.maxLocals = 6 := hml0
  have hown : s.vm.findClass "java/lang/String" = some m.cls := findClass_of_methodNamed Bd.named
  have hnm := (name_of_methodNamed Bd.named Bd.method).1
  have X0 : Stand p l e ({ frames := 4, cells := 2, slots := 9, locals := 57 } : Room) s m #[(.ref xs), (.ref ca), (.int (Int32.ofNat o)), (.int (Int32.ofNat n)), .null] below meth c s₁ [] 0 0 := Stand.of_body Bd
  have e0 : s₁.heap = h0 := by rw [← hh, Bd.state]; rfl
  have N0 := Fr.nil n0
  have pre0 : ∀ t, Steps p.tables e below (s₁.setTop (mkF m 0 #[.val (.ref xs), .val (.ref ca), .val (.int (Int32.ofNat o)), .val (.int (Int32.ofNat n)), .val .null, .unset] [])) t → Steps p.tables e below (s₁.setTop (entryFrame m #[(.ref xs), (.ref ca), (.int (Int32.ofNat o)), (.int (Int32.ofNat n)), .null] 6)) t := fun t k => castTop (ef_6 m xs ca (Int32.ofNat o) (Int32.ofNat n)) k
  obtain ⟨T301, X301, e301, st301⟩ := initO X0 hx hZ hown (hw _ (List.mem_of_getElem? (i := 21) rfl)) (hw _ (List.mem_of_getElem? (i := 22) rfl)) (hw _ (List.mem_of_getElem? (i := 23) rfl)) e0 (g := (mkF m 1 #[.val (.ref xs), .val (.ref ca), .val (.int (Int32.ofNat o)), .val (.int (Int32.ofNat n)), .val .null, .unset] [(.ref xs)])) rfl (by rw [hml]; rfl) rfl (hb hby d_jdk_42_method_149_code_1) (by decide) (W := 0) (by show 2 * 0 + _ ≤ _; exact Nat.le_of_eq rfl) (by decide)
  obtain ⟨T302, X302, e302, st302⟩ := getS2 X301 hx hZ hown (host := "") (Or.inl (hw _ (List.mem_of_getElem? (i := 6) rfl))) Via.refl e301 (q0.ext q5.2) (g := (mkF m 27 #[.val (.ref xs), .val (.ref ca), .val (.int (Int32.ofNat o)), .val (.int (Int32.ofNat n)), .val .null, .unset] [])) rfl (hb hby d_jdk_42_method_149_code_27)
  obtain ⟨_, _, ⟨T303, L303, k303, n303⟩, -, X303, ⟨Lc303, hQ303, l303, y303, z303⟩, st303⟩ := Jvm.LawKit.callS X302 hx (y := (⟨"java/lang/StringUTF16", "compress", "([CII)[B"⟩ : MethodName)) hown (mvT hZ (hw _ (List.mem_of_getElem? (i := 35) rfl))) (mvT hZ (hw _ (List.mem_of_getElem? (i := 36) rfl))) (mvT hZ (hw _ (List.mem_of_getElem? (i := 37) rfl))) (mvT hZ (hw _ (List.mem_of_getElem? (i := 38) rfl))) (by decide) (backOf (W := 0) (rm_cmp3w l Z a0 hw [] ca kc cs dv o n rr ds h0 n0 Z0 q9 hN q2 q3 q4 q5 hcap hon hds hdc hrn hlow hwide hc0 hc1) hZ (hw _ (List.mem_of_getElem? (i := 38) rfl)) (hw _ (List.mem_of_getElem? (i := 37) rfl)) (by decide) (by decide)) (g := (mkF m 36 #[.val (.ref xs), .val (.ref ca), .val (.int (Int32.ofNat o)), .val (.int (Int32.ofNat n)), .val .null, .unset] [(.int (Int32.ofNat n)), (.int (Int32.ofNat o)), (.ref ca)])) rfl (by rw [hml]; rfl) (argsL := [(.ref ca), (.int (Int32.ofNat o)), (.int (Int32.ofNat n))]) (rest := []) (lenOf pd_4 rfl) rfl (by show 2 * 0 + _ ≤ _; exact Nat.le_of_eq rfl) (hb hby d_jdk_42_method_149_code_36) (fun _ _ => ⟨rfl, e302, (by decide : 0 + 2 ≤ _), (by decide : 0 + 9 ≤ _)⟩)
  dsimp only [Pt.U, Pt.locs, Pt.cells, Pt.slots] at X303 l303 y303 z303 st303 hQ303
  replace l303 := l303.symm
  replace y303 := y303.symm
  replace z303 := z303.symm
  subst l303 y303 z303
  obtain ⟨tt_303, kt_303, rfl, Nq303, K303, f303_0, f303_1⟩ := hQ303
  have N303 := Fr.app N0 Nq303
  obtain ⟨_, _, ⟨T304, L304, k304, n304⟩, -, X304, ⟨Lc304, hQ304, l304, y304, z304⟩, st304⟩ := Jvm.LawKit.callS X303 hx (y := (⟨"java/lang/StringUTF16", "coderFromArrayLen", "([BI)B"⟩ : MethodName)) hown (mvT hZ (hw _ (List.mem_of_getElem? (i := 42) rfl))) (mvT hZ (hw _ (List.mem_of_getElem? (i := 43) rfl))) (mvT hZ (hw _ (List.mem_of_getElem? (i := 37) rfl))) (mvT hZ (hw _ (List.mem_of_getElem? (i := 44) rfl))) (by decide) (backOf (W := 1) (rm_codL1 l Z a0 hw [] tt_303 n kt_303 (StrChars.Road.wideBytes ds) T303.heap n0 (Nat.le_trans Z0 K303.1) f303_1 (by omega) hcap) hZ (hw _ (List.mem_of_getElem? (i := 44) rfl)) (hw _ (List.mem_of_getElem? (i := 37) rfl)) (by decide) (by decide)) (g := (mkF m 45 #[.val (.ref xs), .val (.ref ca), .val (.int (Int32.ofNat o)), .val (.int (Int32.ofNat n)), .val .null, .val (.ref tt_303)] [(.int (Int32.ofNat n)), (.ref tt_303), (.ref xs)])) rfl (by rw [hml]; rfl) (argsL := [(.ref tt_303), (.int (Int32.ofNat n))]) (rest := [(.ref xs)]) (lenOf pd_6 rfl) rfl (by show 2 * 0 + _ ≤ _; exact Nat.le_of_eq rfl) (hb hby d_jdk_42_method_149_code_45) (fun _ _ => ⟨rfl, rfl, (by decide : 2 + 0 ≤ _), (by decide : 9 + 0 ≤ _)⟩)
  dsimp only [Pt.U, Pt.locs, Pt.cells, Pt.slots] at X304 l304 y304 z304 st304 hQ304
  replace l304 := l304.symm
  replace y304 := y304.symm
  replace z304 := z304.symm
  subst l304 y304 z304
  obtain ⟨rfl, Nq304, e304⟩ := hQ304
  have N304 := Fr.app N303 Nq304
  have c305 : Fld Z T303.heap xs "java/lang/String" "coder" "B" (.int (0 : Int32)) := (q19.keep K303 nin0)
  have c306 : Exa Z T303.heap xs "java/lang/String" := (q17.keep K303)
  obtain ⟨T307, h307, X307, e307, W307, st307⟩ := putFN X304 hx hZ hown (hw _ (List.mem_of_getElem? (i := 26) rfl)) Via.refl e304 c305 c306 (Or.inr ⟨(hw _ (List.mem_of_getElem? (i := 27) rfl)), rfl, hnm⟩) (hw _ (List.mem_of_getElem? (i := 12) rfl)) (ty := .byte) (v' := (.int (1 : Int32))) (by decide) rfl rfl (g := (mkF m 48 #[.val (.ref xs), .val (.ref ca), .val (.int (Int32.ofNat o)), .val (.int (Int32.ofNat n)), .val .null, .val (.ref tt_303)] [(.int (1 : Int32)), (.ref xs)])) rfl rfl (hb hby d_jdk_42_method_149_code_48)
  have N307 := Fr.snoc X307 N304 q20
  have F307 : Fld Z h307 xs "java/lang/String" "coder" "B" (.int (1 : Int32)) := c305.same W307
  have c308 : Fld Z h307 xs "java/lang/String" "value" "[B" .null := ((q18.keep K303 nin0).other W307 (Or.inr (slot_ne (Or.inr (hw _ (List.mem_of_getElem? (i := 25) rfl))) (Or.inr (hw _ (List.mem_of_getElem? (i := 27) rfl))) (by decide) (t := (.array .byte)) (t' := .byte) (by decide) (by decide))))
  have c309 : Exa Z h307 xs "java/lang/String" := (c306.wr W307)
  obtain ⟨T310, h310, X310, e310, W310, st310⟩ := putF X307 hx hZ hown (host := "") (Or.inl (hw _ (List.mem_of_getElem? (i := 24) rfl))) Via.refl e307 c308 c309 (Or.inr ⟨(hw _ (List.mem_of_getElem? (i := 25) rfl)), rfl, hnm⟩) (hw _ (List.mem_of_getElem? (i := 12) rfl)) (ty := (.array .byte)) (by decide) rfl rfl (g := (mkF m 54 #[.val (.ref xs), .val (.ref ca), .val (.int (Int32.ofNat o)), .val (.int (Int32.ofNat n)), .val .null, .val (.ref tt_303)] [(.ref tt_303), (.ref xs)])) rfl rfl (hb hby d_jdk_42_method_149_code_54)
  have N310 := Fr.snoc X310 N307 q20
  have F310 : Fld Z h310 xs "java/lang/String" "value" "[B" (.ref tt_303) := c308.same W310
  have ne311 : xs ≠ tt_303 := Nat.ne_of_lt (Nat.lt_of_lt_of_le q19.lt f303_0)
  have c312 : Arv Z h310 tt_303 kt_303 .byte (Int32.ofNat (2 * n)) (StrChars.Road.wideBytes ds) (.int (0 : Int32)) := ((f303_1.other W307 (Ne.symm ne311)).other W310 (Ne.symm ne311))
  have c313 : Fld Z h310 xs "java/lang/String" "coder" "B" (.int (1 : Int32)) := (F307.other W310 (Or.inr (slot_ne (Or.inr (hw _ (List.mem_of_getElem? (i := 27) rfl))) (Or.inr (hw _ (List.mem_of_getElem? (i := 25) rfl))) (by decide) (t := .byte) (t' := (.array .byte)) (by decide) (by decide))))
  obtain ⟨fs, hr, hrun, hended, hW, hsame⟩ := X310.leave (v := none) (fun _ => rfl)
  refine ⟨_, _, pre0 _ ?_, hrun, hended, _, _, rfl, ?_, ⟨_, rfl⟩, hW, hsame.mono (by decide) (by decide)⟩
  · refine XS.aloadN X0.here hx rfl (hb hby d_jdk_42_method_149_code_0) rfl rfl ?_
    show Steps p.tables e below (s₁.setTop (mkF m 1 #[.val (.ref xs), .val (.ref ca), .val (.int (Int32.ofNat o)), .val (.int (Int32.ofNat n)), .val .null, .unset] [(.ref xs)])) _
    refine st301 _ ?_
    show Steps p.tables e below (T301.setTop (mkF m 4 #[.val (.ref xs), .val (.ref ca), .val (.int (Int32.ofNat o)), .val (.int (Int32.ofNat n)), .val .null, .unset] [])) _
    refine XS.iloadN X301.here hx rfl (hb hby d_jdk_42_method_149_code_4) rfl ?_
    show Steps p.tables e below (T301.setTop (mkF m 5 #[.val (.ref xs), .val (.ref ca), .val (.int (Int32.ofNat o)), .val (.int (Int32.ofNat n)), .val .null, .unset] [(.int (Int32.ofNat n))])) _
    refine XS.ifYes X301.here hx rfl (pc0 := 5) (pc' := 27) rfl (hb hby d_jdk_42_method_149_code_5) rfl ((if0 _ _).trans (feq ((fun q => absurd (own_oinj (i := n) (n := 0) (by omega) (by omega) q) (by omega)) : ¬ ((Int32.ofNat n) = (0 : Int32)))).2) (by decide) (by decide) ?_
    show Steps p.tables e below (T301.setTop (mkF m 27 #[.val (.ref xs), .val (.ref ca), .val (.int (Int32.ofNat o)), .val (.int (Int32.ofNat n)), .val .null, .unset] [])) _
    refine st302 _ ?_
    show Steps p.tables e below (T302.setTop (mkF m 30 #[.val (.ref xs), .val (.ref ca), .val (.int (Int32.ofNat o)), .val (.int (Int32.ofNat n)), .val .null, .unset] [(.int G)])) _
    refine XS.ifNo X302.here hx rfl (hb hby d_jdk_42_method_149_code_30) rfl ((if0 _ _).trans (feq (hCS : ¬ (G = (0 : Int32)))).1) ?_
    show Steps p.tables e below (T302.setTop (mkF m 33 #[.val (.ref xs), .val (.ref ca), .val (.int (Int32.ofNat o)), .val (.int (Int32.ofNat n)), .val .null, .unset] [])) _
    refine XS.aloadN X302.here hx rfl (hb hby d_jdk_42_method_149_code_33) rfl rfl ?_
    show Steps p.tables e below (T302.setTop (mkF m 34 #[.val (.ref xs), .val (.ref ca), .val (.int (Int32.ofNat o)), .val (.int (Int32.ofNat n)), .val .null, .unset] [(.ref ca)])) _
    refine XS.iloadN X302.here hx rfl (hb hby d_jdk_42_method_149_code_34) rfl ?_
    show Steps p.tables e below (T302.setTop (mkF m 35 #[.val (.ref xs), .val (.ref ca), .val (.int (Int32.ofNat o)), .val (.int (Int32.ofNat n)), .val .null, .unset] [(.int (Int32.ofNat o)), (.ref ca)])) _
    refine XS.iloadN X302.here hx rfl (hb hby d_jdk_42_method_149_code_35) rfl ?_
    show Steps p.tables e below (T302.setTop (mkF m 36 #[.val (.ref xs), .val (.ref ca), .val (.int (Int32.ofNat o)), .val (.int (Int32.ofNat n)), .val .null, .unset] [(.int (Int32.ofNat n)), (.int (Int32.ofNat o)), (.ref ca)])) _
    refine st303 _ ?_
    show Steps p.tables e below (T303.setTop (mkF m 39 #[.val (.ref xs), .val (.ref ca), .val (.int (Int32.ofNat o)), .val (.int (Int32.ofNat n)), .val .null, .unset] [(.ref tt_303)])) _
    refine XS.astore X303.here hx rfl (hb hby d_jdk_42_method_149_code_39) rfl rfl (l' := #[.val (.ref xs), .val (.ref ca), .val (.int (Int32.ofNat o)), .val (.int (Int32.ofNat n)), .val .null, .val (.ref tt_303)]) rfl ?_
    show Steps p.tables e below (T303.setTop (mkF m 41 #[.val (.ref xs), .val (.ref ca), .val (.int (Int32.ofNat o)), .val (.int (Int32.ofNat n)), .val .null, .val (.ref tt_303)] [])) _
    refine XS.aloadN X303.here hx rfl (hb hby d_jdk_42_method_149_code_41) rfl rfl ?_
    show Steps p.tables e below (T303.setTop (mkF m 42 #[.val (.ref xs), .val (.ref ca), .val (.int (Int32.ofNat o)), .val (.int (Int32.ofNat n)), .val .null, .val (.ref tt_303)] [(.ref xs)])) _
    refine XS.aload X303.here hx rfl (hb hby d_jdk_42_method_149_code_42) rfl rfl ?_
    show Steps p.tables e below (T303.setTop (mkF m 44 #[.val (.ref xs), .val (.ref ca), .val (.int (Int32.ofNat o)), .val (.int (Int32.ofNat n)), .val .null, .val (.ref tt_303)] [(.ref tt_303), (.ref xs)])) _
    refine XS.iloadN X303.here hx rfl (hb hby d_jdk_42_method_149_code_44) rfl ?_
    show Steps p.tables e below (T303.setTop (mkF m 45 #[.val (.ref xs), .val (.ref ca), .val (.int (Int32.ofNat o)), .val (.int (Int32.ofNat n)), .val .null, .val (.ref tt_303)] [(.int (Int32.ofNat n)), (.ref tt_303), (.ref xs)])) _
    refine st304 _ ?_
    show Steps p.tables e below (T304.setTop (mkF m 48 #[.val (.ref xs), .val (.ref ca), .val (.int (Int32.ofNat o)), .val (.int (Int32.ofNat n)), .val .null, .val (.ref tt_303)] [(.int (1 : Int32)), (.ref xs)])) _
    refine st307 _ ?_
    show Steps p.tables e below (T307.setTop (mkF m 51 #[.val (.ref xs), .val (.ref ca), .val (.int (Int32.ofNat o)), .val (.int (Int32.ofNat n)), .val .null, .val (.ref tt_303)] [])) _
    refine XS.aloadN X307.here hx rfl (hb hby d_jdk_42_method_149_code_51) rfl rfl ?_
    show Steps p.tables e below (T307.setTop (mkF m 52 #[.val (.ref xs), .val (.ref ca), .val (.int (Int32.ofNat o)), .val (.int (Int32.ofNat n)), .val .null, .val (.ref tt_303)] [(.ref xs)])) _
    refine XS.aload X307.here hx rfl (hb hby d_jdk_42_method_149_code_52) rfl rfl ?_
    show Steps p.tables e below (T307.setTop (mkF m 54 #[.val (.ref xs), .val (.ref ca), .val (.int (Int32.ofNat o)), .val (.int (Int32.ofNat n)), .val .null, .val (.ref tt_303)] [(.ref tt_303), (.ref xs)])) _
    refine st310 _ ?_
    show Steps p.tables e below (T310.setTop (mkF m 57 #[.val (.ref xs), .val (.ref ca), .val (.int (Int32.ofNat o)), .val (.int (Int32.ofNat n)), .val .null, .val (.ref tt_303)] [])) _
    exact X310.returnOut hx Bd.returns (hb hby d_jdk_42_method_149_code_57) hr
  · show Q_new4w Z xs ca kc cs dv o n rr ds G h0 n0 _ T310.heap _
    rw [e310]
    exact ⟨tt_303, kt_303, rfl, N310, ((((Keep.refl h0 ([xs] : List Addr)).trans K303 all0).wr W307 (Or.inl (by simp))).wr W310 (Or.inl (by simp))), F310, c313, (Nat.le_trans (Nat.le_refl _) f303_0), c312⟩
theorem d_jdk_42_method_3_code_0 : decode jdk_42_method_3_code 0 = .ok (.aload_n 0, 1) := by decide +kernel
theorem d_jdk_42_method_3_code_1 : decode jdk_42_method_3_code 1 = .ok (.aload_n 1, 1) := by decide +kernel
theorem d_jdk_42_method_3_code_2 : decode jdk_42_method_3_code 2 = .ok (.iconst 0, 1) := by decide +kernel
theorem d_jdk_42_method_3_code_3 : decode jdk_42_method_3_code 3 = .ok (.aload_n 1, 1) := by decide +kernel
theorem d_jdk_42_method_3_code_4 : decode jdk_42_method_3_code 4 = .ok (.arraylength, 1) := by decide +kernel
theorem d_jdk_42_method_3_code_5 : decode jdk_42_method_3_code 5 = .ok (.aconst_null, 1) := by decide +kernel
theorem d_jdk_42_method_3_code_6 : decode jdk_42_method_3_code 6 = .ok (.invokespecial 27, 3) := by decide +kernel
theorem pd_7 : parseMethodDescriptor "([CIILjava/lang/Void;)V" = some ⟨[(.array .char), .int, .int, (.object "java/lang/Void")], none⟩ := by decide +kernel
theorem d_jdk_42_method_3_code_9 : decode jdk_42_method_3_code 9 = .ok (.return_, 1) := by decide +kernel
theorem ef_7 (m : MethodId) (x0 : Addr) (x1 : Addr) : entryFrame m #[(.ref x0), (.ref x1)] 2 = mkF m 0 #[.val (.ref x0), .val (.ref x1)] [] := by first | (simp [entryFrame, mkF, argsToLocals, Value.category]; done) | rfl
def Q_new1w (Z : State) (xs : Addr) (ca : Addr) (kc : ClassId) (cs : List Int32) (dv : Value) (rr : Nat) (G : Int32) (h0 : Heap) (n0 : Nat) (v : Option Value) (h : Heap) (L : List Loc) : Prop := ∃ (tt : Addr) (kt : ClassId), (v = none) ∧ (Fr n0 L) ∧ (Keep h0 h ([xs] : List Addr)) ∧ (Fld Z h xs "java/lang/String" "value" "[B" (.ref tt)) ∧ (Fld Z h xs "java/lang/String" "coder" "B" (.int (1 : Int32))) ∧ (h0.size ≤ tt) ∧ (Arv Z h tt kt .byte (Int32.ofNat (2 * cs.length)) (StrChars.Road.wideBytes cs) (.int (0 : Int32)))
set_option maxRecDepth 65536 in
set_option maxHeartbeats 40000000 in
theorem rm_new1w (l : Launch) (Z : State) (a0 : Array Value) (hw : ∀ d ∈ tables_1, d.before a0 Z = true) (ws : List Jvm.Cond) (xs : Addr) (ca : Addr) (kc : ClassId) (cs : List Int32) (dv : Value) (rr : Nat) (G : Int32) (h0 : Heap) (n0 : Nat) (Z0 : n0 ≤ h0.size) (q0 : Sta Z Z.heap "java/lang/String" "COMPACT_STRINGS" "Z" (.int G)) (hCS : ¬ (G = (0 : Int32))) (q2 : Sta Z Z.heap "java/lang/StringUTF16" "$assertionsDisabled" "Z" (.int (1 : Int32))) (q3 : Sta Z Z.heap "java/lang/StringUTF16" "HI_BYTE_SHIFT" "I" (.int (0 : Int32))) (q4 : Sta Z Z.heap "java/lang/StringUTF16" "LO_BYTE_SHIFT" "I" (.int (8 : Int32))) (q5 : Old Z n0 h0) (q6 : Arv Z h0 ca kc .char (Int32.ofNat cs.length) (cs.map Value.int) dv) (hcap : cs.length ≤ 3) (hrn : rr < cs.length) (hlow : ∀ q, q < rr → ¬ (255 : Int32) < cs.getD (0 + q) 0) (hwide : (255 : Int32) < cs.getD (0 + rr) 0) (hc0 : ¬ cs.getD (0 + rr) 0 < 0) (hc1 : ¬ (65535 : Int32) < cs.getD (0 + rr) 0) (q13 : Exa Z h0 xs "java/lang/String") (q14 : Fld Z h0 xs "java/lang/String" "value" "[B" .null) (q15 : Fld Z h0 xs "java/lang/String" "coder" "B" (.int (0 : Int32))) (q16 : n0 ≤ xs) :
    MetFree l (⟨"java/lang/String", "<init>", "([C)V"⟩ : MethodName) (head1 (Jvm.Cond.code (⟨"java/lang/String", "<init>", "([C)V"⟩ : MethodName) jdk_42_method_3_code 2 none :: ws) ({ frames := 5, cells := 2, slots := 9, locals := 74 } : Room)) (fun a₁ U₁ => a₁ = #[(.ref xs), (.ref ca)] ∧ Z.Warmed39 U₁.vm ∧ U₁.heap = h0) (fun _ _ _ _ _ => True) (fun _ U₁ o₁ U₂ => ∃ v₁ L₁, o₁ = .returned v₁ ∧ Q_new1w Z xs ca kc cs dv rr G h0 n0 v₁ U₂.heap L₁ ∧ FrameEnd U₁ o₁ U₂ L₁ ({ frames := 5, cells := 2, slots := 9, locals := 74 } : Room).cells ({ frames := 5, cells := 2, slots := 9, locals := 74 } : Room).slots) := by
  refine MetFree.of_bodySF (plainFor_of_name pn_1) hisR ?_
  intro p e s m args below meth c s₁ Bd hml0 hP hK
  obtain ⟨rfl, hZ, hh⟩ := hP
  have hx := Bd.exec
  have hby := Bd.bytes
  have hml : c.maxLocals = 2 := hml0
  have hown : s.vm.findClass "java/lang/String" = some m.cls := findClass_of_methodNamed Bd.named
  have hnm := (name_of_methodNamed Bd.named Bd.method).1
  have X0 : Stand p l e ({ frames := 5, cells := 2, slots := 9, locals := 74 } : Room) s m #[(.ref xs), (.ref ca)] below meth c s₁ [] 0 0 := Stand.of_body Bd
  have e0 : s₁.heap = h0 := by rw [← hh, Bd.state]; rfl
  have N0 := Fr.nil n0
  have pre0 : ∀ t, Steps p.tables e below (s₁.setTop (mkF m 0 #[.val (.ref xs), .val (.ref ca)] [])) t → Steps p.tables e below (s₁.setTop (entryFrame m #[(.ref xs), (.ref ca)] 2)) t := fun t k => castTop (ef_7 m xs ca) k
  obtain ⟨cl301, Ar301, -, S301, M301, -, -⟩ := id q6
  obtain ⟨_, _, ⟨T302, L302, k302, n302⟩, -, X302, ⟨Lc302, hQ302, l302, y302, z302⟩, st302⟩ := X0.specialBack hx (y := (⟨"java/lang/String", "<init>", "([CIILjava/lang/Void;)V"⟩ : MethodName)) rfl hown (mvT hZ (hw _ (List.mem_of_getElem? (i := 32) rfl))) (mvT hZ (hw _ (List.mem_of_getElem? (i := 33) rfl))) (mvT hZ (hw _ (List.mem_of_getElem? (i := 34) rfl))) (by decide) (backOf (W := 0) (rm_new4w l Z a0 hw [] xs ca kc cs dv 0 cs.length rr cs G h0 n0 Z0 q0 hCS q2 q3 q4 q5 hcap (rfl) hrn q6 (by omega) (by omega) (fun q _ => by rw [Nat.zero_add]) hlow hwide hc0 hc1 q13 q14 q15 q16) hZ (hw _ (List.mem_of_getElem? (i := 34) rfl)) (hw _ (List.mem_of_getElem? (i := 4) rfl)) (by decide) (by decide)) (g := (mkF m 6 #[.val (.ref xs), .val (.ref ca)] [.null, (.int (Int32.ofNat cs.length)), (.int (0 : Int32)), (.ref ca), (.ref xs)])) rfl (by rw [hml]; rfl) (Steps.refl _) (a := xs) (argsL := [(.ref ca), (.int (0 : Int32)), (.int (Int32.ofNat cs.length)), .null]) (rest := []) (lenOf pd_7 rfl) rfl (by show 2 * 0 + _ ≤ _; exact Nat.le_of_eq rfl) (hb hby d_jdk_42_method_3_code_6) (fun _ _ => ⟨rfl, e0, (by decide : 0 + 2 ≤ _), (by decide : 0 + 9 ≤ _)⟩)
  dsimp only [Pt.U, Pt.locs, Pt.cells, Pt.slots] at X302 l302 y302 z302 st302 hQ302
  replace l302 := l302.symm
  replace y302 := y302.symm
  replace z302 := z302.symm
  subst l302 y302 z302
  obtain ⟨tt_302, kt_302, rfl, Nq302, K302, f302_0, f302_1, f302_2, f302_3⟩ := hQ302
  have N302 := Fr.app N0 Nq302
  obtain ⟨fs, hr, hrun, hended, hW, hsame⟩ := X302.leave (v := none) (fun _ => rfl)
  refine ⟨_, _, pre0 _ ?_, hrun, hended, _, _, rfl, ?_, ⟨_, rfl⟩, hW, hsame.mono (by decide) (by decide)⟩
  · refine XS.aloadN X0.here hx rfl (hb hby d_jdk_42_method_3_code_0) rfl rfl ?_
    show Steps p.tables e below (s₁.setTop (mkF m 1 #[.val (.ref xs), .val (.ref ca)] [(.ref xs)])) _
    refine XS.aloadN X0.here hx rfl (hb hby d_jdk_42_method_3_code_1) rfl rfl ?_
    show Steps p.tables e below (s₁.setTop (mkF m 2 #[.val (.ref xs), .val (.ref ca)] [(.ref ca), (.ref xs)])) _
    refine XS.iconst X0.here hx rfl (hb hby d_jdk_42_method_3_code_2) ?_
    show Steps p.tables e below (s₁.setTop (mkF m 3 #[.val (.ref xs), .val (.ref ca)] [(.int (0 : Int32)), (.ref ca), (.ref xs)])) _
    refine XS.aloadN X0.here hx rfl (hb hby d_jdk_42_method_3_code_3) rfl rfl ?_
    show Steps p.tables e below (s₁.setTop (mkF m 4 #[.val (.ref xs), .val (.ref ca)] [(.ref ca), (.int (0 : Int32)), (.ref ca), (.ref xs)])) _
    refine X0.arraylength hx (by rw [e0]; exact Ar301.1) (State.isArrayOf_alike hZ.alike Ar301.2.1) (g := (mkF m 4 #[.val (.ref xs), .val (.ref ca)] [(.ref ca), (.int (0 : Int32)), (.ref ca), (.ref xs)])) rfl rfl (hb hby d_jdk_42_method_3_code_4) _ ?_
    rw [len_of S301 M301]
    show Steps p.tables e below (s₁.setTop (mkF m 5 #[.val (.ref xs), .val (.ref ca)] [(.int (Int32.ofNat cs.length)), (.int (0 : Int32)), (.ref ca), (.ref xs)])) _
    refine XS.aconstNull X0.here hx rfl (hb hby d_jdk_42_method_3_code_5) ?_
    show Steps p.tables e below (s₁.setTop (mkF m 6 #[.val (.ref xs), .val (.ref ca)] [.null, (.int (Int32.ofNat cs.length)), (.int (0 : Int32)), (.ref ca), (.ref xs)])) _
    refine st302.trans ?_
    show Steps p.tables e below (T302.setTop (mkF m 9 #[.val (.ref xs), .val (.ref ca)] [])) _
    exact X302.returnOut hx Bd.returns (hb hby d_jdk_42_method_3_code_9) hr
  · show Q_new1w Z xs ca kc cs dv rr G h0 n0 _ T302.heap _
    exact ⟨tt_302, kt_302, rfl, N302, ((Keep.refl h0 ([xs] : List Addr)).trans K302 (allS (Or.inl (by simp)) all0)), f302_0, f302_1, (Nat.le_trans (Nat.le_refl _) f302_2), f302_3⟩
abbrev own_bs (cs : List Int32) : List Value := cs.map fun c => Value.int (StrChars.lo8 c)
theorem own_bsl (cs : List Int32) : (own_bs cs).length = cs.length := by simp
theorem own_getmem {cs : List Int32} {i : Nat} (h : i < cs.length) : cs.getD i 0 ∈ cs := by
  have e : cs.getD i 0 = cs[i] := by simp [List.getD_eq_getElem?_getD, h]
  rw [e]; exact List.getElem_mem _
theorem own_latstep {ds : List Int32} {i n : Nat} (hn : ds.length = n) (hi : i < n) (z : Value) :
    (own_bs (ds.take i) ++ List.replicate (n - i) z).set i (.int (StrChars.lo8 (ds.getD i 0))) = own_bs (ds.take (i + 1)) ++ List.replicate (n - (i + 1)) z := by
  have hl : (own_bs (ds.take i)).length = i := by rw [own_bsl, List.length_take]; omega
  have hr : List.replicate (n - i) z = z :: List.replicate (n - (i + 1)) z := by
    rw [show n - i = n - (i + 1) + 1 by omega, List.replicate_succ]
  have ht : ds.take (i + 1) = ds.take i ++ [ds.getD i 0] := by
    rw [List.take_add_one]
    simp [List.getD_eq_getElem?_getD, show i < ds.length by omega]
  rw [hr, List.set_append, if_neg (by omega), hl, Nat.sub_self, ht]
  show _ = List.map (fun c => Value.int (StrChars.lo8 c)) (ds.take i ++ [ds.getD i 0]) ++ _
  rw [List.map_append, List.append_assoc]
  rfl
theorem own_nar8 (x : Int32) : nar .byte (x.toInt8.toInt32) = StrChars.lo8 x := own_nb x
theorem own_coder0 (x : Int32) : (((x - x).toUInt32 >>> ((31 : Int32) &&& 31).toUInt32).toInt32).toInt8.toInt32 = (0 : Int32) := by
  rw [Int32.sub_self]
  decide
theorem own_cut1 {cs : List Int32} {o n : Nat} (h : o + n ≤ cs.length) : ((cs.drop o).take n).length = n := by
  rw [List.length_take, List.length_drop]; omega
theorem own_cut2 {cs : List Int32} {o n : Nat} : ∀ q, q < n → ((cs.drop o).take n).getD q 0 = cs.getD (o + q) 0 := by
  intro q hq
  rw [List.getD_eq_getElem?_getD, List.getD_eq_getElem?_getD, List.getElem?_take, if_pos hq, List.getElem?_drop]
set_option maxRecDepth 65536 in
set_option maxHeartbeats 40000000 in
theorem lp_cmpl {p : Program} {l : Launch} {e : Env} {R : Room} {s : State} {m : MethodId} {args : Array Value} {below : List Frame} {meth : Method} {c : Code} {cells slots : Nat} {Z : State} {a0 : Array Value} {n0 : Nat} (ca : Addr) (kc : ClassId) (cs : List Int32) (dv : Value) (dd : Addr) (kd : ClassId) (o : Nat) (n : Nat) (ds : List Int32) (ie : Nat) (je : Nat) (hx : p.tables.exec = Jvm.exec) (hZ : Z.Warmed39 s.vm) (hw : ∀ d ∈ tables_1, d.before a0 Z = true) (hby : c.code = jdk_52_method_21_code) (hml : c.maxLocals = 7) (hown : s.vm.findClass "java/lang/StringUTF16" = some m.cls) (hcl : cells ≤ R.cells) (hsl : slots ≤ R.slots) (hfr : 0 ≤ R.frames) (hlo : 0 ≤ R.locals) (hN : cs.length < 2 ^ 31) (hy1 : n0 ≤ dd) (hy2 : ca ≠ dd) (hie : ie = n) (hcap : n ≤ 3) (hon : o + n ≤ cs.length) (hds : ds.length = n) (hdc : ∀ q, q < n → ds.getD q 0 = cs.getD (o + q) 0) (hlat : ∀ c ∈ ds, ¬ (255 : Int32) < c) :
    ∀ (k : Nat) (i : Nat) (j : Nat) (vs : List Value) (z6 : Slot) (T0 : State) (h0 : Heap) (locs : List Loc), Stand p l e R s m args below meth c T0 locs cells slots → T0.heap = h0 → Fr n0 locs → n0 ≤ h0.size → Arv Z h0 ca kc .char (Int32.ofNat cs.length) (cs.map Value.int) dv → Arv Z h0 dd kd .byte (Int32.ofNat n) vs (.int (0 : Int32)) → (One z6) → (i + k = ie) → (j + k = je) → (j = o + i) → (vs = own_bs (ds.take i) ++ List.replicate (n - i) (.int (0 : Int32))) → ∃ zx : Slot, ∃ (T' : State) (h' : Heap) (locs' : List Loc), Stand p l e R s m args below meth c T' locs' cells slots ∧ T'.heap = h' ∧ Fr n0 locs' ∧ Keep h0 h' ([dd] : List Addr) ∧ (One zx) ∧ (Arv Z h' dd kd .byte (Int32.ofNat n) (own_bs ds) (.int (0 : Int32))) ∧ ∀ t, Steps p.tables e below (T'.setTop (mkF m 44 #[.val (.ref ca), .val (.int (Int32.ofNat je)), .val (.ref dd), .val (.int (Int32.ofNat ie)), .val (.int (Int32.ofNat n)), .val (.int (Int32.ofNat ie)), zx] [])) t → Steps p.tables e below (T0.setTop (mkF m 3 #[.val (.ref ca), .val (.int (Int32.ofNat j)), .val (.ref dd), .val (.int (Int32.ofNat i)), .val (.int (Int32.ofNat n)), .val (.int (Int32.ofNat i)), z6] [])) t := by
  intro k
  induction k with
  | zero =>
    intro i j vs z6 T0 h0 locs X0 e0 N0 Z0 q0 q1 hz6 hik hjk hjo hvs
    have pre0 : ∀ t, Steps p.tables e below (T0.setTop (mkF m 3 #[.val (.ref ca), .val (.int (Int32.ofNat j)), .val (.ref dd), .val (.int (Int32.ofNat i)), .val (.int (Int32.ofNat n)), .val (.int (Int32.ofNat i)), z6] [])) t → Steps p.tables e below (T0.setTop (mkF m 3 #[.val (.ref ca), .val (.int (Int32.ofNat j)), .val (.ref dd), .val (.int (Int32.ofNat i)), .val (.int (Int32.ofNat n)), .val (.int (Int32.ofNat i)), z6] [])) t := fun _ kk => kk
    have hi' : i = n := by omega
    have hi2 : i = ie := by omega
    have hj2 : j = je := by omega
    have hv' : vs = own_bs ds := by rw [hvs, hi', Nat.sub_self, List.take_of_length_le (by omega)]; simp
    have R301 : Arv Z h0 dd kd .byte (Int32.ofNat n) (own_bs ds) (.int (0 : Int32)) := by have q := q1; rw [hv'] at q; exact q
    have pre302 : ∀ t, Steps p.tables e below (T0.setTop (mkF m 44 #[.val (.ref ca), .val (.int (Int32.ofNat j)), .val (.ref dd), .val (.int (Int32.ofNat i)), .val (.int (Int32.ofNat n)), .val (.int (Int32.ofNat i)), z6] [])) t → Steps p.tables e below (T0.setTop (mkF m 3 #[.val (.ref ca), .val (.int (Int32.ofNat j)), .val (.ref dd), .val (.int (Int32.ofNat i)), .val (.int (Int32.ofNat n)), .val (.int (Int32.ofNat i)), z6] [])) t := fun t kk => pre0 t (by
      refine XS.iload X0.here hx rfl (hb hby d_jdk_52_method_21_code_3) rfl ?_
      show Steps p.tables e below (T0.setTop (mkF m 5 #[.val (.ref ca), .val (.int (Int32.ofNat j)), .val (.ref dd), .val (.int (Int32.ofNat i)), .val (.int (Int32.ofNat n)), .val (.int (Int32.ofNat i)), z6] [(.int (Int32.ofNat i))])) _
      refine XS.iload X0.here hx rfl (hb hby d_jdk_52_method_21_code_5) rfl ?_
      show Steps p.tables e below (T0.setTop (mkF m 7 #[.val (.ref ca), .val (.int (Int32.ofNat j)), .val (.ref dd), .val (.int (Int32.ofNat i)), .val (.int (Int32.ofNat n)), .val (.int (Int32.ofNat i)), z6] [(.int (Int32.ofNat n)), (.int (Int32.ofNat i))])) _
      refine XS.icmpYes X0.here hx rfl (pc0 := 7) (pc' := 44) rfl (hb hby d_jdk_52_method_21_code_7) rfl (flt ((own_nlt (by omega) (by omega)) : ¬ ((Int32.ofNat i) < (Int32.ofNat n)))).2.1 (by decide) (by decide) ?_
      show Steps p.tables e below (T0.setTop (mkF m 44 #[.val (.ref ca), .val (.int (Int32.ofNat j)), .val (.ref dd), .val (.int (Int32.ofNat i)), .val (.int (Int32.ofNat n)), .val (.int (Int32.ofNat i)), z6] [])) _
      exact kk)
    exact ⟨z6, T0, h0, _, X0, e0, N0, (Keep.refl h0 ([dd] : List Addr)), hz6, R301, (by rw [← hi2, ← hj2]; exact pre302)⟩
  | succ k ih =>
    intro i j vs z6 T0 h0 locs X0 e0 N0 Z0 q0 q1 hz6 hik hjk hjo hvs
    have pre0 : ∀ t, Steps p.tables e below (T0.setTop (mkF m 3 #[.val (.ref ca), .val (.int (Int32.ofNat j)), .val (.ref dd), .val (.int (Int32.ofNat i)), .val (.int (Int32.ofNat n)), .val (.int (Int32.ofNat i)), z6] [])) t → Steps p.tables e below (T0.setTop (mkF m 3 #[.val (.ref ca), .val (.int (Int32.ofNat j)), .val (.ref dd), .val (.int (Int32.ofNat i)), .val (.int (Int32.ofNat n)), .val (.int (Int32.ofNat i)), z6] [])) t := fun _ kk => kk
    have hj' : j < cs.length := by omega
    have hdi : ds.getD i 0 = cs.getD j 0 := by rw [hdc i (by omega), hjo]
    have hlw : ¬ (255 : Int32) < cs.getD j 0 := by rw [← hdi]; exact hlat _ (own_getmem (by omega))
    have hvl : vs.length = n := by rw [hvs, List.length_append, own_bsl, List.length_take, List.length_replicate]; omega
    obtain ⟨cl301, Ar301, qq301, S301, M301, Hh301, U301⟩ := id q0
    have ib301 : ¬ ((Int32.ofNat j) < 0 ∨ cl301.slots.size ≤ ((Int32.ofNat j)).toNatClampNeg) := inb_of S301 (own_inb hj' hN)
    obtain ⟨cl302, Ar302, qq302, S302, M302, Hh302, U302⟩ := id q1
    obtain ⟨T302, h302, X302, e302, W302, st302⟩ := stB X0 hx hZ e0 Ar302 (j := (Int32.ofNat i)) (inb_of S302 (own_inb (by omega) (by omega))) (g := (mkF m 31 #[.val (.ref ca), .val (.int (Int32.ofNat j)), .val (.ref dd), .val (.int (Int32.ofNat i)), .val (.int (Int32.ofNat n)), .val (.int (Int32.ofNat i)), .val (.int (cs.getD j 0))] [(.int ((cs.getD j 0).toInt8.toInt32)), (.int (Int32.ofNat i)), (.ref dd)])) rfl rfl (hb hby d_jdk_52_method_21_code_31)
    have N302 := Fr.snoc X302 N0 hy1
    have V302 : Arv Z h302 dd kd .byte (Int32.ofNat n) (vs.set i (.int (nar .byte ((cs.getD j 0).toInt8.toInt32)))) (.int (0 : Int32)) := Arv.set Ar302 qq302 S302 M302 Hh302 U302 (fits_nar_byte _) W302 i (own_clamp (by omega)) (by omega)
    have pre303 : ∀ t, Steps p.tables e below (T302.setTop (mkF m 3 #[.val (.ref ca), .val (.int ((Int32.ofNat j) + (1 : Int32))), .val (.ref dd), .val (.int ((Int32.ofNat i) + (1 : Int32))), .val (.int (Int32.ofNat n)), .val (.int ((Int32.ofNat i) + (1 : Int32))), .val (.int (cs.getD j 0))] [])) t → Steps p.tables e below (T0.setTop (mkF m 3 #[.val (.ref ca), .val (.int (Int32.ofNat j)), .val (.ref dd), .val (.int (Int32.ofNat i)), .val (.int (Int32.ofNat n)), .val (.int (Int32.ofNat i)), z6] [])) t := fun t kk => pre0 t (by
      refine XS.iload X0.here hx rfl (hb hby d_jdk_52_method_21_code_3) rfl ?_
      show Steps p.tables e below (T0.setTop (mkF m 5 #[.val (.ref ca), .val (.int (Int32.ofNat j)), .val (.ref dd), .val (.int (Int32.ofNat i)), .val (.int (Int32.ofNat n)), .val (.int (Int32.ofNat i)), z6] [(.int (Int32.ofNat i))])) _
      refine XS.iload X0.here hx rfl (hb hby d_jdk_52_method_21_code_5) rfl ?_
      show Steps p.tables e below (T0.setTop (mkF m 7 #[.val (.ref ca), .val (.int (Int32.ofNat j)), .val (.ref dd), .val (.int (Int32.ofNat i)), .val (.int (Int32.ofNat n)), .val (.int (Int32.ofNat i)), z6] [(.int (Int32.ofNat n)), (.int (Int32.ofNat i))])) _
      refine XS.icmpNo X0.here hx rfl (hb hby d_jdk_52_method_21_code_7) rfl (tlt ((own_inb (by omega) (by omega)).2 : (Int32.ofNat i) < (Int32.ofNat n))).2.1 ?_
      show Steps p.tables e below (T0.setTop (mkF m 10 #[.val (.ref ca), .val (.int (Int32.ofNat j)), .val (.ref dd), .val (.int (Int32.ofNat i)), .val (.int (Int32.ofNat n)), .val (.int (Int32.ofNat i)), z6] [])) _
      refine XS.aloadN X0.here hx rfl (hb hby d_jdk_52_method_21_code_10) rfl rfl ?_
      show Steps p.tables e below (T0.setTop (mkF m 11 #[.val (.ref ca), .val (.int (Int32.ofNat j)), .val (.ref dd), .val (.int (Int32.ofNat i)), .val (.int (Int32.ofNat n)), .val (.int (Int32.ofNat i)), z6] [(.ref ca)])) _
      refine XS.iloadN X0.here hx rfl (hb hby d_jdk_52_method_21_code_11) rfl ?_
      show Steps p.tables e below (T0.setTop (mkF m 12 #[.val (.ref ca), .val (.int (Int32.ofNat j)), .val (.ref dd), .val (.int (Int32.ofNat i)), .val (.int (Int32.ofNat n)), .val (.int (Int32.ofNat i)), z6] [(.int (Int32.ofNat j)), (.ref ca)])) _
      refine X0.caload hx (j := (Int32.ofNat j)) (v := (.int (cs.getD j 0))) (by rw [e0]; exact Ar301.1) (State.isArrayOf_alike hZ.alike Ar301.2.1) Ar301.2.2 ib301 (Hh301.at ib301 (own_mapat hj' hN)) (g := (mkF m 12 #[.val (.ref ca), .val (.int (Int32.ofNat j)), .val (.ref dd), .val (.int (Int32.ofNat i)), .val (.int (Int32.ofNat n)), .val (.int (Int32.ofNat i)), z6] [(.int (Int32.ofNat j)), (.ref ca)])) rfl rfl (hb hby d_jdk_52_method_21_code_12) _ ?_
      show Steps p.tables e below (T0.setTop (mkF m 13 #[.val (.ref ca), .val (.int (Int32.ofNat j)), .val (.ref dd), .val (.int (Int32.ofNat i)), .val (.int (Int32.ofNat n)), .val (.int (Int32.ofNat i)), z6] [(.int (cs.getD j 0))])) _
      refine XS.istoreS X0.here hx rfl (hb hby d_jdk_52_method_21_code_13) rfl rfl hz6 ?_
      show Steps p.tables e below (T0.setTop (mkF m 15 #[.val (.ref ca), .val (.int (Int32.ofNat j)), .val (.ref dd), .val (.int (Int32.ofNat i)), .val (.int (Int32.ofNat n)), .val (.int (Int32.ofNat i)), .val (.int (cs.getD j 0))] [])) _
      refine XS.iload X0.here hx rfl (hb hby d_jdk_52_method_21_code_15) rfl ?_
      show Steps p.tables e below (T0.setTop (mkF m 17 #[.val (.ref ca), .val (.int (Int32.ofNat j)), .val (.ref dd), .val (.int (Int32.ofNat i)), .val (.int (Int32.ofNat n)), .val (.int (Int32.ofNat i)), .val (.int (cs.getD j 0))] [(.int (cs.getD j 0))])) _
      refine XS.sipush X0.here hx rfl (hb hby d_jdk_52_method_21_code_17) ?_
      show Steps p.tables e below (T0.setTop (mkF m 20 #[.val (.ref ca), .val (.int (Int32.ofNat j)), .val (.ref dd), .val (.int (Int32.ofNat i)), .val (.int (Int32.ofNat n)), .val (.int (Int32.ofNat i)), .val (.int (cs.getD j 0))] [(.int (255 : Int32)), (.int (cs.getD j 0))])) _
      refine XS.icmpYes X0.here hx rfl (pc0 := 20) (pc' := 26) rfl (hb hby d_jdk_52_method_21_code_20) rfl (flt (hlw : ¬ ((255 : Int32) < (cs.getD j 0)))).2.2.2 (by decide) (by decide) ?_
      show Steps p.tables e below (T0.setTop (mkF m 26 #[.val (.ref ca), .val (.int (Int32.ofNat j)), .val (.ref dd), .val (.int (Int32.ofNat i)), .val (.int (Int32.ofNat n)), .val (.int (Int32.ofNat i)), .val (.int (cs.getD j 0))] [])) _
      refine XS.aloadN X0.here hx rfl (hb hby d_jdk_52_method_21_code_26) rfl rfl ?_
      show Steps p.tables e below (T0.setTop (mkF m 27 #[.val (.ref ca), .val (.int (Int32.ofNat j)), .val (.ref dd), .val (.int (Int32.ofNat i)), .val (.int (Int32.ofNat n)), .val (.int (Int32.ofNat i)), .val (.int (cs.getD j 0))] [(.ref dd)])) _
      refine XS.iloadN X0.here hx rfl (hb hby d_jdk_52_method_21_code_27) rfl ?_
      show Steps p.tables e below (T0.setTop (mkF m 28 #[.val (.ref ca), .val (.int (Int32.ofNat j)), .val (.ref dd), .val (.int (Int32.ofNat i)), .val (.int (Int32.ofNat n)), .val (.int (Int32.ofNat i)), .val (.int (cs.getD j 0))] [(.int (Int32.ofNat i)), (.ref dd)])) _
      refine XS.iload X0.here hx rfl (hb hby d_jdk_52_method_21_code_28) rfl ?_
      show Steps p.tables e below (T0.setTop (mkF m 30 #[.val (.ref ca), .val (.int (Int32.ofNat j)), .val (.ref dd), .val (.int (Int32.ofNat i)), .val (.int (Int32.ofNat n)), .val (.int (Int32.ofNat i)), .val (.int (cs.getD j 0))] [(.int (cs.getD j 0)), (.int (Int32.ofNat i)), (.ref dd)])) _
      refine XS.i2b X0.here hx rfl (hb hby d_jdk_52_method_21_code_30) rfl ?_
      show Steps p.tables e below (T0.setTop (mkF m 31 #[.val (.ref ca), .val (.int (Int32.ofNat j)), .val (.ref dd), .val (.int (Int32.ofNat i)), .val (.int (Int32.ofNat n)), .val (.int (Int32.ofNat i)), .val (.int (cs.getD j 0))] [(.int ((cs.getD j 0).toInt8.toInt32)), (.int (Int32.ofNat i)), (.ref dd)])) _
      refine st302 _ ?_
      show Steps p.tables e below (T302.setTop (mkF m 32 #[.val (.ref ca), .val (.int (Int32.ofNat j)), .val (.ref dd), .val (.int (Int32.ofNat i)), .val (.int (Int32.ofNat n)), .val (.int (Int32.ofNat i)), .val (.int (cs.getD j 0))] [])) _
      refine XS.iinc X302.here hx rfl (hb hby d_jdk_52_method_21_code_32) rfl (l' := #[.val (.ref ca), .val (.int ((Int32.ofNat j) + (1 : Int32))), .val (.ref dd), .val (.int (Int32.ofNat i)), .val (.int (Int32.ofNat n)), .val (.int (Int32.ofNat i)), .val (.int (cs.getD j 0))]) rfl ?_
      show Steps p.tables e below (T302.setTop (mkF m 35 #[.val (.ref ca), .val (.int ((Int32.ofNat j) + (1 : Int32))), .val (.ref dd), .val (.int (Int32.ofNat i)), .val (.int (Int32.ofNat n)), .val (.int (Int32.ofNat i)), .val (.int (cs.getD j 0))] [])) _
      refine XS.iinc X302.here hx rfl (hb hby d_jdk_52_method_21_code_35) rfl (l' := #[.val (.ref ca), .val (.int ((Int32.ofNat j) + (1 : Int32))), .val (.ref dd), .val (.int ((Int32.ofNat i) + (1 : Int32))), .val (.int (Int32.ofNat n)), .val (.int (Int32.ofNat i)), .val (.int (cs.getD j 0))]) rfl ?_
      show Steps p.tables e below (T302.setTop (mkF m 38 #[.val (.ref ca), .val (.int ((Int32.ofNat j) + (1 : Int32))), .val (.ref dd), .val (.int ((Int32.ofNat i) + (1 : Int32))), .val (.int (Int32.ofNat n)), .val (.int (Int32.ofNat i)), .val (.int (cs.getD j 0))] [])) _
      refine XS.iinc X302.here hx rfl (hb hby d_jdk_52_method_21_code_38) rfl (l' := #[.val (.ref ca), .val (.int ((Int32.ofNat j) + (1 : Int32))), .val (.ref dd), .val (.int ((Int32.ofNat i) + (1 : Int32))), .val (.int (Int32.ofNat n)), .val (.int ((Int32.ofNat i) + (1 : Int32))), .val (.int (cs.getD j 0))]) rfl ?_
      show Steps p.tables e below (T302.setTop (mkF m 41 #[.val (.ref ca), .val (.int ((Int32.ofNat j) + (1 : Int32))), .val (.ref dd), .val (.int ((Int32.ofNat i) + (1 : Int32))), .val (.int (Int32.ofNat n)), .val (.int ((Int32.ofNat i) + (1 : Int32))), .val (.int (cs.getD j 0))] [])) _
      refine XS.goto X302.here hx rfl (pc0 := 41) (pc' := 3) rfl (hb hby d_jdk_52_method_21_code_41) (by decide) (by decide) ?_
      show Steps p.tables e below (T302.setTop (mkF m 3 #[.val (.ref ca), .val (.int ((Int32.ofNat j) + (1 : Int32))), .val (.ref dd), .val (.int ((Int32.ofNat i) + (1 : Int32))), .val (.int (Int32.ofNat n)), .val (.int ((Int32.ofNat i) + (1 : Int32))), .val (.int (cs.getD j 0))] [])) _
      exact kk)
    have c304 : Arv Z h302 ca kc .char (Int32.ofNat cs.length) (cs.map Value.int) dv := (q0.other W302 hy2)
    have preH : ∀ t, Steps p.tables e below (T302.setTop (mkF m 3 #[.val (.ref ca), .val (.int (Int32.ofNat (j + 1))), .val (.ref dd), .val (.int (Int32.ofNat (i + 1))), .val (.int (Int32.ofNat n)), .val (.int (Int32.ofNat (i + 1))), (Slot.val (.int (cs.getD j 0)))] [])) t → Steps p.tables e below (T0.setTop (mkF m 3 #[.val (.ref ca), .val (.int (Int32.ofNat j)), .val (.ref dd), .val (.int (Int32.ofNat i)), .val (.int (Int32.ofNat n)), .val (.int (Int32.ofNat i)), z6] [])) t := by
      rw [inc_ofNat i, inc_ofNat j]
      exact pre303
    obtain ⟨zx_, T9, h9, lo9, X9, e9, N9, K9, g9_0, g9_1, pre9⟩ := ih ((i + 1)) ((j + 1)) ((vs.set i (.int (nar .byte ((cs.getD j 0).toInt8.toInt32))))) ((Slot.val (.int (cs.getD j 0)))) T302 h302 _ X302 e302 N302 (Nat.le_trans Z0 (Keep.of_wr W302).1) c304 V302 (One.val rfl) (by omega) (by omega) (by omega) (by rw [own_nar8, ← hdi, hvs]; exact own_latstep hds (by omega) _)
    exact ⟨zx_, T9, h9, _, X9, e9, N9, (((Keep.refl h0 ([dd] : List Addr)).wr W302 (Or.inl (by simp))).trans K9 (allS (Or.inl (by simp)) all0)), g9_0, g9_1, fun t kk => preH t (pre9 t kk)⟩
theorem d_jdk_52_method_21_code_44 : decode jdk_52_method_21_code 44 = .ok (.iload 4, 2) := by decide +kernel
theorem d_jdk_52_method_21_code_46 : decode jdk_52_method_21_code 46 = .ok (.ireturn, 1) := by decide +kernel
def Q_cmp5l (Z : State) (ca : Addr) (kc : ClassId) (cs : List Int32) (dv : Value) (o : Nat) (n : Nat) (ds : List Int32) (dd : Addr) (kd : ClassId) (vs : List Value) (h0 : Heap) (n0 : Nat) (v : Option Value) (h : Heap) (L : List Loc) : Prop := (v = some (.int (Int32.ofNat n))) ∧ (Fr n0 L) ∧ (Keep h0 h ([dd] : List Addr)) ∧ (Arv Z h dd kd .byte (Int32.ofNat n) (own_bs ds) (.int (0 : Int32)))
set_option maxRecDepth 65536 in
set_option maxHeartbeats 40000000 in
theorem rm_cmp5l (l : Launch) (Z : State) (a0 : Array Value) (hw : ∀ d ∈ tables_1, d.before a0 Z = true) (ws : List Jvm.Cond) (ca : Addr) (kc : ClassId) (cs : List Int32) (dv : Value) (o : Nat) (n : Nat) (ds : List Int32) (dd : Addr) (kd : ClassId) (vs : List Value) (h0 : Heap) (n0 : Nat) (Z0 : n0 ≤ h0.size) (q0 : Arv Z h0 ca kc .char (Int32.ofNat cs.length) (cs.map Value.int) dv) (hN : cs.length < 2 ^ 31) (q2 : Arv Z h0 dd kd .byte (Int32.ofNat n) vs (.int (0 : Int32))) (q3 : n0 ≤ dd) (q4 : ca ≠ dd) (hcap : n ≤ 3) (hon : o + n ≤ cs.length) (hds : ds.length = n) (hdc : ∀ q, q < n → ds.getD q 0 = cs.getD (o + q) 0) (hlat : ∀ c ∈ ds, ¬ (255 : Int32) < c) (hv0 : vs = List.replicate n (.int (0 : Int32))) :
    MetFree l (⟨"java/lang/StringUTF16", "compress", "([CI[BII)I"⟩ : MethodName) (head1 (Jvm.Cond.code (⟨"java/lang/StringUTF16", "compress", "([CI[BII)I"⟩ : MethodName) jdk_52_method_21_code 7 (some .int) :: ws) ({ frames := 0, cells := 0, slots := 0, locals := 0 } : Room)) (fun a₁ U₁ => a₁ = #[(.ref ca), (.int (Int32.ofNat o)), (.ref dd), (.int (0 : Int32)), (.int (Int32.ofNat n))] ∧ Z.Warmed39 U₁.vm ∧ U₁.heap = h0) (fun _ _ _ _ _ => True) (fun _ U₁ o₁ U₂ => ∃ v₁ L₁, o₁ = .returned v₁ ∧ Q_cmp5l Z ca kc cs dv o n ds dd kd vs h0 n0 v₁ U₂.heap L₁ ∧ FrameEnd U₁ o₁ U₂ L₁ ({ frames := 0, cells := 0, slots := 0, locals := 0 } : Room).cells ({ frames := 0, cells := 0, slots := 0, locals := 0 } : Room).slots) := by
  refine MetFree.of_bodySF (plainFor_of_name pn_0) hisR ?_
  intro p e s m args below meth c s₁ Bd hml0 hP hK
  obtain ⟨rfl, hZ, hh⟩ := hP
  have hx := Bd.exec
  have hby := Bd.bytes
  have hml : c.maxLocals = 7 := hml0
  have hown : s.vm.findClass "java/lang/StringUTF16" = some m.cls := findClass_of_methodNamed Bd.named
  have hnm := (name_of_methodNamed Bd.named Bd.method).1
  have X0 : Stand p l e ({ frames := 0, cells := 0, slots := 0, locals := 0 } : Room) s m #[(.ref ca), (.int (Int32.ofNat o)), (.ref dd), (.int (0 : Int32)), (.int (Int32.ofNat n))] below meth c s₁ [] 0 0 := Stand.of_body Bd
  have e0 : s₁.heap = h0 := by rw [← hh, Bd.state]; rfl
  have N0 := Fr.nil n0
  have pre0 : ∀ t, Steps p.tables e below (s₁.setTop (mkF m 0 #[.val (.ref ca), .val (.int (Int32.ofNat o)), .val (.ref dd), .val (.int (0 : Int32)), .val (.int (Int32.ofNat n)), .unset, .unset] [])) t → Steps p.tables e below (s₁.setTop (entryFrame m #[(.ref ca), (.int (Int32.ofNat o)), (.ref dd), (.int (0 : Int32)), (.int (Int32.ofNat n))] 7)) t := fun t k => castTop (ef_0 m ca (Int32.ofNat o) dd (0 : Int32) (Int32.ofNat n)) k
  have pre301 : ∀ t, Steps p.tables e below (s₁.setTop (mkF m 3 #[.val (.ref ca), .val (.int (Int32.ofNat o)), .val (.ref dd), .val (.int (0 : Int32)), .val (.int (Int32.ofNat n)), .val (.int (0 : Int32)), .unset] [])) t → Steps p.tables e below (s₁.setTop (entryFrame m #[(.ref ca), (.int (Int32.ofNat o)), (.ref dd), (.int (0 : Int32)), (.int (Int32.ofNat n))] 7)) t := fun t kk => pre0 t (by
    refine XS.iconst X0.here hx rfl (hb hby d_jdk_52_method_21_code_0) ?_
    show Steps p.tables e below (s₁.setTop (mkF m 1 #[.val (.ref ca), .val (.int (Int32.ofNat o)), .val (.ref dd), .val (.int (0 : Int32)), .val (.int (Int32.ofNat n)), .unset, .unset] [(.int (0 : Int32))])) _
    refine XS.istore X0.here hx rfl (hb hby d_jdk_52_method_21_code_1) rfl (l' := #[.val (.ref ca), .val (.int (Int32.ofNat o)), .val (.ref dd), .val (.int (0 : Int32)), .val (.int (Int32.ofNat n)), .val (.int (0 : Int32)), .unset]) rfl ?_
    show Steps p.tables e below (s₁.setTop (mkF m 3 #[.val (.ref ca), .val (.int (Int32.ofNat o)), .val (.ref dd), .val (.int (0 : Int32)), .val (.int (Int32.ofNat n)), .val (.int (0 : Int32)), .unset] [])) _
    exact kk)
  have preh302 : ∀ t, Steps p.tables e below (s₁.setTop (mkF m 3 #[.val (.ref ca), .val (.int (Int32.ofNat o)), .val (.ref dd), .val (.int (Int32.ofNat 0)), .val (.int (Int32.ofNat n)), .val (.int (Int32.ofNat 0)), Slot.unset] [])) t → Steps p.tables e below (s₁.setTop (entryFrame m #[(.ref ca), (.int (Int32.ofNat o)), (.ref dd), (.int (0 : Int32)), (.int (Int32.ofNat n))] 7)) t := by
    exact pre301
  obtain ⟨zx_302, T302, h302, lo302, X302, e302, N302, K302, f302_0, f302_1, st302⟩ := lp_cmpl (ca) (kc) (cs) (dv) (dd) (kd) (o) (n) (ds) (n) ((o + n)) hx hZ hw hby hml hown (by decide : 0 ≤ _) (by decide : 0 ≤ _) (by decide) (by decide) hN q3 q4 (rfl) hcap hon hds hdc hlat n (0) (o) (vs) (Slot.unset) s₁ h0 _ X0 e0 N0 Z0 q0 q2 (One.u) (by omega) (rfl) (rfl) (by rw [hv0]; simp)
  obtain ⟨fs, hr, hrun, hended, hW, hsame⟩ := X302.leave (v := some (.int (Int32.ofNat n))) (fun h => by rw [Bd.returns] at h; cases h)
  refine ⟨_, _, preh302 _ ?_, hrun, hended, _, _, rfl, ?_, ⟨_, rfl⟩, hW, hsame.mono (by decide) (by decide)⟩
  · refine st302 _ ?_
    show Steps p.tables e below (T302.setTop (mkF m 44 #[.val (.ref ca), .val (.int (Int32.ofNat (o + n))), .val (.ref dd), .val (.int (Int32.ofNat n)), .val (.int (Int32.ofNat n)), .val (.int (Int32.ofNat n)), zx_302] [])) _
    refine XS.iload X302.here hx rfl (hb hby d_jdk_52_method_21_code_44) rfl ?_
    show Steps p.tables e below (T302.setTop (mkF m 46 #[.val (.ref ca), .val (.int (Int32.ofNat (o + n))), .val (.ref dd), .val (.int (Int32.ofNat n)), .val (.int (Int32.ofNat n)), .val (.int (Int32.ofNat n)), zx_302] [(.int (Int32.ofNat n))])) _
    exact retI X302 hx Bd.returns (hb hby d_jdk_52_method_21_code_46) hr
  · show Q_cmp5l Z ca kc cs dv o n ds dd kd vs h0 n0 _ T302.heap _
    rw [e302]
    exact ⟨rfl, N302, ((Keep.refl h0 ([dd] : List Addr)).trans K302 (allS (Or.inl (by simp)) all0)), f302_1⟩
theorem d_jdk_52_method_16_code_57 : decode jdk_52_method_16_code 57 = .ok (.aload_n 3, 1) := by decide +kernel
theorem d_jdk_52_method_16_code_58 : decode jdk_52_method_16_code 58 = .ok (.areturn, 1) := by decide +kernel
def Q_cmp3l (Z : State) (ca : Addr) (kc : ClassId) (cs : List Int32) (dv : Value) (o : Nat) (n : Nat) (ds : List Int32) (h0 : Heap) (n0 : Nat) (v : Option Value) (h : Heap) (L : List Loc) : Prop := ∃ (tt : Addr) (kt : ClassId), (v = some (.ref tt)) ∧ (Fr n0 L) ∧ (Keep h0 h ([] : List Addr)) ∧ (h0.size ≤ tt) ∧ (Arv Z h tt kt .byte (Int32.ofNat n) (own_bs ds) (.int (0 : Int32)))
set_option maxRecDepth 65536 in
set_option maxHeartbeats 40000000 in
theorem rm_cmp3l (l : Launch) (Z : State) (a0 : Array Value) (hw : ∀ d ∈ tables_1, d.before a0 Z = true) (ws : List Jvm.Cond) (ca : Addr) (kc : ClassId) (cs : List Int32) (dv : Value) (o : Nat) (n : Nat) (ds : List Int32) (h0 : Heap) (n0 : Nat) (Z0 : n0 ≤ h0.size) (q0 : Arv Z h0 ca kc .char (Int32.ofNat cs.length) (cs.map Value.int) dv) (hN : cs.length < 2 ^ 31) (hcap : n ≤ 3) (hon : o + n ≤ cs.length) (hds : ds.length = n) (hdc : ∀ q, q < n → ds.getD q 0 = cs.getD (o + q) 0) (hlat : ∀ c ∈ ds, ¬ (255 : Int32) < c) :
    MetFree l (⟨"java/lang/StringUTF16", "compress", "([CII)[B"⟩ : MethodName) (head1 (Jvm.Cond.code (⟨"java/lang/StringUTF16", "compress", "([CII)[B"⟩ : MethodName) jdk_52_method_16_code 6 (some (.array .byte)) :: ws) ({ frames := 1, cells := 1, slots := 3, locals := 18 } : Room)) (fun a₁ U₁ => a₁ = #[(.ref ca), (.int (Int32.ofNat o)), (.int (Int32.ofNat n))] ∧ Z.Warmed39 U₁.vm ∧ U₁.heap = h0) (fun _ _ _ _ _ => True) (fun _ U₁ o₁ U₂ => ∃ v₁ L₁, o₁ = .returned v₁ ∧ Q_cmp3l Z ca kc cs dv o n ds h0 n0 v₁ U₂.heap L₁ ∧ FrameEnd U₁ o₁ U₂ L₁ ({ frames := 1, cells := 1, slots := 3, locals := 18 } : Room).cells ({ frames := 1, cells := 1, slots := 3, locals := 18 } : Room).slots) := by
  refine MetFree.of_bodySF (plainFor_of_name pn_0) hisR ?_
  intro p e s m args below meth c s₁ Bd hml0 hP hK
  obtain ⟨rfl, hZ, hh⟩ := hP
  have hx := Bd.exec
  have hby := Bd.bytes
  have hml : c.maxLocals = 6 := hml0
  have hown : s.vm.findClass "java/lang/StringUTF16" = some m.cls := findClass_of_methodNamed Bd.named
  have hnm := (name_of_methodNamed Bd.named Bd.method).1
  have X0 : Stand p l e ({ frames := 1, cells := 1, slots := 3, locals := 18 } : Room) s m #[(.ref ca), (.int (Int32.ofNat o)), (.int (Int32.ofNat n))] below meth c s₁ [] 0 0 := Stand.of_body Bd
  have e0 : s₁.heap = h0 := by rw [← hh, Bd.state]; rfl
  have N0 := Fr.nil n0
  have pre0 : ∀ t, Steps p.tables e below (s₁.setTop (mkF m 0 #[.val (.ref ca), .val (.int (Int32.ofNat o)), .val (.int (Int32.ofNat n)), .unset, .unset, .unset] [])) t → Steps p.tables e below (s₁.setTop (entryFrame m #[(.ref ca), (.int (Int32.ofNat o)), (.int (Int32.ofNat n))] 6)) t := fun t k => castTop (ef_5 m ca (Int32.ofNat o) (Int32.ofNat n)) k
  obtain ⟨T301, h301, ky301, X301, e301, E301, A301, st301⟩ := newP X0 hx hZ (hw _ (List.mem_of_getElem? (i := 16) rfl)) e0 (g := (mkF m 1 #[.val (.ref ca), .val (.int (Int32.ofNat o)), .val (.int (Int32.ofNat n)), .unset, .unset, .unset] [(.int (Int32.ofNat n))])) rfl (hb hby d_jdk_52_method_16_code_1) rfl ((own_nlt (Nat.zero_le _) (by omega)) : ¬ ((Int32.ofNat n) < (0 : Int32))) (cap := 3) ((by rw [own_clamp (by omega)]; omega) : (Int32.ofNat n).toNatClampNeg ≤ 3) (by decide) (by decide) (by decide)
  obtain ⟨b301, g301⟩ : ∃ z, z = h0.size := ⟨_, rfl⟩
  rw [← g301] at A301 st301
  have V301 : Arv Z h301 b301 ky301 .byte (Int32.ofNat n) [] (.int (0 : Int32)) := Arv.new A301 (own_nlt (Nat.zero_le _) (by omega))
  have U301 : Arv Z h301 b301 ky301 .byte (Int32.ofNat n) (List.replicate n (.int (0 : Int32))) (.int (0 : Int32)) := V301.pad (pad_rep [] (.int (0 : Int32)) n)
  have c302 : Arv Z h301 ca kc .char (Int32.ofNat cs.length) (cs.map Value.int) dv := (q0.ext E301)
  have ge303 : n0 ≤ b301 := Nat.le_trans Z0 (Nat.le_trans (Nat.le_refl _) (Nat.le_of_eq g301.symm))
  have ne304 : ca ≠ b301 := Nat.ne_of_lt (Nat.lt_of_lt_of_le q0.lt (Nat.le_of_eq g301.symm))
  obtain ⟨_, _, ⟨T305, L305, k305, n305⟩, -, X305, ⟨Lc305, hQ305, l305, y305, z305⟩, st305⟩ := Jvm.LawKit.callS X301 hx (y := (⟨"java/lang/StringUTF16", "compress", "([CI[BII)I"⟩ : MethodName)) hown (mvT hZ (hw _ (List.mem_of_getElem? (i := 39) rfl))) (mvT hZ (hw _ (List.mem_of_getElem? (i := 40) rfl))) (mvT hZ (hw _ (List.mem_of_getElem? (i := 37) rfl))) (mvT hZ (hw _ (List.mem_of_getElem? (i := 41) rfl))) (by decide) (backOf (W := 0) (rm_cmp5l l Z a0 hw [] ca kc cs dv o n ds b301 ky301 (List.replicate n (.int (0 : Int32))) h301 n0 (Nat.le_trans Z0 E301.1) c302 hN U301 ge303 ne304 hcap hon hds hdc hlat (rfl)) hZ (hw _ (List.mem_of_getElem? (i := 41) rfl)) (hw _ (List.mem_of_getElem? (i := 37) rfl)) (by decide) (by decide)) (g := (mkF m 9 #[.val (.ref ca), .val (.int (Int32.ofNat o)), .val (.int (Int32.ofNat n)), .val (.ref b301), .unset, .unset] [(.int (Int32.ofNat n)), (.int (0 : Int32)), (.ref b301), (.int (Int32.ofNat o)), (.ref ca)])) rfl (by rw [hml]; rfl) (argsL := [(.ref ca), (.int (Int32.ofNat o)), (.ref b301), (.int (0 : Int32)), (.int (Int32.ofNat n))]) (rest := []) (lenOf pd_3 rfl) rfl (by show 2 * 0 + _ ≤ _; exact Nat.le_of_eq rfl) (hb hby d_jdk_52_method_16_code_9) (fun _ _ => ⟨rfl, e301, (by decide : 1 + 0 ≤ _), (by decide : 3 + 0 ≤ _)⟩)
  dsimp only [Pt.U, Pt.locs, Pt.cells, Pt.slots] at X305 l305 y305 z305 st305 hQ305
  replace l305 := l305.symm
  replace y305 := y305.symm
  replace z305 := z305.symm
  subst l305 y305 z305
  obtain ⟨rfl, Nq305, K305, f305_0⟩ := hQ305
  have N305 := Fr.app N0 Nq305
  obtain ⟨fs, hr, hrun, hended, hW, hsame⟩ := X305.leave (v := some (.ref b301)) (fun h => by rw [Bd.returns] at h; cases h)
  refine ⟨_, _, pre0 _ ?_, hrun, hended, _, _, rfl, ?_, ⟨_, rfl⟩, hW, hsame.mono (by decide) (by decide)⟩
  · refine XS.iloadN X0.here hx rfl (hb hby d_jdk_52_method_16_code_0) rfl ?_
    show Steps p.tables e below (s₁.setTop (mkF m 1 #[.val (.ref ca), .val (.int (Int32.ofNat o)), .val (.int (Int32.ofNat n)), .unset, .unset, .unset] [(.int (Int32.ofNat n))])) _
    refine st301 _ ?_
    show Steps p.tables e below (T301.setTop (mkF m 3 #[.val (.ref ca), .val (.int (Int32.ofNat o)), .val (.int (Int32.ofNat n)), .unset, .unset, .unset] [(.ref b301)])) _
    refine XS.astoreN X301.here hx rfl (hb hby d_jdk_52_method_16_code_3) rfl rfl (l' := #[.val (.ref ca), .val (.int (Int32.ofNat o)), .val (.int (Int32.ofNat n)), .val (.ref b301), .unset, .unset]) rfl ?_
    show Steps p.tables e below (T301.setTop (mkF m 4 #[.val (.ref ca), .val (.int (Int32.ofNat o)), .val (.int (Int32.ofNat n)), .val (.ref b301), .unset, .unset] [])) _
    refine XS.aloadN X301.here hx rfl (hb hby d_jdk_52_method_16_code_4) rfl rfl ?_
    show Steps p.tables e below (T301.setTop (mkF m 5 #[.val (.ref ca), .val (.int (Int32.ofNat o)), .val (.int (Int32.ofNat n)), .val (.ref b301), .unset, .unset] [(.ref ca)])) _
    refine XS.iloadN X301.here hx rfl (hb hby d_jdk_52_method_16_code_5) rfl ?_
    show Steps p.tables e below (T301.setTop (mkF m 6 #[.val (.ref ca), .val (.int (Int32.ofNat o)), .val (.int (Int32.ofNat n)), .val (.ref b301), .unset, .unset] [(.int (Int32.ofNat o)), (.ref ca)])) _
    refine XS.aloadN X301.here hx rfl (hb hby d_jdk_52_method_16_code_6) rfl rfl ?_
    show Steps p.tables e below (T301.setTop (mkF m 7 #[.val (.ref ca), .val (.int (Int32.ofNat o)), .val (.int (Int32.ofNat n)), .val (.ref b301), .unset, .unset] [(.ref b301), (.int (Int32.ofNat o)), (.ref ca)])) _
    refine XS.iconst X301.here hx rfl (hb hby d_jdk_52_method_16_code_7) ?_
    show Steps p.tables e below (T301.setTop (mkF m 8 #[.val (.ref ca), .val (.int (Int32.ofNat o)), .val (.int (Int32.ofNat n)), .val (.ref b301), .unset, .unset] [(.int (0 : Int32)), (.ref b301), (.int (Int32.ofNat o)), (.ref ca)])) _
    refine XS.iloadN X301.here hx rfl (hb hby d_jdk_52_method_16_code_8) rfl ?_
    show Steps p.tables e below (T301.setTop (mkF m 9 #[.val (.ref ca), .val (.int (Int32.ofNat o)), .val (.int (Int32.ofNat n)), .val (.ref b301), .unset, .unset] [(.int (Int32.ofNat n)), (.int (0 : Int32)), (.ref b301), (.int (Int32.ofNat o)), (.ref ca)])) _
    refine st305 _ ?_
    show Steps p.tables e below (T305.setTop (mkF m 12 #[.val (.ref ca), .val (.int (Int32.ofNat o)), .val (.int (Int32.ofNat n)), .val (.ref b301), .unset, .unset] [(.int (Int32.ofNat n))])) _
    refine XS.istore X305.here hx rfl (hb hby d_jdk_52_method_16_code_12) rfl (l' := #[.val (.ref ca), .val (.int (Int32.ofNat o)), .val (.int (Int32.ofNat n)), .val (.ref b301), .val (.int (Int32.ofNat n)), .unset]) rfl ?_
    show Steps p.tables e below (T305.setTop (mkF m 14 #[.val (.ref ca), .val (.int (Int32.ofNat o)), .val (.int (Int32.ofNat n)), .val (.ref b301), .val (.int (Int32.ofNat n)), .unset] [])) _
    refine XS.iload X305.here hx rfl (hb hby d_jdk_52_method_16_code_14) rfl ?_
    show Steps p.tables e below (T305.setTop (mkF m 16 #[.val (.ref ca), .val (.int (Int32.ofNat o)), .val (.int (Int32.ofNat n)), .val (.ref b301), .val (.int (Int32.ofNat n)), .unset] [(.int (Int32.ofNat n))])) _
    refine XS.iloadN X305.here hx rfl (hb hby d_jdk_52_method_16_code_16) rfl ?_
    show Steps p.tables e below (T305.setTop (mkF m 17 #[.val (.ref ca), .val (.int (Int32.ofNat o)), .val (.int (Int32.ofNat n)), .val (.ref b301), .val (.int (Int32.ofNat n)), .unset] [(.int (Int32.ofNat n)), (.int (Int32.ofNat n))])) _
    refine XS.icmpYes X305.here hx rfl (pc0 := 17) (pc' := 57) rfl (hb hby d_jdk_52_method_16_code_17) rfl (teq (rfl : (Int32.ofNat n) = (Int32.ofNat n))).1 (by decide) (by decide) ?_
    show Steps p.tables e below (T305.setTop (mkF m 57 #[.val (.ref ca), .val (.int (Int32.ofNat o)), .val (.int (Int32.ofNat n)), .val (.ref b301), .val (.int (Int32.ofNat n)), .unset] [])) _
    refine XS.aloadN X305.here hx rfl (hb hby d_jdk_52_method_16_code_57) rfl rfl ?_
    show Steps p.tables e below (T305.setTop (mkF m 58 #[.val (.ref ca), .val (.int (Int32.ofNat o)), .val (.int (Int32.ofNat n)), .val (.ref b301), .val (.int (Int32.ofNat n)), .unset] [(.ref b301)])) _
    jvm_step X305.here [X305.here.top, hx, (hb hby d_jdk_52_method_16_code_58), X305.method', Bd.returns, Value.isRef, FieldType.isReference]
    first | (intro acts; rw [hr _ acts rfl rfl rfl]) | rw [hr _ _ rfl rfl rfl]
    exact Steps.refl _
  · show Q_cmp3l Z ca kc cs dv o n ds h0 n0 _ T305.heap _
    exact ⟨b301, ky301, rfl, N305, (((Keep.refl h0 ([] : List Addr)).ext E301).trans K305 (allS (Or.inr (Nat.le_trans (Nat.le_refl _) (Nat.le_of_eq g301.symm))) all0)), (Nat.le_trans (Nat.le_refl _) (Nat.le_of_eq g301.symm)), f305_0⟩
def Q_codL0 (Z : State) (dd : Addr) (n : Nat) (kd : ClassId) (vs : List Value) (h0 : Heap) (n0 : Nat) (v : Option Value) (h : Heap) (L : List Loc) : Prop := (v = some (.int (0 : Int32))) ∧ (Fr n0 L) ∧ (h = h0)
set_option maxRecDepth 65536 in
set_option maxHeartbeats 40000000 in
theorem rm_codL0 (l : Launch) (Z : State) (a0 : Array Value) (hw : ∀ d ∈ tables_1, d.before a0 Z = true) (ws : List Jvm.Cond) (dd : Addr) (n : Nat) (kd : ClassId) (vs : List Value) (h0 : Heap) (n0 : Nat) (Z0 : n0 ≤ h0.size) (q0 : Arv Z h0 dd kd .byte (Int32.ofNat n) vs (.int (0 : Int32))) :
    MetFree l (⟨"java/lang/StringUTF16", "coderFromArrayLen", "([BI)B"⟩ : MethodName) (head1 (Jvm.Cond.code (⟨"java/lang/StringUTF16", "coderFromArrayLen", "([BI)B"⟩ : MethodName) jdk_52_method_15_code 2 (some .byte) :: ws) ({ frames := 0, cells := 0, slots := 0, locals := 0 } : Room)) (fun a₁ U₁ => a₁ = #[(.ref dd), (.int (Int32.ofNat n))] ∧ Z.Warmed39 U₁.vm ∧ U₁.heap = h0) (fun _ _ _ _ _ => True) (fun _ U₁ o₁ U₂ => ∃ v₁ L₁, o₁ = .returned v₁ ∧ Q_codL0 Z dd n kd vs h0 n0 v₁ U₂.heap L₁ ∧ FrameEnd U₁ o₁ U₂ L₁ ({ frames := 0, cells := 0, slots := 0, locals := 0 } : Room).cells ({ frames := 0, cells := 0, slots := 0, locals := 0 } : Room).slots) := by
  refine MetFree.of_bodySF (plainFor_of_name pn_0) hisR ?_
  intro p e s m args below meth c s₁ Bd hml0 hP hK
  obtain ⟨rfl, hZ, hh⟩ := hP
  have hx := Bd.exec
  have hby := Bd.bytes
  have hml : c.maxLocals = 2 := hml0
  have hown : s.vm.findClass "java/lang/StringUTF16" = some m.cls := findClass_of_methodNamed Bd.named
  have hnm := (name_of_methodNamed Bd.named Bd.method).1
  have X0 : Stand p l e ({ frames := 0, cells := 0, slots := 0, locals := 0 } : Room) s m #[(.ref dd), (.int (Int32.ofNat n))] below meth c s₁ [] 0 0 := Stand.of_body Bd
  have e0 : s₁.heap = h0 := by rw [← hh, Bd.state]; rfl
  have N0 := Fr.nil n0
  have pre0 : ∀ t, Steps p.tables e below (s₁.setTop (mkF m 0 #[.val (.ref dd), .val (.int (Int32.ofNat n))] [])) t → Steps p.tables e below (s₁.setTop (entryFrame m #[(.ref dd), (.int (Int32.ofNat n))] 2)) t := fun t k => castTop (ef_2 m dd (Int32.ofNat n)) k
  obtain ⟨cl301, Ar301, -, S301, M301, -, -⟩ := id q0
  obtain ⟨fs, hr, hrun, hended, hW, hsame⟩ := X0.leave (v := some (.int (0 : Int32))) (fun h => by rw [Bd.returns] at h; cases h)
  refine ⟨_, _, pre0 _ ?_, hrun, hended, _, _, rfl, ?_, ⟨_, rfl⟩, hW, hsame.mono (by decide) (by decide)⟩
  · refine XS.iloadN X0.here hx rfl (hb hby d_jdk_52_method_15_code_0) rfl ?_
    show Steps p.tables e below (s₁.setTop (mkF m 1 #[.val (.ref dd), .val (.int (Int32.ofNat n))] [(.int (Int32.ofNat n))])) _
    refine XS.aloadN X0.here hx rfl (hb hby d_jdk_52_method_15_code_1) rfl rfl ?_
    show Steps p.tables e below (s₁.setTop (mkF m 2 #[.val (.ref dd), .val (.int (Int32.ofNat n))] [(.ref dd), (.int (Int32.ofNat n))])) _
    refine X0.arraylength hx (by rw [e0]; exact Ar301.1) (State.isArrayOf_alike hZ.alike Ar301.2.1) (g := (mkF m 2 #[.val (.ref dd), .val (.int (Int32.ofNat n))] [(.ref dd), (.int (Int32.ofNat n))])) rfl rfl (hb hby d_jdk_52_method_15_code_2) _ ?_
    rw [len_of S301 M301]
    show Steps p.tables e below (s₁.setTop (mkF m 3 #[.val (.ref dd), .val (.int (Int32.ofNat n))] [(.int (Int32.ofNat n)), (.int (Int32.ofNat n))])) _
    refine XS.isub X0.here hx rfl (hb hby d_jdk_52_method_15_code_3) rfl ?_
    show Steps p.tables e below (s₁.setTop (mkF m 4 #[.val (.ref dd), .val (.int (Int32.ofNat n))] [(.int ((Int32.ofNat n) - (Int32.ofNat n)))])) _
    refine XS.bipush X0.here hx rfl (hb hby d_jdk_52_method_15_code_4) ?_
    show Steps p.tables e below (s₁.setTop (mkF m 6 #[.val (.ref dd), .val (.int (Int32.ofNat n))] [(.int (31 : Int32)), (.int ((Int32.ofNat n) - (Int32.ofNat n)))])) _
    refine XS.iushr X0.here hx rfl (hb hby d_jdk_52_method_15_code_6) rfl ?_
    show Steps p.tables e below (s₁.setTop (mkF m 7 #[.val (.ref dd), .val (.int (Int32.ofNat n))] [(.int ((((Int32.ofNat n) - (Int32.ofNat n)).toUInt32 >>> ((31 : Int32) &&& 31).toUInt32).toInt32))])) _
    refine XS.i2b X0.here hx rfl (hb hby d_jdk_52_method_15_code_7) rfl ?_
    show Steps p.tables e below (s₁.setTop (mkF m 8 #[.val (.ref dd), .val (.int (Int32.ofNat n))] [(.int (((((Int32.ofNat n) - (Int32.ofNat n)).toUInt32 >>> ((31 : Int32) &&& 31).toUInt32).toInt32).toInt8.toInt32))])) _
    rw [own_coder0 (Int32.ofNat n)]
    show Steps p.tables e below (s₁.setTop (mkF m 8 #[.val (.ref dd), .val (.int (Int32.ofNat n))] [(.int (0 : Int32))])) _
    exact retN X0 hx (t := .byte) Bd.returns (by simp) (hb hby d_jdk_52_method_15_code_8) hr
  · show Q_codL0 Z dd n kd vs h0 n0 _ s₁.heap _
    rw [e0]
    exact ⟨rfl, N0, rfl⟩
def Q_new4l (Z : State) (xs : Addr) (ca : Addr) (kc : ClassId) (cs : List Int32) (dv : Value) (o : Nat) (n : Nat) (ds : List Int32) (G : Int32) (h0 : Heap) (n0 : Nat) (v : Option Value) (h : Heap) (L : List Loc) : Prop := ∃ (tt : Addr) (kt : ClassId), (v = none) ∧ (Fr n0 L) ∧ (Keep h0 h ([xs] : List Addr)) ∧ (Fld Z h xs "java/lang/String" "value" "[B" (.ref tt)) ∧ (Fld Z h xs "java/lang/String" "coder" "B" (.int (0 : Int32))) ∧ (h0.size ≤ tt) ∧ (Arv Z h tt kt .byte (Int32.ofNat n) (own_bs ds) (.int (0 : Int32)))
set_option maxRecDepth 65536 in
set_option maxHeartbeats 40000000 in
theorem rm_new4l (l : Launch) (Z : State) (a0 : Array Value) (hw : ∀ d ∈ tables_1, d.before a0 Z = true) (ws : List Jvm.Cond) (xs : Addr) (ca : Addr) (kc : ClassId) (cs : List Int32) (dv : Value) (o : Nat) (n : Nat) (ds : List Int32) (G : Int32) (h0 : Heap) (n0 : Nat) (Z0 : n0 ≤ h0.size) (q0 : Sta Z Z.heap "java/lang/String" "COMPACT_STRINGS" "Z" (.int G)) (hCS : ¬ (G = (0 : Int32))) (q2 : Old Z n0 h0) (hn1 : 0 < n) (q4 : Arv Z h0 ca kc .char (Int32.ofNat cs.length) (cs.map Value.int) dv) (hN : cs.length < 2 ^ 31) (hcap : n ≤ 3) (hon : o + n ≤ cs.length) (hds : ds.length = n) (hdc : ∀ q, q < n → ds.getD q 0 = cs.getD (o + q) 0) (hlat : ∀ c ∈ ds, ¬ (255 : Int32) < c) (q11 : Exa Z h0 xs "java/lang/String") (q12 : Fld Z h0 xs "java/lang/String" "value" "[B" .null) (q13 : Fld Z h0 xs "java/lang/String" "coder" "B" (.int (0 : Int32))) (q14 : n0 ≤ xs) :
    MetFree l (⟨"java/lang/String", "<init>", "([CIILjava/lang/Void;)V"⟩ : MethodName) (head1 (Jvm.Cond.code (⟨"java/lang/String", "<init>", "([CIILjava/lang/Void;)V"⟩ : MethodName) jdk_42_method_149_code 6 none :: ws) ({ frames := 2, cells := 1, slots := 3, locals := 35 } : Room)) (fun a₁ U₁ => a₁ = #[(.ref xs), (.ref ca), (.int (Int32.ofNat o)), (.int (Int32.ofNat n)), .null] ∧ Z.Warmed39 U₁.vm ∧ U₁.heap = h0) (fun _ _ _ _ _ => True) (fun _ U₁ o₁ U₂ => ∃ v₁ L₁, o₁ = .returned v₁ ∧ Q_new4l Z xs ca kc cs dv o n ds G h0 n0 v₁ U₂.heap L₁ ∧ FrameEnd U₁ o₁ U₂ L₁ ({ frames := 2, cells := 1, slots := 3, locals := 35 } : Room).cells ({ frames := 2, cells := 1, slots := 3, locals := 35 } : Room).slots) := by
  refine MetFree.of_bodySF (plainFor_of_name pn_1) hisR ?_
  intro p e s m args below meth c s₁ Bd hml0 hP hK
  obtain ⟨rfl, hZ, hh⟩ := hP
  have hx := Bd.exec
  have hby := Bd.bytes
  have hml : c.maxLocals = 6 := hml0
  have hown : s.vm.findClass "java/lang/String" = some m.cls := findClass_of_methodNamed Bd.named
  have hnm := (name_of_methodNamed Bd.named Bd.method).1
  have X0 : Stand p l e ({ frames := 2, cells := 1, slots := 3, locals := 35 } : Room) s m #[(.ref xs), (.ref ca), (.int (Int32.ofNat o)), (.int (Int32.ofNat n)), .null] below meth c s₁ [] 0 0 := Stand.of_body Bd
  have e0 : s₁.heap = h0 := by rw [← hh, Bd.state]; rfl
  have N0 := Fr.nil n0
  have pre0 : ∀ t, Steps p.tables e below (s₁.setTop (mkF m 0 #[.val (.ref xs), .val (.ref ca), .val (.int (Int32.ofNat o)), .val (.int (Int32.ofNat n)), .val .null, .unset] [])) t → Steps p.tables e below (s₁.setTop (entryFrame m #[(.ref xs), (.ref ca), (.int (Int32.ofNat o)), (.int (Int32.ofNat n)), .null] 6)) t := fun t k => castTop (ef_6 m xs ca (Int32.ofNat o) (Int32.ofNat n)) k
  obtain ⟨T301, X301, e301, st301⟩ := initO X0 hx hZ hown (hw _ (List.mem_of_getElem? (i := 21) rfl)) (hw _ (List.mem_of_getElem? (i := 22) rfl)) (hw _ (List.mem_of_getElem? (i := 23) rfl)) e0 (g := (mkF m 1 #[.val (.ref xs), .val (.ref ca), .val (.int (Int32.ofNat o)), .val (.int (Int32.ofNat n)), .val .null, .unset] [(.ref xs)])) rfl (by rw [hml]; rfl) rfl (hb hby d_jdk_42_method_149_code_1) (by decide) (W := 0) (by show 2 * 0 + _ ≤ _; exact Nat.le_of_eq rfl) (by decide)
  obtain ⟨T302, X302, e302, st302⟩ := getS2 X301 hx hZ hown (host := "") (Or.inl (hw _ (List.mem_of_getElem? (i := 6) rfl))) Via.refl e301 (q0.ext q2.2) (g := (mkF m 27 #[.val (.ref xs), .val (.ref ca), .val (.int (Int32.ofNat o)), .val (.int (Int32.ofNat n)), .val .null, .unset] [])) rfl (hb hby d_jdk_42_method_149_code_27)
  obtain ⟨_, _, ⟨T303, L303, k303, n303⟩, -, X303, ⟨Lc303, hQ303, l303, y303, z303⟩, st303⟩ := Jvm.LawKit.callS X302 hx (y := (⟨"java/lang/StringUTF16", "compress", "([CII)[B"⟩ : MethodName)) hown (mvT hZ (hw _ (List.mem_of_getElem? (i := 35) rfl))) (mvT hZ (hw _ (List.mem_of_getElem? (i := 36) rfl))) (mvT hZ (hw _ (List.mem_of_getElem? (i := 37) rfl))) (mvT hZ (hw _ (List.mem_of_getElem? (i := 38) rfl))) (by decide) (backOf (W := 0) (rm_cmp3l l Z a0 hw [] ca kc cs dv o n ds h0 n0 Z0 q4 hN hcap hon hds hdc hlat) hZ (hw _ (List.mem_of_getElem? (i := 38) rfl)) (hw _ (List.mem_of_getElem? (i := 37) rfl)) (by decide) (by decide)) (g := (mkF m 36 #[.val (.ref xs), .val (.ref ca), .val (.int (Int32.ofNat o)), .val (.int (Int32.ofNat n)), .val .null, .unset] [(.int (Int32.ofNat n)), (.int (Int32.ofNat o)), (.ref ca)])) rfl (by rw [hml]; rfl) (argsL := [(.ref ca), (.int (Int32.ofNat o)), (.int (Int32.ofNat n))]) (rest := []) (lenOf pd_4 rfl) rfl (by show 2 * 0 + _ ≤ _; exact Nat.le_of_eq rfl) (hb hby d_jdk_42_method_149_code_36) (fun _ _ => ⟨rfl, e302, (by decide : 0 + 1 ≤ _), (by decide : 0 + 3 ≤ _)⟩)
  dsimp only [Pt.U, Pt.locs, Pt.cells, Pt.slots] at X303 l303 y303 z303 st303 hQ303
  replace l303 := l303.symm
  replace y303 := y303.symm
  replace z303 := z303.symm
  subst l303 y303 z303
  obtain ⟨tt_303, kt_303, rfl, Nq303, K303, f303_0, f303_1⟩ := hQ303
  have N303 := Fr.app N0 Nq303
  obtain ⟨_, _, ⟨T304, L304, k304, n304⟩, -, X304, ⟨Lc304, hQ304, l304, y304, z304⟩, st304⟩ := Jvm.LawKit.callS X303 hx (y := (⟨"java/lang/StringUTF16", "coderFromArrayLen", "([BI)B"⟩ : MethodName)) hown (mvT hZ (hw _ (List.mem_of_getElem? (i := 42) rfl))) (mvT hZ (hw _ (List.mem_of_getElem? (i := 43) rfl))) (mvT hZ (hw _ (List.mem_of_getElem? (i := 37) rfl))) (mvT hZ (hw _ (List.mem_of_getElem? (i := 44) rfl))) (by decide) (backOf (W := 1) (rm_codL0 l Z a0 hw [] tt_303 n kt_303 (own_bs ds) T303.heap n0 (Nat.le_trans Z0 K303.1) f303_1) hZ (hw _ (List.mem_of_getElem? (i := 44) rfl)) (hw _ (List.mem_of_getElem? (i := 37) rfl)) (by decide) (by decide)) (g := (mkF m 45 #[.val (.ref xs), .val (.ref ca), .val (.int (Int32.ofNat o)), .val (.int (Int32.ofNat n)), .val .null, .val (.ref tt_303)] [(.int (Int32.ofNat n)), (.ref tt_303), (.ref xs)])) rfl (by rw [hml]; rfl) (argsL := [(.ref tt_303), (.int (Int32.ofNat n))]) (rest := [(.ref xs)]) (lenOf pd_6 rfl) rfl (by show 2 * 0 + _ ≤ _; exact Nat.le_of_eq rfl) (hb hby d_jdk_42_method_149_code_45) (fun _ _ => ⟨rfl, rfl, (by decide : 1 + 0 ≤ _), (by decide : 3 + 0 ≤ _)⟩)
  dsimp only [Pt.U, Pt.locs, Pt.cells, Pt.slots] at X304 l304 y304 z304 st304 hQ304
  replace l304 := l304.symm
  replace y304 := y304.symm
  replace z304 := z304.symm
  subst l304 y304 z304
  obtain ⟨rfl, Nq304, e304⟩ := hQ304
  have N304 := Fr.app N303 Nq304
  have c305 : Fld Z T303.heap xs "java/lang/String" "coder" "B" (.int (0 : Int32)) := (q13.keep K303 nin0)
  have c306 : Exa Z T303.heap xs "java/lang/String" := (q11.keep K303)
  obtain ⟨T307, h307, X307, e307, W307, st307⟩ := putFN X304 hx hZ hown (hw _ (List.mem_of_getElem? (i := 26) rfl)) Via.refl e304 c305 c306 (Or.inr ⟨(hw _ (List.mem_of_getElem? (i := 27) rfl)), rfl, hnm⟩) (hw _ (List.mem_of_getElem? (i := 12) rfl)) (ty := .byte) (v' := (.int (0 : Int32))) (by decide) rfl rfl (g := (mkF m 48 #[.val (.ref xs), .val (.ref ca), .val (.int (Int32.ofNat o)), .val (.int (Int32.ofNat n)), .val .null, .val (.ref tt_303)] [(.int (0 : Int32)), (.ref xs)])) rfl rfl (hb hby d_jdk_42_method_149_code_48)
  have N307 := Fr.snoc X307 N304 q14
  have F307 : Fld Z h307 xs "java/lang/String" "coder" "B" (.int (0 : Int32)) := c305.same W307
  have c308 : Fld Z h307 xs "java/lang/String" "value" "[B" .null := ((q12.keep K303 nin0).other W307 (Or.inr (slot_ne (Or.inr (hw _ (List.mem_of_getElem? (i := 25) rfl))) (Or.inr (hw _ (List.mem_of_getElem? (i := 27) rfl))) (by decide) (t := (.array .byte)) (t' := .byte) (by decide) (by decide))))
  have c309 : Exa Z h307 xs "java/lang/String" := (c306.wr W307)
  obtain ⟨T310, h310, X310, e310, W310, st310⟩ := putF X307 hx hZ hown (host := "") (Or.inl (hw _ (List.mem_of_getElem? (i := 24) rfl))) Via.refl e307 c308 c309 (Or.inr ⟨(hw _ (List.mem_of_getElem? (i := 25) rfl)), rfl, hnm⟩) (hw _ (List.mem_of_getElem? (i := 12) rfl)) (ty := (.array .byte)) (by decide) rfl rfl (g := (mkF m 54 #[.val (.ref xs), .val (.ref ca), .val (.int (Int32.ofNat o)), .val (.int (Int32.ofNat n)), .val .null, .val (.ref tt_303)] [(.ref tt_303), (.ref xs)])) rfl rfl (hb hby d_jdk_42_method_149_code_54)
  have N310 := Fr.snoc X310 N307 q14
  have F310 : Fld Z h310 xs "java/lang/String" "value" "[B" (.ref tt_303) := c308.same W310
  have ne311 : xs ≠ tt_303 := Nat.ne_of_lt (Nat.lt_of_lt_of_le q13.lt f303_0)
  have c312 : Arv Z h310 tt_303 kt_303 .byte (Int32.ofNat n) (own_bs ds) (.int (0 : Int32)) := ((f303_1.other W307 (Ne.symm ne311)).other W310 (Ne.symm ne311))
  have c313 : Fld Z h310 xs "java/lang/String" "coder" "B" (.int (0 : Int32)) := (F307.other W310 (Or.inr (slot_ne (Or.inr (hw _ (List.mem_of_getElem? (i := 27) rfl))) (Or.inr (hw _ (List.mem_of_getElem? (i := 25) rfl))) (by decide) (t := .byte) (t' := (.array .byte)) (by decide) (by decide))))
  obtain ⟨fs, hr, hrun, hended, hW, hsame⟩ := X310.leave (v := none) (fun _ => rfl)
  refine ⟨_, _, pre0 _ ?_, hrun, hended, _, _, rfl, ?_, ⟨_, rfl⟩, hW, hsame.mono (by decide) (by decide)⟩
  · refine XS.aloadN X0.here hx rfl (hb hby d_jdk_42_method_149_code_0) rfl rfl ?_
    show Steps p.tables e below (s₁.setTop (mkF m 1 #[.val (.ref xs), .val (.ref ca), .val (.int (Int32.ofNat o)), .val (.int (Int32.ofNat n)), .val .null, .unset] [(.ref xs)])) _
    refine st301 _ ?_
    show Steps p.tables e below (T301.setTop (mkF m 4 #[.val (.ref xs), .val (.ref ca), .val (.int (Int32.ofNat o)), .val (.int (Int32.ofNat n)), .val .null, .unset] [])) _
    refine XS.iloadN X301.here hx rfl (hb hby d_jdk_42_method_149_code_4) rfl ?_
    show Steps p.tables e below (T301.setTop (mkF m 5 #[.val (.ref xs), .val (.ref ca), .val (.int (Int32.ofNat o)), .val (.int (Int32.ofNat n)), .val .null, .unset] [(.int (Int32.ofNat n))])) _
    refine XS.ifYes X301.here hx rfl (pc0 := 5) (pc' := 27) rfl (hb hby d_jdk_42_method_149_code_5) rfl ((if0 _ _).trans (feq ((fun q => absurd (own_oinj (i := n) (n := 0) (by omega) (by omega) q) (by omega)) : ¬ ((Int32.ofNat n) = (0 : Int32)))).2) (by decide) (by decide) ?_
    show Steps p.tables e below (T301.setTop (mkF m 27 #[.val (.ref xs), .val (.ref ca), .val (.int (Int32.ofNat o)), .val (.int (Int32.ofNat n)), .val .null, .unset] [])) _
    refine st302 _ ?_
    show Steps p.tables e below (T302.setTop (mkF m 30 #[.val (.ref xs), .val (.ref ca), .val (.int (Int32.ofNat o)), .val (.int (Int32.ofNat n)), .val .null, .unset] [(.int G)])) _
    refine XS.ifNo X302.here hx rfl (hb hby d_jdk_42_method_149_code_30) rfl ((if0 _ _).trans (feq (hCS : ¬ (G = (0 : Int32)))).1) ?_
    show Steps p.tables e below (T302.setTop (mkF m 33 #[.val (.ref xs), .val (.ref ca), .val (.int (Int32.ofNat o)), .val (.int (Int32.ofNat n)), .val .null, .unset] [])) _
    refine XS.aloadN X302.here hx rfl (hb hby d_jdk_42_method_149_code_33) rfl rfl ?_
    show Steps p.tables e below (T302.setTop (mkF m 34 #[.val (.ref xs), .val (.ref ca), .val (.int (Int32.ofNat o)), .val (.int (Int32.ofNat n)), .val .null, .unset] [(.ref ca)])) _
    refine XS.iloadN X302.here hx rfl (hb hby d_jdk_42_method_149_code_34) rfl ?_
    show Steps p.tables e below (T302.setTop (mkF m 35 #[.val (.ref xs), .val (.ref ca), .val (.int (Int32.ofNat o)), .val (.int (Int32.ofNat n)), .val .null, .unset] [(.int (Int32.ofNat o)), (.ref ca)])) _
    refine XS.iloadN X302.here hx rfl (hb hby d_jdk_42_method_149_code_35) rfl ?_
    show Steps p.tables e below (T302.setTop (mkF m 36 #[.val (.ref xs), .val (.ref ca), .val (.int (Int32.ofNat o)), .val (.int (Int32.ofNat n)), .val .null, .unset] [(.int (Int32.ofNat n)), (.int (Int32.ofNat o)), (.ref ca)])) _
    refine st303 _ ?_
    show Steps p.tables e below (T303.setTop (mkF m 39 #[.val (.ref xs), .val (.ref ca), .val (.int (Int32.ofNat o)), .val (.int (Int32.ofNat n)), .val .null, .unset] [(.ref tt_303)])) _
    refine XS.astore X303.here hx rfl (hb hby d_jdk_42_method_149_code_39) rfl rfl (l' := #[.val (.ref xs), .val (.ref ca), .val (.int (Int32.ofNat o)), .val (.int (Int32.ofNat n)), .val .null, .val (.ref tt_303)]) rfl ?_
    show Steps p.tables e below (T303.setTop (mkF m 41 #[.val (.ref xs), .val (.ref ca), .val (.int (Int32.ofNat o)), .val (.int (Int32.ofNat n)), .val .null, .val (.ref tt_303)] [])) _
    refine XS.aloadN X303.here hx rfl (hb hby d_jdk_42_method_149_code_41) rfl rfl ?_
    show Steps p.tables e below (T303.setTop (mkF m 42 #[.val (.ref xs), .val (.ref ca), .val (.int (Int32.ofNat o)), .val (.int (Int32.ofNat n)), .val .null, .val (.ref tt_303)] [(.ref xs)])) _
    refine XS.aload X303.here hx rfl (hb hby d_jdk_42_method_149_code_42) rfl rfl ?_
    show Steps p.tables e below (T303.setTop (mkF m 44 #[.val (.ref xs), .val (.ref ca), .val (.int (Int32.ofNat o)), .val (.int (Int32.ofNat n)), .val .null, .val (.ref tt_303)] [(.ref tt_303), (.ref xs)])) _
    refine XS.iloadN X303.here hx rfl (hb hby d_jdk_42_method_149_code_44) rfl ?_
    show Steps p.tables e below (T303.setTop (mkF m 45 #[.val (.ref xs), .val (.ref ca), .val (.int (Int32.ofNat o)), .val (.int (Int32.ofNat n)), .val .null, .val (.ref tt_303)] [(.int (Int32.ofNat n)), (.ref tt_303), (.ref xs)])) _
    refine st304 _ ?_
    show Steps p.tables e below (T304.setTop (mkF m 48 #[.val (.ref xs), .val (.ref ca), .val (.int (Int32.ofNat o)), .val (.int (Int32.ofNat n)), .val .null, .val (.ref tt_303)] [(.int (0 : Int32)), (.ref xs)])) _
    refine st307 _ ?_
    show Steps p.tables e below (T307.setTop (mkF m 51 #[.val (.ref xs), .val (.ref ca), .val (.int (Int32.ofNat o)), .val (.int (Int32.ofNat n)), .val .null, .val (.ref tt_303)] [])) _
    refine XS.aloadN X307.here hx rfl (hb hby d_jdk_42_method_149_code_51) rfl rfl ?_
    show Steps p.tables e below (T307.setTop (mkF m 52 #[.val (.ref xs), .val (.ref ca), .val (.int (Int32.ofNat o)), .val (.int (Int32.ofNat n)), .val .null, .val (.ref tt_303)] [(.ref xs)])) _
    refine XS.aload X307.here hx rfl (hb hby d_jdk_42_method_149_code_52) rfl rfl ?_
    show Steps p.tables e below (T307.setTop (mkF m 54 #[.val (.ref xs), .val (.ref ca), .val (.int (Int32.ofNat o)), .val (.int (Int32.ofNat n)), .val .null, .val (.ref tt_303)] [(.ref tt_303), (.ref xs)])) _
    refine st310 _ ?_
    show Steps p.tables e below (T310.setTop (mkF m 57 #[.val (.ref xs), .val (.ref ca), .val (.int (Int32.ofNat o)), .val (.int (Int32.ofNat n)), .val .null, .val (.ref tt_303)] [])) _
    exact X310.returnOut hx Bd.returns (hb hby d_jdk_42_method_149_code_57) hr
  · show Q_new4l Z xs ca kc cs dv o n ds G h0 n0 _ T310.heap _
    rw [e310]
    exact ⟨tt_303, kt_303, rfl, N310, ((((Keep.refl h0 ([xs] : List Addr)).trans K303 all0).wr W307 (Or.inl (by simp))).wr W310 (Or.inl (by simp))), F310, c313, (Nat.le_trans (Nat.le_refl _) f303_0), c312⟩
theorem d_jdk_43_method_3_code_0 : decode jdk_43_method_3_code 0 = .ok (.iload_n 0, 1) := by decide +kernel
theorem d_jdk_43_method_3_code_1 : decode jdk_43_method_3_code 1 = .ok (.sipush 255, 3) := by decide +kernel
theorem d_jdk_43_method_3_code_4 : decode jdk_43_method_3_code 4 = .ok (.if_icmp .gt 7, 3) := by decide +kernel
theorem d_jdk_43_method_3_code_7 : decode jdk_43_method_3_code 7 = .ok (.iconst 1, 1) := by decide +kernel
theorem d_jdk_43_method_3_code_8 : decode jdk_43_method_3_code 8 = .ok (.goto 4, 3) := by decide +kernel
theorem d_jdk_43_method_3_code_12 : decode jdk_43_method_3_code 12 = .ok (.ireturn, 1) := by decide +kernel
theorem pn_2 : plainName "java/lang/StringLatin1" = true := by first | (simp [plainName, overriddenIn]; done) | decide +kernel
def Q_canEnc (Z : State) (xc : Int32) (h0 : Heap) (n0 : Nat) (v : Option Value) (h : Heap) (L : List Loc) : Prop := (v = some (.int (1 : Int32))) ∧ (Fr n0 L) ∧ (h = h0)
set_option maxRecDepth 65536 in
set_option maxHeartbeats 40000000 in
theorem rm_canEnc (l : Launch) (Z : State) (a0 : Array Value) (hw : ∀ d ∈ tables_1, d.before a0 Z = true) (ws : List Jvm.Cond) (xc : Int32) (h0 : Heap) (n0 : Nat) (Z0 : n0 ≤ h0.size) (h255 : ¬ (255 : Int32) < xc) :
    MetFree l (⟨"java/lang/StringLatin1", "canEncode", "(C)Z"⟩ : MethodName) (head1 (Jvm.Cond.code (⟨"java/lang/StringLatin1", "canEncode", "(C)Z"⟩ : MethodName) jdk_43_method_3_code 1 (some .boolean) :: ws) ({ frames := 0, cells := 0, slots := 0, locals := 0 } : Room)) (fun a₁ U₁ => a₁ = #[(.int xc)] ∧ Z.Warmed39 U₁.vm ∧ U₁.heap = h0) (fun _ _ _ _ _ => True) (fun _ U₁ o₁ U₂ => ∃ v₁ L₁, o₁ = .returned v₁ ∧ Q_canEnc Z xc h0 n0 v₁ U₂.heap L₁ ∧ FrameEnd U₁ o₁ U₂ L₁ ({ frames := 0, cells := 0, slots := 0, locals := 0 } : Room).cells ({ frames := 0, cells := 0, slots := 0, locals := 0 } : Room).slots) := by
  refine MetFree.of_bodySF (plainFor_of_name pn_2) hisR ?_
  intro p e s m args below meth c s₁ Bd hml0 hP hK
  obtain ⟨rfl, hZ, hh⟩ := hP
  have hx := Bd.exec
  have hby := Bd.bytes
  have hml : c.maxLocals = 1 := hml0
  have hown : s.vm.findClass "java/lang/StringLatin1" = some m.cls := findClass_of_methodNamed Bd.named
  have hnm := (name_of_methodNamed Bd.named Bd.method).1
  have X0 : Stand p l e ({ frames := 0, cells := 0, slots := 0, locals := 0 } : Room) s m #[(.int xc)] below meth c s₁ [] 0 0 := Stand.of_body Bd
  have e0 : s₁.heap = h0 := by rw [← hh, Bd.state]; rfl
  have N0 := Fr.nil n0
  have pre0 : ∀ t, Steps p.tables e below (s₁.setTop (mkF m 0 #[.val (.int xc)] [])) t → Steps p.tables e below (s₁.setTop (entryFrame m #[(.int xc)] 1)) t := fun t k => castTop (ef_3 m xc) k
  obtain ⟨fs, hr, hrun, hended, hW, hsame⟩ := X0.leave (v := some (.int (1 : Int32))) (fun h => by rw [Bd.returns] at h; cases h)
  refine ⟨_, _, pre0 _ ?_, hrun, hended, _, _, rfl, ?_, ⟨_, rfl⟩, hW, hsame.mono (by decide) (by decide)⟩
  · refine XS.iloadN X0.here hx rfl (hb hby d_jdk_43_method_3_code_0) rfl ?_
    show Steps p.tables e below (s₁.setTop (mkF m 1 #[.val (.int xc)] [(.int xc)])) _
    refine XS.sipush X0.here hx rfl (hb hby d_jdk_43_method_3_code_1) ?_
    show Steps p.tables e below (s₁.setTop (mkF m 4 #[.val (.int xc)] [(.int (255 : Int32)), (.int xc)])) _
    refine XS.icmpNo X0.here hx rfl (hb hby d_jdk_43_method_3_code_4) rfl (flt (h255 : ¬ ((255 : Int32) < xc))).2.2.1 ?_
    show Steps p.tables e below (s₁.setTop (mkF m 7 #[.val (.int xc)] [])) _
    refine XS.iconst X0.here hx rfl (hb hby d_jdk_43_method_3_code_7) ?_
    show Steps p.tables e below (s₁.setTop (mkF m 8 #[.val (.int xc)] [(.int (1 : Int32))])) _
    refine XS.goto X0.here hx rfl (pc0 := 8) (pc' := 12) rfl (hb hby d_jdk_43_method_3_code_8) (by decide) (by decide) ?_
    show Steps p.tables e below (s₁.setTop (mkF m 12 #[.val (.int xc)] [(.int (1 : Int32))])) _
    exact retN X0 hx (t := .boolean) Bd.returns (by simp) (hb hby d_jdk_43_method_3_code_12) hr
  · show Q_canEnc Z xc h0 n0 _ s₁.heap _
    rw [e0]
    exact ⟨rfl, N0, rfl⟩
theorem d_jdk_43_method_46_code_0 : decode jdk_43_method_46_code 0 = .ok (.iconst 1, 1) := by decide +kernel
theorem d_jdk_43_method_46_code_1 : decode jdk_43_method_46_code 1 = .ok (.newarray .byte, 2) := by decide +kernel
theorem d_jdk_43_method_46_code_3 : decode jdk_43_method_46_code 3 = .ok (.dup, 1) := by decide +kernel
theorem d_jdk_43_method_46_code_4 : decode jdk_43_method_46_code 4 = .ok (.iconst 0, 1) := by decide +kernel
theorem d_jdk_43_method_46_code_5 : decode jdk_43_method_46_code 5 = .ok (.iload_n 0, 1) := by decide +kernel
theorem d_jdk_43_method_46_code_6 : decode jdk_43_method_46_code 6 = .ok (.i2b, 1) := by decide +kernel
theorem d_jdk_43_method_46_code_7 : decode jdk_43_method_46_code 7 = .ok (.bastore, 1) := by decide +kernel
theorem d_jdk_43_method_46_code_8 : decode jdk_43_method_46_code 8 = .ok (.areturn, 1) := by decide +kernel
def Q_toB1 (Z : State) (xc : Int32) (h0 : Heap) (n0 : Nat) (v : Option Value) (h : Heap) (L : List Loc) : Prop := ∃ (tt : Addr) (kt : ClassId), (v = some (.ref tt)) ∧ (Fr n0 L) ∧ (Keep h0 h ([] : List Addr)) ∧ (h0.size ≤ tt) ∧ (Arv Z h tt kt .byte (1 : Int32) [(.int (nar .byte (xc.toInt8.toInt32)))] (.int (0 : Int32)))
set_option maxRecDepth 65536 in
set_option maxHeartbeats 40000000 in
theorem rm_toB1 (l : Launch) (Z : State) (a0 : Array Value) (hw : ∀ d ∈ tables_1, d.before a0 Z = true) (ws : List Jvm.Cond) (xc : Int32) (h0 : Heap) (n0 : Nat) (Z0 : n0 ≤ h0.size) :
    MetFree l (⟨"java/lang/StringLatin1", "toBytes", "(C)[B"⟩ : MethodName) (head1 (Jvm.Cond.code (⟨"java/lang/StringLatin1", "toBytes", "(C)[B"⟩ : MethodName) jdk_43_method_46_code 1 (some (.array .byte)) :: ws) ({ frames := 0, cells := 1, slots := 1, locals := 0 } : Room)) (fun a₁ U₁ => a₁ = #[(.int xc)] ∧ Z.Warmed39 U₁.vm ∧ U₁.heap = h0) (fun _ _ _ _ _ => True) (fun _ U₁ o₁ U₂ => ∃ v₁ L₁, o₁ = .returned v₁ ∧ Q_toB1 Z xc h0 n0 v₁ U₂.heap L₁ ∧ FrameEnd U₁ o₁ U₂ L₁ ({ frames := 0, cells := 1, slots := 1, locals := 0 } : Room).cells ({ frames := 0, cells := 1, slots := 1, locals := 0 } : Room).slots) := by
  refine MetFree.of_bodySF (plainFor_of_name pn_2) hisR ?_
  intro p e s m args below meth c s₁ Bd hml0 hP hK
  obtain ⟨rfl, hZ, hh⟩ := hP
  have hx := Bd.exec
  have hby := Bd.bytes
  have hml : c.maxLocals = 1 := hml0
  have hown : s.vm.findClass "java/lang/StringLatin1" = some m.cls := findClass_of_methodNamed Bd.named
  have hnm := (name_of_methodNamed Bd.named Bd.method).1
  have X0 : Stand p l e ({ frames := 0, cells := 1, slots := 1, locals := 0 } : Room) s m #[(.int xc)] below meth c s₁ [] 0 0 := Stand.of_body Bd
  have e0 : s₁.heap = h0 := by rw [← hh, Bd.state]; rfl
  have N0 := Fr.nil n0
  have pre0 : ∀ t, Steps p.tables e below (s₁.setTop (mkF m 0 #[.val (.int xc)] [])) t → Steps p.tables e below (s₁.setTop (entryFrame m #[(.int xc)] 1)) t := fun t k => castTop (ef_3 m xc) k
  obtain ⟨T301, h301, ky301, X301, e301, E301, A301, st301⟩ := newP X0 hx hZ (hw _ (List.mem_of_getElem? (i := 16) rfl)) e0 (g := (mkF m 1 #[.val (.int xc)] [(.int (1 : Int32))])) rfl (hb hby d_jdk_43_method_46_code_1) rfl ((by decide) : ¬ ((1 : Int32) < (0 : Int32))) (cap := 1) ((by decide) : (1 : Int32).toNatClampNeg ≤ 1) (by decide) (by decide) (by decide)
  obtain ⟨b301, g301⟩ : ∃ z, z = h0.size := ⟨_, rfl⟩
  rw [← g301] at A301 st301
  have V301 : Arv Z h301 b301 ky301 .byte (1 : Int32) [] (.int (0 : Int32)) := Arv.new A301 (by decide)
  have U301 : Arv Z h301 b301 ky301 .byte (1 : Int32) [(.int (0 : Int32))] (.int (0 : Int32)) := V301.pad (pad_rep [] (.int (0 : Int32)) 1)
  have ge303 : n0 ≤ b301 := Nat.le_trans Z0 (Nat.le_trans (Nat.le_refl _) (Nat.le_of_eq g301.symm))
  obtain ⟨cl302, Ar302, qq302, S302, M302, Hh302, U302⟩ := id U301
  obtain ⟨T302, h302, X302, e302, W302, st302⟩ := stB X301 hx hZ e301 Ar302 (j := (0 : Int32)) (inb_of S302 ⟨(by decide : ¬ ((0 : Int32) < (0 : Int32))), (by decide : (0 : Int32) < (1 : Int32))⟩) (g := (mkF m 7 #[.val (.int xc)] [(.int (xc.toInt8.toInt32)), (.int (0 : Int32)), (.ref b301), (.ref b301)])) rfl rfl (hb hby d_jdk_43_method_46_code_7)
  have N302 := Fr.snoc X302 N0 ge303
  have V302 : Arv Z h302 b301 ky301 .byte (1 : Int32) [(.int (nar .byte (xc.toInt8.toInt32)))] (.int (0 : Int32)) := Arv.set Ar302 qq302 S302 M302 Hh302 U302 (fits_nar_byte _) W302 0 rfl (Nat.le_of_ble_eq_true rfl)
  obtain ⟨fs, hr, hrun, hended, hW, hsame⟩ := X302.leave (v := some (.ref b301)) (fun h => by rw [Bd.returns] at h; cases h)
  refine ⟨_, _, pre0 _ ?_, hrun, hended, _, _, rfl, ?_, ⟨_, rfl⟩, hW, hsame.mono (by decide) (by decide)⟩
  · refine XS.iconst X0.here hx rfl (hb hby d_jdk_43_method_46_code_0) ?_
    show Steps p.tables e below (s₁.setTop (mkF m 1 #[.val (.int xc)] [(.int (1 : Int32))])) _
    refine st301 _ ?_
    show Steps p.tables e below (T301.setTop (mkF m 3 #[.val (.int xc)] [(.ref b301)])) _
    refine XS.dup X301.here hx rfl (hb hby d_jdk_43_method_46_code_3) rfl rfl ?_
    show Steps p.tables e below (T301.setTop (mkF m 4 #[.val (.int xc)] [(.ref b301), (.ref b301)])) _
    refine XS.iconst X301.here hx rfl (hb hby d_jdk_43_method_46_code_4) ?_
    show Steps p.tables e below (T301.setTop (mkF m 5 #[.val (.int xc)] [(.int (0 : Int32)), (.ref b301), (.ref b301)])) _
    refine XS.iloadN X301.here hx rfl (hb hby d_jdk_43_method_46_code_5) rfl ?_
    show Steps p.tables e below (T301.setTop (mkF m 6 #[.val (.int xc)] [(.int xc), (.int (0 : Int32)), (.ref b301), (.ref b301)])) _
    refine XS.i2b X301.here hx rfl (hb hby d_jdk_43_method_46_code_6) rfl ?_
    show Steps p.tables e below (T301.setTop (mkF m 7 #[.val (.int xc)] [(.int (xc.toInt8.toInt32)), (.int (0 : Int32)), (.ref b301), (.ref b301)])) _
    refine st302 _ ?_
    show Steps p.tables e below (T302.setTop (mkF m 8 #[.val (.int xc)] [(.ref b301)])) _
    jvm_step X302.here [X302.here.top, hx, (hb hby d_jdk_43_method_46_code_8), X302.method', Bd.returns, Value.isRef, FieldType.isReference]
    first | (intro acts; rw [hr _ acts rfl rfl rfl]) | rw [hr _ _ rfl rfl rfl]
    exact Steps.refl _
  · show Q_toB1 Z xc h0 n0 _ T302.heap _
    rw [e302]
    exact ⟨b301, ky301, rfl, N302, (((Keep.refl h0 ([] : List Addr)).ext E301).wr W302 (Or.inr (Nat.le_trans (Nat.le_refl _) (Nat.le_of_eq g301.symm)))), (Nat.le_trans (Nat.le_refl _) (Nat.le_of_eq g301.symm)), V302⟩
theorem d_jdk_42_method_151_code_0 : decode jdk_42_method_151_code 0 = .ok (.aload_n 0, 1) := by decide +kernel
theorem d_jdk_42_method_151_code_1 : decode jdk_42_method_151_code 1 = .ok (.invokespecial 1, 3) := by decide +kernel
theorem d_jdk_42_method_151_code_4 : decode jdk_42_method_151_code 4 = .ok (.aload_n 0, 1) := by decide +kernel
theorem d_jdk_42_method_151_code_5 : decode jdk_42_method_151_code 5 = .ok (.aload_n 1, 1) := by decide +kernel
theorem d_jdk_42_method_151_code_6 : decode jdk_42_method_151_code 6 = .ok (.putfield 9, 3) := by decide +kernel
theorem d_jdk_42_method_151_code_9 : decode jdk_42_method_151_code 9 = .ok (.aload_n 0, 1) := by decide +kernel
theorem d_jdk_42_method_151_code_10 : decode jdk_42_method_151_code 10 = .ok (.iload_n 2, 1) := by decide +kernel
theorem d_jdk_42_method_151_code_11 : decode jdk_42_method_151_code 11 = .ok (.putfield 15, 3) := by decide +kernel
theorem d_jdk_42_method_151_code_14 : decode jdk_42_method_151_code 14 = .ok (.return_, 1) := by decide +kernel
theorem ef_8 (m : MethodId) (x0 : Addr) (x1 : Addr) (x2 : Int32) : entryFrame m #[(.ref x0), (.ref x1), (.int x2)] 3 = mkF m 0 #[.val (.ref x0), .val (.ref x1), .val (.int x2)] [] := by first | (simp [entryFrame, mkF, argsToLocals, Value.category]; done) | rfl
def Q_strBB (Z : State) (xs : Addr) (tt : Addr) (h0 : Heap) (n0 : Nat) (v : Option Value) (h : Heap) (L : List Loc) : Prop := (v = none) ∧ (Fr n0 L) ∧ (Keep h0 h ([xs] : List Addr)) ∧ (Fld Z h xs "java/lang/String" "value" "[B" (.ref tt)) ∧ (Fld Z h xs "java/lang/String" "coder" "B" (.int (0 : Int32)))
set_option maxRecDepth 65536 in
set_option maxHeartbeats 40000000 in
theorem rm_strBB (l : Launch) (Z : State) (a0 : Array Value) (hw : ∀ d ∈ tables_1, d.before a0 Z = true) (ws : List Jvm.Cond) (xs : Addr) (tt : Addr) (h0 : Heap) (n0 : Nat) (Z0 : n0 ≤ h0.size) (q0 : Exa Z h0 xs "java/lang/String") (q1 : Fld Z h0 xs "java/lang/String" "value" "[B" .null) (q2 : Fld Z h0 xs "java/lang/String" "coder" "B" (.int (0 : Int32))) (q3 : n0 ≤ xs) :
    MetFree l (⟨"java/lang/String", "<init>", "([BB)V"⟩ : MethodName) (head1 (Jvm.Cond.code (⟨"java/lang/String", "<init>", "([BB)V"⟩ : MethodName) jdk_42_method_151_code 3 none :: ws) ({ frames := 1, cells := 0, slots := 0, locals := 12 } : Room)) (fun a₁ U₁ => a₁ = #[(.ref xs), (.ref tt), (.int (0 : Int32))] ∧ Z.Warmed39 U₁.vm ∧ U₁.heap = h0) (fun _ _ _ _ _ => True) (fun _ U₁ o₁ U₂ => ∃ v₁ L₁, o₁ = .returned v₁ ∧ Q_strBB Z xs tt h0 n0 v₁ U₂.heap L₁ ∧ FrameEnd U₁ o₁ U₂ L₁ ({ frames := 1, cells := 0, slots := 0, locals := 12 } : Room).cells ({ frames := 1, cells := 0, slots := 0, locals := 12 } : Room).slots) := by
  refine MetFree.of_bodySF (plainFor_of_name pn_1) hisR ?_
  intro p e s m args below meth c s₁ Bd hml0 hP hK
  obtain ⟨rfl, hZ, hh⟩ := hP
  have hx := Bd.exec
  have hby := Bd.bytes
  have hml : c.maxLocals = 3 := hml0
  have hown : s.vm.findClass "java/lang/String" = some m.cls := findClass_of_methodNamed Bd.named
  have hnm := (name_of_methodNamed Bd.named Bd.method).1
  have X0 : Stand p l e ({ frames := 1, cells := 0, slots := 0, locals := 12 } : Room) s m #[(.ref xs), (.ref tt), (.int (0 : Int32))] below meth c s₁ [] 0 0 := Stand.of_body Bd
  have e0 : s₁.heap = h0 := by rw [← hh, Bd.state]; rfl
  have N0 := Fr.nil n0
  have pre0 : ∀ t, Steps p.tables e below (s₁.setTop (mkF m 0 #[.val (.ref xs), .val (.ref tt), .val (.int (0 : Int32))] [])) t → Steps p.tables e below (s₁.setTop (entryFrame m #[(.ref xs), (.ref tt), (.int (0 : Int32))] 3)) t := fun t k => castTop (ef_8 m xs tt (0 : Int32)) k
  obtain ⟨T301, X301, e301, st301⟩ := initO X0 hx hZ hown (hw _ (List.mem_of_getElem? (i := 21) rfl)) (hw _ (List.mem_of_getElem? (i := 22) rfl)) (hw _ (List.mem_of_getElem? (i := 23) rfl)) e0 (g := (mkF m 1 #[.val (.ref xs), .val (.ref tt), .val (.int (0 : Int32))] [(.ref xs)])) rfl (by rw [hml]; rfl) rfl (hb hby d_jdk_42_method_151_code_1) (by decide) (W := 0) (by show 2 * 0 + _ ≤ _; exact Nat.le_of_eq rfl) (by decide)
  obtain ⟨T302, h302, X302, e302, W302, st302⟩ := putF X301 hx hZ hown (host := "") (Or.inl (hw _ (List.mem_of_getElem? (i := 24) rfl))) Via.refl e301 q1 q0 (Or.inr ⟨(hw _ (List.mem_of_getElem? (i := 25) rfl)), rfl, hnm⟩) (hw _ (List.mem_of_getElem? (i := 12) rfl)) (ty := (.array .byte)) (by decide) rfl rfl (g := (mkF m 6 #[.val (.ref xs), .val (.ref tt), .val (.int (0 : Int32))] [(.ref tt), (.ref xs)])) rfl rfl (hb hby d_jdk_42_method_151_code_6)
  have N302 := Fr.snoc X302 N0 q3
  have F302 : Fld Z h302 xs "java/lang/String" "value" "[B" (.ref tt) := q1.same W302
  have c303 : Fld Z h302 xs "java/lang/String" "coder" "B" (.int (0 : Int32)) := (q2.other W302 (Or.inr (slot_ne (Or.inr (hw _ (List.mem_of_getElem? (i := 27) rfl))) (Or.inr (hw _ (List.mem_of_getElem? (i := 25) rfl))) (by decide) (t := .byte) (t' := (.array .byte)) (by decide) (by decide))))
  have c304 : Exa Z h302 xs "java/lang/String" := (q0.wr W302)
  obtain ⟨T305, h305, X305, e305, W305, st305⟩ := putFN X302 hx hZ hown (hw _ (List.mem_of_getElem? (i := 26) rfl)) Via.refl e302 c303 c304 (Or.inr ⟨(hw _ (List.mem_of_getElem? (i := 27) rfl)), rfl, hnm⟩) (hw _ (List.mem_of_getElem? (i := 12) rfl)) (ty := .byte) (v' := (.int (0 : Int32))) (by decide) rfl rfl (g := (mkF m 11 #[.val (.ref xs), .val (.ref tt), .val (.int (0 : Int32))] [(.int (0 : Int32)), (.ref xs)])) rfl rfl (hb hby d_jdk_42_method_151_code_11)
  have N305 := Fr.snoc X305 N302 q3
  have F305 : Fld Z h305 xs "java/lang/String" "coder" "B" (.int (0 : Int32)) := c303.same W305
  have c306 : Fld Z h305 xs "java/lang/String" "value" "[B" (.ref tt) := (F302.other W305 (Or.inr (slot_ne (Or.inr (hw _ (List.mem_of_getElem? (i := 25) rfl))) (Or.inr (hw _ (List.mem_of_getElem? (i := 27) rfl))) (by decide) (t := (.array .byte)) (t' := .byte) (by decide) (by decide))))
  obtain ⟨fs, hr, hrun, hended, hW, hsame⟩ := X305.leave (v := none) (fun _ => rfl)
  refine ⟨_, _, pre0 _ ?_, hrun, hended, _, _, rfl, ?_, ⟨_, rfl⟩, hW, hsame.mono (by decide) (by decide)⟩
  · refine XS.aloadN X0.here hx rfl (hb hby d_jdk_42_method_151_code_0) rfl rfl ?_
    show Steps p.tables e below (s₁.setTop (mkF m 1 #[.val (.ref xs), .val (.ref tt), .val (.int (0 : Int32))] [(.ref xs)])) _
    refine st301 _ ?_
    show Steps p.tables e below (T301.setTop (mkF m 4 #[.val (.ref xs), .val (.ref tt), .val (.int (0 : Int32))] [])) _
    refine XS.aloadN X301.here hx rfl (hb hby d_jdk_42_method_151_code_4) rfl rfl ?_
    show Steps p.tables e below (T301.setTop (mkF m 5 #[.val (.ref xs), .val (.ref tt), .val (.int (0 : Int32))] [(.ref xs)])) _
    refine XS.aloadN X301.here hx rfl (hb hby d_jdk_42_method_151_code_5) rfl rfl ?_
    show Steps p.tables e below (T301.setTop (mkF m 6 #[.val (.ref xs), .val (.ref tt), .val (.int (0 : Int32))] [(.ref tt), (.ref xs)])) _
    refine st302 _ ?_
    show Steps p.tables e below (T302.setTop (mkF m 9 #[.val (.ref xs), .val (.ref tt), .val (.int (0 : Int32))] [])) _
    refine XS.aloadN X302.here hx rfl (hb hby d_jdk_42_method_151_code_9) rfl rfl ?_
    show Steps p.tables e below (T302.setTop (mkF m 10 #[.val (.ref xs), .val (.ref tt), .val (.int (0 : Int32))] [(.ref xs)])) _
    refine XS.iloadN X302.here hx rfl (hb hby d_jdk_42_method_151_code_10) rfl ?_
    show Steps p.tables e below (T302.setTop (mkF m 11 #[.val (.ref xs), .val (.ref tt), .val (.int (0 : Int32))] [(.int (0 : Int32)), (.ref xs)])) _
    refine st305 _ ?_
    show Steps p.tables e below (T305.setTop (mkF m 14 #[.val (.ref xs), .val (.ref tt), .val (.int (0 : Int32))] [])) _
    exact X305.returnOut hx Bd.returns (hb hby d_jdk_42_method_151_code_14) hr
  · show Q_strBB Z xs tt h0 n0 _ T305.heap _
    rw [e305]
    exact ⟨rfl, N305, (((Keep.refl h0 ([xs] : List Addr)).wr W302 (Or.inl (by simp))).wr W305 (Or.inl (by simp))), c306, F305⟩
theorem d_jdk_42_method_139_code_0 : decode jdk_42_method_139_code 0 = .ok (.getstatic 38, 3) := by decide +kernel
theorem d_jdk_42_method_139_code_3 : decode jdk_42_method_139_code 3 = .ok (.ifCond .eq 23, 3) := by decide +kernel
theorem d_jdk_42_method_139_code_6 : decode jdk_42_method_139_code 6 = .ok (.iload_n 0, 1) := by decide +kernel
theorem d_jdk_42_method_139_code_7 : decode jdk_42_method_139_code 7 = .ok (.invokestatic 1015, 3) := by decide +kernel
theorem pd_8 : parseMethodDescriptor "(C)Z" = some ⟨[.char], some .boolean⟩ := by decide +kernel
theorem d_jdk_42_method_139_code_10 : decode jdk_42_method_139_code 10 = .ok (.ifCond .eq 16, 3) := by decide +kernel
theorem d_jdk_42_method_139_code_13 : decode jdk_42_method_139_code 13 = .ok (.new 10, 3) := by decide +kernel
theorem d_jdk_42_method_139_code_16 : decode jdk_42_method_139_code 16 = .ok (.dup, 1) := by decide +kernel
theorem d_jdk_42_method_139_code_17 : decode jdk_42_method_139_code 17 = .ok (.iload_n 0, 1) := by decide +kernel
theorem d_jdk_42_method_139_code_18 : decode jdk_42_method_139_code 18 = .ok (.invokestatic 1018, 3) := by decide +kernel
theorem pd_9 : parseMethodDescriptor "(C)[B" = some ⟨[.char], some (.array .byte)⟩ := by decide +kernel
theorem d_jdk_42_method_139_code_21 : decode jdk_42_method_139_code 21 = .ok (.iconst 0, 1) := by decide +kernel
theorem d_jdk_42_method_139_code_22 : decode jdk_42_method_139_code 22 = .ok (.invokespecial 209, 3) := by decide +kernel
theorem pd_10 : parseMethodDescriptor "([BB)V" = some ⟨[(.array .byte), .byte], none⟩ := by decide +kernel
theorem d_jdk_42_method_139_code_25 : decode jdk_42_method_139_code 25 = .ok (.areturn, 1) := by decide +kernel
def Q_valC (Z : State) (xc : Int32) (G : Int32) (h0 : Heap) (n0 : Nat) (v : Option Value) (h : Heap) (L : List Loc) : Prop := ∃ (xr : Addr) (tt : Addr) (kt : ClassId), (v = some (.ref xr)) ∧ (Fr n0 L) ∧ (Keep h0 h ([] : List Addr)) ∧ (h0.size ≤ xr) ∧ (h0.size ≤ tt) ∧ (Exa Z h xr "java/lang/String") ∧ (Fld Z h xr "java/lang/String" "value" "[B" (.ref tt)) ∧ (Fld Z h xr "java/lang/String" "coder" "B" (.int (0 : Int32))) ∧ (Arv Z h tt kt .byte (1 : Int32) [(.int (nar .byte (xc.toInt8.toInt32)))] (.int (0 : Int32)))
set_option maxRecDepth 65536 in
set_option maxHeartbeats 40000000 in
theorem rm_valC (l : Launch) (Z : State) (a0 : Array Value) (hw : ∀ d ∈ tables_1, d.before a0 Z = true) (ws : List Jvm.Cond) (xc : Int32) (G : Int32) (h0 : Heap) (n0 : Nat) (Z0 : n0 ≤ h0.size) (q0 : Sta Z Z.heap "java/lang/String" "COMPACT_STRINGS" "Z" (.int G)) (hCS : ¬ (G = (0 : Int32))) (q2 : Old Z n0 h0) (h255 : ¬ (255 : Int32) < xc) :
    MetFree l (⟨"java/lang/String", "valueOf", "(C)Ljava/lang/String;"⟩ : MethodName) (head1 (Jvm.Cond.code (⟨"java/lang/String", "valueOf", "(C)Ljava/lang/String;"⟩ : MethodName) jdk_42_method_139_code 1 (some (.object "java/lang/String")) :: ws) ({ frames := 2, cells := 2, slots := 5, locals := 27 } : Room)) (fun a₁ U₁ => a₁ = #[(.int xc)] ∧ Z.Warmed39 U₁.vm ∧ U₁.heap = h0) (fun _ _ _ _ _ => True) (fun _ U₁ o₁ U₂ => ∃ v₁ L₁, o₁ = .returned v₁ ∧ Q_valC Z xc G h0 n0 v₁ U₂.heap L₁ ∧ FrameEnd U₁ o₁ U₂ L₁ ({ frames := 2, cells := 2, slots := 5, locals := 27 } : Room).cells ({ frames := 2, cells := 2, slots := 5, locals := 27 } : Room).slots) := by
  refine MetFree.of_bodySF (plainFor_of_name pn_1) hisR ?_
  intro p e s m args below meth c s₁ Bd hml0 hP hK
  obtain ⟨rfl, hZ, hh⟩ := hP
  have hx := Bd.exec
  have hby := Bd.bytes
  have hml : c.maxLocals = 1 := hml0
  have hown : s.vm.findClass "java/lang/String" = some m.cls := findClass_of_methodNamed Bd.named
  have hnm := (name_of_methodNamed Bd.named Bd.method).1
  have X0 : Stand p l e ({ frames := 2, cells := 2, slots := 5, locals := 27 } : Room) s m #[(.int xc)] below meth c s₁ [] 0 0 := Stand.of_body Bd
  have e0 : s₁.heap = h0 := by rw [← hh, Bd.state]; rfl
  have N0 := Fr.nil n0
  have pre0 : ∀ t, Steps p.tables e below (s₁.setTop (mkF m 0 #[.val (.int xc)] [])) t → Steps p.tables e below (s₁.setTop (entryFrame m #[(.int xc)] 1)) t := fun t k => castTop (ef_3 m xc) k
  obtain ⟨T301, X301, e301, st301⟩ := getS2 X0 hx hZ hown (host := "") (Or.inl (hw _ (List.mem_of_getElem? (i := 6) rfl))) Via.refl e0 (q0.ext q2.2) (g := (mkF m 0 #[.val (.int xc)] [])) rfl (hb hby d_jdk_42_method_139_code_0)
  obtain ⟨_, _, ⟨T302, L302, k302, n302⟩, -, X302, ⟨Lc302, hQ302, l302, y302, z302⟩, st302⟩ := Jvm.LawKit.callS X301 hx (y := (⟨"java/lang/StringLatin1", "canEncode", "(C)Z"⟩ : MethodName)) hown (mvT hZ (hw _ (List.mem_of_getElem? (i := 7) rfl))) (mvT hZ (hw _ (List.mem_of_getElem? (i := 8) rfl))) (mvT hZ (hw _ (List.mem_of_getElem? (i := 9) rfl))) (mvT hZ (hw _ (List.mem_of_getElem? (i := 10) rfl))) (by decide) (backOf (W := 0) (rm_canEnc l Z a0 hw [] xc h0 n0 Z0 h255) hZ (hw _ (List.mem_of_getElem? (i := 10) rfl)) (hw _ (List.mem_of_getElem? (i := 9) rfl)) (by decide) (by decide)) (g := (mkF m 7 #[.val (.int xc)] [(.int xc)])) rfl (by rw [hml]; rfl) (argsL := [(.int xc)]) (rest := []) (lenOf pd_8 rfl) rfl (by show 2 * 0 + _ ≤ _; exact Nat.le_of_eq rfl) (hb hby d_jdk_42_method_139_code_7) (fun _ _ => ⟨rfl, e301, (by decide : 0 + 0 ≤ _), (by decide : 0 + 0 ≤ _)⟩)
  dsimp only [Pt.U, Pt.locs, Pt.cells, Pt.slots] at X302 l302 y302 z302 st302 hQ302
  replace l302 := l302.symm
  replace y302 := y302.symm
  replace z302 := z302.symm
  subst l302 y302 z302
  obtain ⟨rfl, Nq302, e302⟩ := hQ302
  have N302 := Fr.app N0 Nq302
  obtain ⟨T303, h303, X303, e303, E303, A303, D303, -, st303⟩ := newO X302 hx hZ hown (hw _ (List.mem_of_getElem? (i := 11) rfl)) (hw _ (List.mem_of_getElem? (i := 12) rfl)) (hw _ (List.mem_of_getElem? (i := 4) rfl)) e302 (g := (mkF m 13 #[.val (.int xc)] [])) rfl (hb hby d_jdk_42_method_139_code_13) (by decide) (by decide)
  obtain ⟨b303, g303⟩ : ∃ z, z = h0.size := ⟨_, rfl⟩
  rw [← g303] at A303 D303 st303
  have D303_value : Fld Z h303 b303 "java/lang/String" "value" "[B" .null := D303 (Or.inr (hw _ (List.mem_of_getElem? (i := 25) rfl))) (ty := (.array .byte)) (by decide)
  have D303_coder : Fld Z h303 b303 "java/lang/String" "coder" "B" (.int (0 : Int32)) := D303 (Or.inr (hw _ (List.mem_of_getElem? (i := 27) rfl))) (ty := .byte) (by decide)
  obtain ⟨_, _, ⟨T304, L304, k304, n304⟩, -, X304, ⟨Lc304, hQ304, l304, y304, z304⟩, st304⟩ := Jvm.LawKit.callS X303 hx (y := (⟨"java/lang/StringLatin1", "toBytes", "(C)[B"⟩ : MethodName)) hown (mvT hZ (hw _ (List.mem_of_getElem? (i := 13) rfl))) (mvT hZ (hw _ (List.mem_of_getElem? (i := 14) rfl))) (mvT hZ (hw _ (List.mem_of_getElem? (i := 9) rfl))) (mvT hZ (hw _ (List.mem_of_getElem? (i := 15) rfl))) (by decide) (backOf (W := 2) (rm_toB1 l Z a0 hw [] xc h303 n0 (Nat.le_trans Z0 E303.1) ) hZ (hw _ (List.mem_of_getElem? (i := 15) rfl)) (hw _ (List.mem_of_getElem? (i := 9) rfl)) (by decide) (by decide)) (g := (mkF m 18 #[.val (.int xc)] [(.int xc), (.ref b303), (.ref b303)])) rfl (by rw [hml]; rfl) (argsL := [(.int xc)]) (rest := [(.ref b303), (.ref b303)]) (lenOf pd_9 rfl) rfl (by show 2 * 0 + _ ≤ _; exact Nat.le_of_eq rfl) (hb hby d_jdk_42_method_139_code_18) (fun _ _ => ⟨rfl, e303, (by decide : 1 + 1 ≤ _), (by decide : 4 + 1 ≤ _)⟩)
  dsimp only [Pt.U, Pt.locs, Pt.cells, Pt.slots] at X304 l304 y304 z304 st304 hQ304
  replace l304 := l304.symm
  replace y304 := y304.symm
  replace z304 := z304.symm
  subst l304 y304 z304
  obtain ⟨tt_304, kt_304, rfl, Nq304, K304, f304_0, f304_1⟩ := hQ304
  have N304 := Fr.app N302 Nq304
  have c305 : Exa Z T304.heap b303 "java/lang/String" := (A303.keep K304)
  have c306 : Fld Z T304.heap b303 "java/lang/String" "value" "[B" .null := (D303_value.keep K304 nin0)
  have c307 : Fld Z T304.heap b303 "java/lang/String" "coder" "B" (.int (0 : Int32)) := (D303_coder.keep K304 nin0)
  have ge308 : n0 ≤ b303 := Nat.le_trans Z0 (Nat.le_trans (Nat.le_refl _) (Nat.le_of_eq g303.symm))
  obtain ⟨_, _, ⟨T309, L309, k309, n309⟩, -, X309, ⟨Lc309, hQ309, l309, y309, z309⟩, st309⟩ := X304.specialBack hx (y := (⟨"java/lang/String", "<init>", "([BB)V"⟩ : MethodName)) rfl hown (mvT hZ (hw _ (List.mem_of_getElem? (i := 17) rfl))) (mvT hZ (hw _ (List.mem_of_getElem? (i := 18) rfl))) (mvT hZ (hw _ (List.mem_of_getElem? (i := 20) rfl))) (by decide) (backOf (W := 1) (rm_strBB l Z a0 hw [] b303 tt_304 T304.heap n0 (Nat.le_trans Z0 (Nat.le_trans E303.1 K304.1)) c305 c306 c307 ge308) hZ (hw _ (List.mem_of_getElem? (i := 20) rfl)) (hw _ (List.mem_of_getElem? (i := 4) rfl)) (by decide) (by decide)) (g := (mkF m 22 #[.val (.int xc)] [(.int (0 : Int32)), (.ref tt_304), (.ref b303), (.ref b303)])) rfl (by rw [hml]; rfl) (Steps.refl _) (a := b303) (argsL := [(.ref tt_304), (.int (0 : Int32))]) (rest := [(.ref b303)]) (lenOf pd_10 rfl) rfl (by show 2 * 0 + _ ≤ _; exact Nat.le_of_eq rfl) (hb hby d_jdk_42_method_139_code_22) (fun _ _ => ⟨rfl, rfl, (by decide : 2 + 0 ≤ _), (by decide : 5 + 0 ≤ _)⟩)
  dsimp only [Pt.U, Pt.locs, Pt.cells, Pt.slots] at X309 l309 y309 z309 st309 hQ309
  replace l309 := l309.symm
  replace y309 := y309.symm
  replace z309 := z309.symm
  subst l309 y309 z309
  obtain ⟨rfl, Nq309, K309, f309_0, f309_1⟩ := hQ309
  have N309 := Fr.app N304 Nq309
  have c310 : Exa Z T309.heap b303 "java/lang/String" := (c305.keep K309)
  have ne311 : b303 ≠ tt_304 := Nat.ne_of_lt (Nat.lt_of_lt_of_le A303.lt f304_0)
  have c312 : Arv Z T309.heap tt_304 kt_304 .byte (1 : Int32) [(.int (nar .byte (xc.toInt8.toInt32)))] (.int (0 : Int32)) := (f304_1.keep K309 (ninS (Ne.symm ne311) nin0))
  obtain ⟨fs, hr, hrun, hended, hW, hsame⟩ := X309.leave (v := some (.ref b303)) (fun h => by rw [Bd.returns] at h; cases h)
  refine ⟨_, _, pre0 _ ?_, hrun, hended, _, _, rfl, ?_, ⟨_, rfl⟩, hW, hsame.mono (by decide) (by decide)⟩
  · refine st301 _ ?_
    show Steps p.tables e below (T301.setTop (mkF m 3 #[.val (.int xc)] [(.int G)])) _
    refine XS.ifNo X301.here hx rfl (hb hby d_jdk_42_method_139_code_3) rfl ((if0 _ _).trans (feq (hCS : ¬ (G = (0 : Int32)))).1) ?_
    show Steps p.tables e below (T301.setTop (mkF m 6 #[.val (.int xc)] [])) _
    refine XS.iloadN X301.here hx rfl (hb hby d_jdk_42_method_139_code_6) rfl ?_
    show Steps p.tables e below (T301.setTop (mkF m 7 #[.val (.int xc)] [(.int xc)])) _
    refine st302 _ ?_
    show Steps p.tables e below (T302.setTop (mkF m 10 #[.val (.int xc)] [(.int (1 : Int32))])) _
    refine XS.ifNo X302.here hx rfl (hb hby d_jdk_42_method_139_code_10) rfl ((if0 _ _).trans (feq ((by decide) : ¬ ((1 : Int32) = (0 : Int32)))).1) ?_
    show Steps p.tables e below (T302.setTop (mkF m 13 #[.val (.int xc)] [])) _
    refine st303 _ ?_
    show Steps p.tables e below (T303.setTop (mkF m 16 #[.val (.int xc)] [(.ref b303)])) _
    refine XS.dup X303.here hx rfl (hb hby d_jdk_42_method_139_code_16) rfl rfl ?_
    show Steps p.tables e below (T303.setTop (mkF m 17 #[.val (.int xc)] [(.ref b303), (.ref b303)])) _
    refine XS.iloadN X303.here hx rfl (hb hby d_jdk_42_method_139_code_17) rfl ?_
    show Steps p.tables e below (T303.setTop (mkF m 18 #[.val (.int xc)] [(.int xc), (.ref b303), (.ref b303)])) _
    refine st304 _ ?_
    show Steps p.tables e below (T304.setTop (mkF m 21 #[.val (.int xc)] [(.ref tt_304), (.ref b303), (.ref b303)])) _
    refine XS.iconst X304.here hx rfl (hb hby d_jdk_42_method_139_code_21) ?_
    show Steps p.tables e below (T304.setTop (mkF m 22 #[.val (.int xc)] [(.int (0 : Int32)), (.ref tt_304), (.ref b303), (.ref b303)])) _
    refine st309.trans ?_
    show Steps p.tables e below (T309.setTop (mkF m 25 #[.val (.int xc)] [(.ref b303)])) _
    jvm_step X309.here [X309.here.top, hx, (hb hby d_jdk_42_method_139_code_25), X309.method', Bd.returns, Value.isRef, FieldType.isReference]
    first | (intro acts; rw [hr _ acts rfl rfl rfl]) | rw [hr _ _ rfl rfl rfl]
    exact Steps.refl _
  · show Q_valC Z xc G h0 n0 _ T309.heap _
    exact ⟨b303, tt_304, kt_304, rfl, N309, ((((Keep.refl h0 ([] : List Addr)).ext E303).trans K304 all0).trans K309 (allS (Or.inr (Nat.le_trans (Nat.le_refl _) (Nat.le_of_eq g303.symm))) all0)), (Nat.le_trans (Nat.le_refl _) (Nat.le_of_eq g303.symm)), (Nat.le_trans E303.1 f304_0), c310, f309_0, f309_1, c312⟩
theorem own_cod1 (x : Int32) (h : ¬ (255 : Int32) < x) : StrChars.Road.CodA [x] 0 (1 : Int32) [(.int (nar .byte (x.toInt8.toInt32)))] := Or.inl ⟨rfl, rfl, by rw [own_nb]; rfl, fun c hc => by
  simp only [List.mem_cons, List.not_mem_nil, or_false] at hc; subst hc; exact h⟩
def own_W (c : Int32) : Prop := ¬ c < 0 ∧ ¬ (65535 : Int32) < c
theorem own_codw {cs : List Int32} (h : ∃ c ∈ cs, (255 : Int32) < c) : StrChars.Road.CodA cs 1 (Int32.ofNat (2 * cs.length)) (StrChars.Road.wideBytes cs) := Or.inr ⟨rfl, rfl, rfl, h⟩
theorem own_Wn {c : Int32} (h : own_W c) : nar .char c = c := own_nc h.1 h.2
theorem own_lat8 (x : Int32) : nar .char ((x &&& (255 : Int32)).toUInt32.toUInt16.toUInt32.toInt32) = ((x &&& (255 : Int32)).toUInt32.toUInt16.toUInt32.toInt32) ∧ ¬ ((x &&& (255 : Int32)).toUInt32.toUInt16.toUInt32.toInt32) < 0 ∧ ¬ (255 : Int32) < ((x &&& (255 : Int32)).toUInt32.toUInt16.toUInt32.toInt32) := by
  have q := own_i2c (x &&& (255 : Int32))
  refine ⟨own_nc q.1 q.2, q.1, ?_⟩
  have h1 := c_and x 255 (by decide)
  have h2 := c_i2c (x &&& (255 : Int32))
  have e1 : (255 : Int32).toInt = 255 := rfl
  rw [Int32.lt_iff_toInt_lt]
  omega
theorem own_mod4 (x : Int32) : ∃ n : Nat, ((x &&& (2147483647 : Int32)) % (4 : Int32)) = Int32.ofNat n ∧ n ≤ 3 := by
  have h1 := c_and x 2147483647 (by decide)
  have h2 := (c_irem (x &&& (2147483647 : Int32)) 4 4 rfl).1 h1.1
  refine ⟨((x &&& (2147483647 : Int32)) % (4 : Int32)).toInt.toNat, Int32.toInt_inj.mp ?_, by omega⟩
  rw [own_toInt (by omega)]
  omega
theorem own_modn (x : Int32) {d : Nat} (h0 : 0 < d) (hd : d < 2 ^ 31) : ∃ n : Nat, ((x &&& (2147483647 : Int32)) % (Int32.ofNat d)) = Int32.ofNat n ∧ n < d := by
  have h1 := c_and x 2147483647 (by decide)
  have e := own_toInt hd
  have h2 := (c_iremV (x &&& (2147483647 : Int32)) (Int32.ofNat d)).1 h1.1 (by omega)
  refine ⟨((x &&& (2147483647 : Int32)) % (Int32.ofNat d)).toInt.toNat, Int32.toInt_inj.mp ?_, by omega⟩
  rw [own_toInt (by omega)]
  omega
theorem own_sub4 {n : Nat} (h : n ≤ 3) : (4 : Int32) - Int32.ofNat n = Int32.ofNat (4 - n) := by
  apply Int32.toInt_inj.mp
  have e1 := own_toInt (j := n) (by omega)
  have e2 := own_toInt (j := 4 - n) (by omega)
  have e3 := c_isub 4 (Int32.ofNat n)
  have e4 := rng32 (4 - Int32.ofNat n)
  have e5 : (4 : Int32).toInt = 4 := rfl
  omega
theorem own_nz {d : Nat} (h0 : 0 < d) (hd : d < 2 ^ 31) : Int32.ofNat d ≠ 0 := fun q => by
  have e := own_toInt hd
  rw [q] at e
  have e0 : (0 : Int32).toInt = 0 := rfl
  omega
theorem own_addn (a b : Nat) : Int32.ofNat a + Int32.ofNat b = Int32.ofNat (a + b) := (Int32.ofNat_add a b).symm
theorem own_shr1 {n : Nat} (h : 2 * n < 2 ^ 31) : Int32.ofNat (2 * n) >>> ((1 : Int32) &&& 31) = Int32.ofNat n := by
  apply Int32.toInt_inj.mp
  rw [c_ishr _ 1 1 rfl, own_toInt h, own_toInt (by omega)]
  show ((2 * n : Nat) : Int) / 2 = _
  omega
theorem own_or3 {a b c : Nat} (ha : a < 2 ^ 31) (hb : b < 2 ^ 31) (hc : c < 2 ^ 31) : ¬ ((Int32.ofNat a ||| Int32.ofNat b) ||| Int32.ofNat c) < (0 : Int32) := by
  have e1 := own_toInt ha
  have e2 := own_toInt hb
  have e3 := own_toInt hc
  have h1 := c_or0 (Int32.ofNat a) (Int32.ofNat b) (by omega) (by omega)
  have h2 := c_or0 (Int32.ofNat a ||| Int32.ofNat b) (Int32.ofNat c) (by omega) (by omega)
  have e0 : (0 : Int32).toInt = 0 := rfl
  rw [Int32.lt_iff_toInt_lt]
  omega
theorem own_subm {a b : Nat} (h : b ≤ a) (ha : a < 2 ^ 31) : Int32.ofNat a - Int32.ofNat b = Int32.ofNat (a - b) := by
  apply Int32.toInt_inj.mp
  have e1 := own_toInt (j := a) ha
  have e2 := own_toInt (j := b) (by omega)
  have e3 := own_toInt (j := a - b) (by omega)
  have e4 := c_isub (Int32.ofNat a) (Int32.ofNat b)
  have e6 := rng32 (Int32.ofNat a - Int32.ofNat b)
  omega
def own_t0 : List Int32 := List.replicate 64 0
theorem own_t3len (a b c : Int32) : (((own_t0.set 0 a).set 1 b).set 2 c).length = 64 := by
  rw [List.length_set, List.length_set, List.length_set]; rfl
theorem own_t3W {a b c : Int32} (ha : own_W a) (hb : own_W b) (hc : own_W c) : ∀ d ∈ ((own_t0.set 0 a).set 1 b).set 2 c, own_W d := by
  intro d hd
  rcases List.mem_or_eq_of_mem_set hd with hd | rfl
  · rcases List.mem_or_eq_of_mem_set hd with hd | rfl
    · rcases List.mem_or_eq_of_mem_set hd with hd | rfl
      · have e : d = 0 := List.eq_of_mem_replicate hd
        rw [e]; exact ⟨by decide, by decide⟩
      · exact ha
    · exact hb
  · exact hc
theorem own_t3get (a b c : Int32) : ∀ q, q < 3 → (((own_t0.set 0 a).set 1 b).set 2 c).getD q 0 = ([a, b, c] : List Int32).getD q 0 := by
  intro q hq
  have h : q = 0 ∨ q = 1 ∨ q = 2 := by omega
  rcases h with rfl | rfl | rfl <;> rfl
theorem own_bool01 {x : Int32} (h : x = (0 : Int32) ∨ x = (1 : Int32)) : nar .boolean x = x := by
  rcases h with rfl | rfl <;> rfl

theorem d_jdk_41_method_13_code_0 : decode jdk_41_method_13_code 0 = .ok (.iload_n 2, 1) := by decide +kernel
theorem d_jdk_41_method_13_code_1 : decode jdk_41_method_13_code 1 = .ok (.iload_n 0, 1) := by decide +kernel
theorem d_jdk_41_method_13_code_2 : decode jdk_41_method_13_code 2 = .ok (.ior, 1) := by decide +kernel
theorem d_jdk_41_method_13_code_3 : decode jdk_41_method_13_code 3 = .ok (.iload_n 1, 1) := by decide +kernel
theorem d_jdk_41_method_13_code_4 : decode jdk_41_method_13_code 4 = .ok (.ior, 1) := by decide +kernel
theorem d_jdk_41_method_13_code_5 : decode jdk_41_method_13_code 5 = .ok (.ifCond .lt 10, 3) := by decide +kernel
theorem d_jdk_41_method_13_code_8 : decode jdk_41_method_13_code 8 = .ok (.iload_n 1, 1) := by decide +kernel
theorem d_jdk_41_method_13_code_9 : decode jdk_41_method_13_code 9 = .ok (.iload_n 2, 1) := by decide +kernel
theorem d_jdk_41_method_13_code_10 : decode jdk_41_method_13_code 10 = .ok (.iload_n 0, 1) := by decide +kernel
theorem d_jdk_41_method_13_code_11 : decode jdk_41_method_13_code 11 = .ok (.isub, 1) := by decide +kernel
theorem d_jdk_41_method_13_code_12 : decode jdk_41_method_13_code 12 = .ok (.if_icmp .le 11, 3) := by decide +kernel
theorem d_jdk_41_method_13_code_23 : decode jdk_41_method_13_code 23 = .ok (.iload_n 0, 1) := by decide +kernel
theorem d_jdk_41_method_13_code_24 : decode jdk_41_method_13_code 24 = .ok (.ireturn, 1) := by decide +kernel
theorem ef_9 (m : MethodId) (x0 : Int32) (x1 : Int32) (x2 : Int32) (x3 : Value) (r3 : x3.isRef = true) : entryFrame m #[(.int x0), (.int x1), (.int x2), x3] 4 = mkF m 0 #[.val (.int x0), .val (.int x1), .val (.int x2), .val x3] [] := by cases x3 <;> first | (simp [Value.isRef] at r3; done) | rfl | (simp [entryFrame, mkF, argsToLocals, Value.category]; done) | rfl
theorem pn_3 : plainName "jdk/internal/util/Preconditions" = true := by first | (simp [plainName, overriddenIn]; done) | decide +kernel
def Q_cfis (Z : State) (o : Nat) (n : Nat) (nl : Nat) (fm : Value) (h0 : Heap) (n0 : Nat) (v : Option Value) (h : Heap) (L : List Loc) : Prop := (v = some (.int (Int32.ofNat o))) ∧ (Fr n0 L) ∧ (h = h0)
set_option maxRecDepth 65536 in
set_option maxHeartbeats 40000000 in
theorem rm_cfis (l : Launch) (Z : State) (a0 : Array Value) (hw : ∀ d ∈ tables_1, d.before a0 Z = true) (ws : List Jvm.Cond) (o : Nat) (n : Nat) (nl : Nat) (fm : Value) (h0 : Heap) (n0 : Nat) (Z0 : n0 ≤ h0.size) (hFM : fm.isRef = true) (hon : o + n ≤ nl) (hN : nl < 2 ^ 31) :
    MetFree l (⟨"jdk/internal/util/Preconditions", "checkFromIndexSize", "(IIILjava/util/function/BiFunction;)I"⟩ : MethodName) (head1 (Jvm.Cond.code (⟨"jdk/internal/util/Preconditions", "checkFromIndexSize", "(IIILjava/util/function/BiFunction;)I"⟩ : MethodName) jdk_41_method_13_code 4 (some .int) :: ws) ({ frames := 0, cells := 0, slots := 0, locals := 0 } : Room)) (fun a₁ U₁ => a₁ = #[(.int (Int32.ofNat o)), (.int (Int32.ofNat n)), (.int (Int32.ofNat nl)), fm] ∧ Z.Warmed39 U₁.vm ∧ U₁.heap = h0) (fun _ _ _ _ _ => True) (fun _ U₁ o₁ U₂ => ∃ v₁ L₁, o₁ = .returned v₁ ∧ Q_cfis Z o n nl fm h0 n0 v₁ U₂.heap L₁ ∧ FrameEnd U₁ o₁ U₂ L₁ ({ frames := 0, cells := 0, slots := 0, locals := 0 } : Room).cells ({ frames := 0, cells := 0, slots := 0, locals := 0 } : Room).slots) := by
  refine MetFree.of_bodySF (plainFor_of_name pn_3) hisR ?_
  intro p e s m args below meth c s₁ Bd hml0 hP hK
  obtain ⟨rfl, hZ, hh⟩ := hP
  have hx := Bd.exec
  have hby := Bd.bytes
  have hml : c.maxLocals = 4 := hml0
  have hown : s.vm.findClass "jdk/internal/util/Preconditions" = some m.cls := findClass_of_methodNamed Bd.named
  have hnm := (name_of_methodNamed Bd.named Bd.method).1
  have X0 : Stand p l e ({ frames := 0, cells := 0, slots := 0, locals := 0 } : Room) s m #[(.int (Int32.ofNat o)), (.int (Int32.ofNat n)), (.int (Int32.ofNat nl)), fm] below meth c s₁ [] 0 0 := Stand.of_body Bd
  have e0 : s₁.heap = h0 := by rw [← hh, Bd.state]; rfl
  have N0 := Fr.nil n0
  have pre0 : ∀ t, Steps p.tables e below (s₁.setTop (mkF m 0 #[.val (.int (Int32.ofNat o)), .val (.int (Int32.ofNat n)), .val (.int (Int32.ofNat nl)), .val fm] [])) t → Steps p.tables e below (s₁.setTop (entryFrame m #[(.int (Int32.ofNat o)), (.int (Int32.ofNat n)), (.int (Int32.ofNat nl)), fm] 4)) t := fun t k => castTop (ef_9 m (Int32.ofNat o) (Int32.ofNat n) (Int32.ofNat nl) fm hFM) k
  obtain ⟨fs, hr, hrun, hended, hW, hsame⟩ := X0.leave (v := some (.int (Int32.ofNat o))) (fun h => by rw [Bd.returns] at h; cases h)
  refine ⟨_, _, pre0 _ ?_, hrun, hended, _, _, rfl, ?_, ⟨_, rfl⟩, hW, hsame.mono (by decide) (by decide)⟩
  · refine XS.iloadN X0.here hx rfl (hb hby d_jdk_41_method_13_code_0) rfl ?_
    show Steps p.tables e below (s₁.setTop (mkF m 1 #[.val (.int (Int32.ofNat o)), .val (.int (Int32.ofNat n)), .val (.int (Int32.ofNat nl)), .val fm] [(.int (Int32.ofNat nl))])) _
    refine XS.iloadN X0.here hx rfl (hb hby d_jdk_41_method_13_code_1) rfl ?_
    show Steps p.tables e below (s₁.setTop (mkF m 2 #[.val (.int (Int32.ofNat o)), .val (.int (Int32.ofNat n)), .val (.int (Int32.ofNat nl)), .val fm] [(.int (Int32.ofNat o)), (.int (Int32.ofNat nl))])) _
    refine XS.ior X0.here hx rfl (hb hby d_jdk_41_method_13_code_2) rfl ?_
    show Steps p.tables e below (s₁.setTop (mkF m 3 #[.val (.int (Int32.ofNat o)), .val (.int (Int32.ofNat n)), .val (.int (Int32.ofNat nl)), .val fm] [(.int ((Int32.ofNat nl) ||| (Int32.ofNat o)))])) _
    refine XS.iloadN X0.here hx rfl (hb hby d_jdk_41_method_13_code_3) rfl ?_
    show Steps p.tables e below (s₁.setTop (mkF m 4 #[.val (.int (Int32.ofNat o)), .val (.int (Int32.ofNat n)), .val (.int (Int32.ofNat nl)), .val fm] [(.int (Int32.ofNat n)), (.int ((Int32.ofNat nl) ||| (Int32.ofNat o)))])) _
    refine XS.ior X0.here hx rfl (hb hby d_jdk_41_method_13_code_4) rfl ?_
    show Steps p.tables e below (s₁.setTop (mkF m 5 #[.val (.int (Int32.ofNat o)), .val (.int (Int32.ofNat n)), .val (.int (Int32.ofNat nl)), .val fm] [(.int (((Int32.ofNat nl) ||| (Int32.ofNat o)) ||| (Int32.ofNat n)))])) _
    refine XS.ifNo X0.here hx rfl (hb hby d_jdk_41_method_13_code_5) rfl ((if0 _ _).trans (flt ((own_or3 (by omega) (by omega) (by omega)) : ¬ ((((Int32.ofNat nl) ||| (Int32.ofNat o)) ||| (Int32.ofNat n)) < (0 : Int32)))).1) ?_
    show Steps p.tables e below (s₁.setTop (mkF m 8 #[.val (.int (Int32.ofNat o)), .val (.int (Int32.ofNat n)), .val (.int (Int32.ofNat nl)), .val fm] [])) _
    refine XS.iloadN X0.here hx rfl (hb hby d_jdk_41_method_13_code_8) rfl ?_
    show Steps p.tables e below (s₁.setTop (mkF m 9 #[.val (.int (Int32.ofNat o)), .val (.int (Int32.ofNat n)), .val (.int (Int32.ofNat nl)), .val fm] [(.int (Int32.ofNat n))])) _
    refine XS.iloadN X0.here hx rfl (hb hby d_jdk_41_method_13_code_9) rfl ?_
    show Steps p.tables e below (s₁.setTop (mkF m 10 #[.val (.int (Int32.ofNat o)), .val (.int (Int32.ofNat n)), .val (.int (Int32.ofNat nl)), .val fm] [(.int (Int32.ofNat nl)), (.int (Int32.ofNat n))])) _
    refine XS.iloadN X0.here hx rfl (hb hby d_jdk_41_method_13_code_10) rfl ?_
    show Steps p.tables e below (s₁.setTop (mkF m 11 #[.val (.int (Int32.ofNat o)), .val (.int (Int32.ofNat n)), .val (.int (Int32.ofNat nl)), .val fm] [(.int (Int32.ofNat o)), (.int (Int32.ofNat nl)), (.int (Int32.ofNat n))])) _
    refine XS.isub X0.here hx rfl (hb hby d_jdk_41_method_13_code_11) rfl ?_
    show Steps p.tables e below (s₁.setTop (mkF m 12 #[.val (.int (Int32.ofNat o)), .val (.int (Int32.ofNat n)), .val (.int (Int32.ofNat nl)), .val fm] [(.int ((Int32.ofNat nl) - (Int32.ofNat o))), (.int (Int32.ofNat n))])) _
    rw [own_subm (show o ≤ nl by omega) hN]
    show Steps p.tables e below (s₁.setTop (mkF m 12 #[.val (.int (Int32.ofNat o)), .val (.int (Int32.ofNat n)), .val (.int (Int32.ofNat nl)), .val fm] [(.int (Int32.ofNat (nl - o))), (.int (Int32.ofNat n))])) _
    refine XS.icmpYes X0.here hx rfl (pc0 := 12) (pc' := 23) rfl (hb hby d_jdk_41_method_13_code_12) rfl (flt ((own_nlt (by omega) (by omega)) : ¬ ((Int32.ofNat (nl - o)) < (Int32.ofNat n)))).2.2.2 (by decide) (by decide) ?_
    show Steps p.tables e below (s₁.setTop (mkF m 23 #[.val (.int (Int32.ofNat o)), .val (.int (Int32.ofNat n)), .val (.int (Int32.ofNat nl)), .val fm] [])) _
    refine XS.iloadN X0.here hx rfl (hb hby d_jdk_41_method_13_code_23) rfl ?_
    show Steps p.tables e below (s₁.setTop (mkF m 24 #[.val (.int (Int32.ofNat o)), .val (.int (Int32.ofNat n)), .val (.int (Int32.ofNat nl)), .val fm] [(.int (Int32.ofNat o))])) _
    exact retI X0 hx Bd.returns (hb hby d_jdk_41_method_13_code_24) hr
  · show Q_cfis Z o n nl fm h0 n0 _ s₁.heap _
    rw [e0]
    exact ⟨rfl, N0, rfl⟩
theorem d_jdk_42_method_157_code_0 : decode jdk_42_method_157_code 0 = .ok (.iload_n 0, 1) := by decide +kernel
theorem d_jdk_42_method_157_code_1 : decode jdk_42_method_157_code 1 = .ok (.iload_n 1, 1) := by decide +kernel
theorem d_jdk_42_method_157_code_2 : decode jdk_42_method_157_code 2 = .ok (.iload_n 2, 1) := by decide +kernel
theorem d_jdk_42_method_157_code_3 : decode jdk_42_method_157_code 3 = .ok (.getstatic 1053, 3) := by decide +kernel
theorem d_jdk_42_method_157_code_6 : decode jdk_42_method_157_code 6 = .ok (.invokestatic 1065, 3) := by decide +kernel
theorem pd_11 : parseMethodDescriptor "(IIILjava/util/function/BiFunction;)I" = some ⟨[.int, .int, .int, (.object "java/util/function/BiFunction")], some .int⟩ := by decide +kernel
theorem d_jdk_42_method_157_code_9 : decode jdk_42_method_157_code 9 = .ok (.ireturn, 1) := by decide +kernel
theorem ef_10 (m : MethodId) (x0 : Int32) (x1 : Int32) (x2 : Int32) : entryFrame m #[(.int x0), (.int x1), (.int x2)] 3 = mkF m 0 #[.val (.int x0), .val (.int x1), .val (.int x2)] [] := by first | (simp [entryFrame, mkF, argsToLocals, Value.category]; done) | rfl
def Q_cboc (Z : State) (o : Nat) (n : Nat) (nl : Nat) (fm : Value) (h0 : Heap) (n0 : Nat) (v : Option Value) (h : Heap) (L : List Loc) : Prop := (v = some (.int (Int32.ofNat o))) ∧ (Fr n0 L) ∧ (h = h0)
set_option maxRecDepth 65536 in
set_option maxHeartbeats 40000000 in
theorem rm_cboc (l : Launch) (Z : State) (a0 : Array Value) (hw : ∀ d ∈ tables_1, d.before a0 Z = true) (ws : List Jvm.Cond) (o : Nat) (n : Nat) (nl : Nat) (fm : Value) (h0 : Heap) (n0 : Nat) (Z0 : n0 ≤ h0.size) (q0 : Sta Z Z.heap "jdk/internal/util/Preconditions" "SIOOBE_FORMATTER" "Ljava/util/function/BiFunction;" fm) (hFM : fm.isRef = true) (q2 : Old Z n0 h0) (hon : o + n ≤ nl) (hN : nl < 2 ^ 31) :
    MetFree l (⟨"java/lang/String", "checkBoundsOffCount", "(III)I"⟩ : MethodName) (head1 (Jvm.Cond.code (⟨"java/lang/String", "checkBoundsOffCount", "(III)I"⟩ : MethodName) jdk_42_method_157_code 3 (some .int) :: ws) ({ frames := 1, cells := 0, slots := 0, locals := 15 } : Room)) (fun a₁ U₁ => a₁ = #[(.int (Int32.ofNat o)), (.int (Int32.ofNat n)), (.int (Int32.ofNat nl))] ∧ Z.Warmed39 U₁.vm ∧ U₁.heap = h0) (fun _ _ _ _ _ => True) (fun _ U₁ o₁ U₂ => ∃ v₁ L₁, o₁ = .returned v₁ ∧ Q_cboc Z o n nl fm h0 n0 v₁ U₂.heap L₁ ∧ FrameEnd U₁ o₁ U₂ L₁ ({ frames := 1, cells := 0, slots := 0, locals := 15 } : Room).cells ({ frames := 1, cells := 0, slots := 0, locals := 15 } : Room).slots) := by
  refine MetFree.of_bodySF (plainFor_of_name pn_1) hisR ?_
  intro p e s m args below meth c s₁ Bd hml0 hP hK
  obtain ⟨rfl, hZ, hh⟩ := hP
  have hx := Bd.exec
  have hby := Bd.bytes
  have hml : c.maxLocals = 3 := hml0
  have hown : s.vm.findClass "java/lang/String" = some m.cls := findClass_of_methodNamed Bd.named
  have hnm := (name_of_methodNamed Bd.named Bd.method).1
  have X0 : Stand p l e ({ frames := 1, cells := 0, slots := 0, locals := 15 } : Room) s m #[(.int (Int32.ofNat o)), (.int (Int32.ofNat n)), (.int (Int32.ofNat nl))] below meth c s₁ [] 0 0 := Stand.of_body Bd
  have e0 : s₁.heap = h0 := by rw [← hh, Bd.state]; rfl
  have N0 := Fr.nil n0
  have pre0 : ∀ t, Steps p.tables e below (s₁.setTop (mkF m 0 #[.val (.int (Int32.ofNat o)), .val (.int (Int32.ofNat n)), .val (.int (Int32.ofNat nl))] [])) t → Steps p.tables e below (s₁.setTop (entryFrame m #[(.int (Int32.ofNat o)), (.int (Int32.ofNat n)), (.int (Int32.ofNat nl))] 3)) t := fun t k => castTop (ef_10 m (Int32.ofNat o) (Int32.ofNat n) (Int32.ofNat nl)) k
  obtain ⟨T301, X301, e301, st301⟩ := getS2 X0 hx hZ hown (host := "") (Or.inl (hw _ (List.mem_of_getElem? (i := 116) rfl))) Via.refl e0 (q0.ext q2.2) (g := (mkF m 3 #[.val (.int (Int32.ofNat o)), .val (.int (Int32.ofNat n)), .val (.int (Int32.ofNat nl))] [(.int (Int32.ofNat nl)), (.int (Int32.ofNat n)), (.int (Int32.ofNat o))])) rfl (hb hby d_jdk_42_method_157_code_3)
  obtain ⟨_, _, ⟨T302, L302, k302, n302⟩, -, X302, ⟨Lc302, hQ302, l302, y302, z302⟩, st302⟩ := Jvm.LawKit.callS X301 hx (y := (⟨"jdk/internal/util/Preconditions", "checkFromIndexSize", "(IIILjava/util/function/BiFunction;)I"⟩ : MethodName)) hown (mvT hZ (hw _ (List.mem_of_getElem? (i := 118) rfl))) (mvT hZ (hw _ (List.mem_of_getElem? (i := 119) rfl))) (mvT hZ (hw _ (List.mem_of_getElem? (i := 117) rfl))) (mvT hZ (hw _ (List.mem_of_getElem? (i := 120) rfl))) (by decide) (backOf (W := 0) (rm_cfis l Z a0 hw [] o n nl fm h0 n0 Z0 hFM hon hN) hZ (hw _ (List.mem_of_getElem? (i := 120) rfl)) (hw _ (List.mem_of_getElem? (i := 117) rfl)) (by decide) (by decide)) (g := (mkF m 6 #[.val (.int (Int32.ofNat o)), .val (.int (Int32.ofNat n)), .val (.int (Int32.ofNat nl))] [fm, (.int (Int32.ofNat nl)), (.int (Int32.ofNat n)), (.int (Int32.ofNat o))])) rfl (by rw [hml]; rfl) (argsL := [(.int (Int32.ofNat o)), (.int (Int32.ofNat n)), (.int (Int32.ofNat nl)), fm]) (rest := []) (lenOf pd_11 rfl) rfl (by show 2 * 0 + _ ≤ _; exact Nat.le_of_eq rfl) (hb hby d_jdk_42_method_157_code_6) (fun _ _ => ⟨rfl, e301, (by decide : 0 + 0 ≤ _), (by decide : 0 + 0 ≤ _)⟩)
  dsimp only [Pt.U, Pt.locs, Pt.cells, Pt.slots] at X302 l302 y302 z302 st302 hQ302
  replace l302 := l302.symm
  replace y302 := y302.symm
  replace z302 := z302.symm
  subst l302 y302 z302
  obtain ⟨rfl, Nq302, e302⟩ := hQ302
  have N302 := Fr.app N0 Nq302
  obtain ⟨fs, hr, hrun, hended, hW, hsame⟩ := X302.leave (v := some (.int (Int32.ofNat o))) (fun h => by rw [Bd.returns] at h; cases h)
  refine ⟨_, _, pre0 _ ?_, hrun, hended, _, _, rfl, ?_, ⟨_, rfl⟩, hW, hsame.mono (by decide) (by decide)⟩
  · refine XS.iloadN X0.here hx rfl (hb hby d_jdk_42_method_157_code_0) rfl ?_
    show Steps p.tables e below (s₁.setTop (mkF m 1 #[.val (.int (Int32.ofNat o)), .val (.int (Int32.ofNat n)), .val (.int (Int32.ofNat nl))] [(.int (Int32.ofNat o))])) _
    refine XS.iloadN X0.here hx rfl (hb hby d_jdk_42_method_157_code_1) rfl ?_
    show Steps p.tables e below (s₁.setTop (mkF m 2 #[.val (.int (Int32.ofNat o)), .val (.int (Int32.ofNat n)), .val (.int (Int32.ofNat nl))] [(.int (Int32.ofNat n)), (.int (Int32.ofNat o))])) _
    refine XS.iloadN X0.here hx rfl (hb hby d_jdk_42_method_157_code_2) rfl ?_
    show Steps p.tables e below (s₁.setTop (mkF m 3 #[.val (.int (Int32.ofNat o)), .val (.int (Int32.ofNat n)), .val (.int (Int32.ofNat nl))] [(.int (Int32.ofNat nl)), (.int (Int32.ofNat n)), (.int (Int32.ofNat o))])) _
    refine st301 _ ?_
    show Steps p.tables e below (T301.setTop (mkF m 6 #[.val (.int (Int32.ofNat o)), .val (.int (Int32.ofNat n)), .val (.int (Int32.ofNat nl))] [fm, (.int (Int32.ofNat nl)), (.int (Int32.ofNat n)), (.int (Int32.ofNat o))])) _
    refine st302 _ ?_
    show Steps p.tables e below (T302.setTop (mkF m 9 #[.val (.int (Int32.ofNat o)), .val (.int (Int32.ofNat n)), .val (.int (Int32.ofNat nl))] [(.int (Int32.ofNat o))])) _
    exact retI X302 hx Bd.returns (hb hby d_jdk_42_method_157_code_9) hr
  · show Q_cboc Z o n nl fm h0 n0 _ T302.heap _
    rw [e302]
    exact ⟨rfl, N302, rfl⟩
theorem d_jdk_42_method_5_code_0 : decode jdk_42_method_5_code 0 = .ok (.iload_n 1, 1) := by decide +kernel
theorem d_jdk_42_method_5_code_1 : decode jdk_42_method_5_code 1 = .ok (.iload_n 2, 1) := by decide +kernel
theorem d_jdk_42_method_5_code_2 : decode jdk_42_method_5_code 2 = .ok (.aload_n 0, 1) := by decide +kernel
theorem d_jdk_42_method_5_code_3 : decode jdk_42_method_5_code 3 = .ok (.arraylength, 1) := by decide +kernel
theorem d_jdk_42_method_5_code_4 : decode jdk_42_method_5_code 4 = .ok (.invokestatic 34, 3) := by decide +kernel
theorem pd_12 : parseMethodDescriptor "(III)I" = some ⟨[.int, .int, .int], some .int⟩ := by decide +kernel
theorem d_jdk_42_method_5_code_7 : decode jdk_42_method_5_code 7 = .ok (.pop, 1) := by decide +kernel
theorem d_jdk_42_method_5_code_8 : decode jdk_42_method_5_code 8 = .ok (.aconst_null, 1) := by decide +kernel
theorem d_jdk_42_method_5_code_9 : decode jdk_42_method_5_code 9 = .ok (.areturn, 1) := by decide +kernel
def Q_rchk (Z : State) (ca : Addr) (kc : ClassId) (cs : List Int32) (dv : Value) (o : Nat) (n : Nat) (fm : Value) (h0 : Heap) (n0 : Nat) (v : Option Value) (h : Heap) (L : List Loc) : Prop := (v = some .null) ∧ (Fr n0 L) ∧ (h = h0)
set_option maxRecDepth 65536 in
set_option maxHeartbeats 40000000 in
theorem rm_rchk (l : Launch) (Z : State) (a0 : Array Value) (hw : ∀ d ∈ tables_1, d.before a0 Z = true) (ws : List Jvm.Cond) (ca : Addr) (kc : ClassId) (cs : List Int32) (dv : Value) (o : Nat) (n : Nat) (fm : Value) (h0 : Heap) (n0 : Nat) (Z0 : n0 ≤ h0.size) (q0 : Sta Z Z.heap "jdk/internal/util/Preconditions" "SIOOBE_FORMATTER" "Ljava/util/function/BiFunction;" fm) (hFM : fm.isRef = true) (q2 : Old Z n0 h0) (q3 : Arv Z h0 ca kc .char (Int32.ofNat cs.length) (cs.map Value.int) dv) (hon : o + n ≤ cs.length) (hN : cs.length < 2 ^ 31) :
    MetFree l (⟨"java/lang/String", "rangeCheck", "([CII)Ljava/lang/Void;"⟩ : MethodName) (head1 (Jvm.Cond.code (⟨"java/lang/String", "rangeCheck", "([CII)Ljava/lang/Void;"⟩ : MethodName) jdk_42_method_5_code 3 (some (.object "java/lang/Void")) :: ws) ({ frames := 2, cells := 0, slots := 0, locals := 29 } : Room)) (fun a₁ U₁ => a₁ = #[(.ref ca), (.int (Int32.ofNat o)), (.int (Int32.ofNat n))] ∧ Z.Warmed39 U₁.vm ∧ U₁.heap = h0) (fun _ _ _ _ _ => True) (fun _ U₁ o₁ U₂ => ∃ v₁ L₁, o₁ = .returned v₁ ∧ Q_rchk Z ca kc cs dv o n fm h0 n0 v₁ U₂.heap L₁ ∧ FrameEnd U₁ o₁ U₂ L₁ ({ frames := 2, cells := 0, slots := 0, locals := 29 } : Room).cells ({ frames := 2, cells := 0, slots := 0, locals := 29 } : Room).slots) := by
  refine MetFree.of_bodySF (plainFor_of_name pn_1) hisR ?_
  intro p e s m args below meth c s₁ Bd hml0 hP hK
  obtain ⟨rfl, hZ, hh⟩ := hP
  have hx := Bd.exec
  have hby := Bd.bytes
  have hml : c.maxLocals = 3 := hml0
  have hown : s.vm.findClass "java/lang/String" = some m.cls := findClass_of_methodNamed Bd.named
  have hnm := (name_of_methodNamed Bd.named Bd.method).1
  have X0 : Stand p l e ({ frames := 2, cells := 0, slots := 0, locals := 29 } : Room) s m #[(.ref ca), (.int (Int32.ofNat o)), (.int (Int32.ofNat n))] below meth c s₁ [] 0 0 := Stand.of_body Bd
  have e0 : s₁.heap = h0 := by rw [← hh, Bd.state]; rfl
  have N0 := Fr.nil n0
  have pre0 : ∀ t, Steps p.tables e below (s₁.setTop (mkF m 0 #[.val (.ref ca), .val (.int (Int32.ofNat o)), .val (.int (Int32.ofNat n))] [])) t → Steps p.tables e below (s₁.setTop (entryFrame m #[(.ref ca), (.int (Int32.ofNat o)), (.int (Int32.ofNat n))] 3)) t := fun t k => castTop (ef_1 m ca (Int32.ofNat o) (Int32.ofNat n)) k
  obtain ⟨cl301, Ar301, -, S301, M301, -, -⟩ := id q3
  obtain ⟨_, _, ⟨T302, L302, k302, n302⟩, -, X302, ⟨Lc302, hQ302, l302, y302, z302⟩, st302⟩ := Jvm.LawKit.callS X0 hx (y := (⟨"java/lang/String", "checkBoundsOffCount", "(III)I"⟩ : MethodName)) hown (mvT hZ (hw _ (List.mem_of_getElem? (i := 113) rfl))) (mvT hZ (hw _ (List.mem_of_getElem? (i := 114) rfl))) (mvT hZ (hw _ (List.mem_of_getElem? (i := 4) rfl))) (mvT hZ (hw _ (List.mem_of_getElem? (i := 115) rfl))) (by decide) (backOf (W := 0) (rm_cboc l Z a0 hw [] o n cs.length fm h0 n0 Z0 q0 hFM q2 hon hN) hZ (hw _ (List.mem_of_getElem? (i := 115) rfl)) (hw _ (List.mem_of_getElem? (i := 4) rfl)) (by decide) (by decide)) (g := (mkF m 4 #[.val (.ref ca), .val (.int (Int32.ofNat o)), .val (.int (Int32.ofNat n))] [(.int (Int32.ofNat cs.length)), (.int (Int32.ofNat n)), (.int (Int32.ofNat o))])) rfl (by rw [hml]; rfl) (argsL := [(.int (Int32.ofNat o)), (.int (Int32.ofNat n)), (.int (Int32.ofNat cs.length))]) (rest := []) (lenOf pd_12 rfl) rfl (by show 2 * 0 + _ ≤ _; exact Nat.le_of_eq rfl) (hb hby d_jdk_42_method_5_code_4) (fun _ _ => ⟨rfl, e0, (by decide : 0 + 0 ≤ _), (by decide : 0 + 0 ≤ _)⟩)
  dsimp only [Pt.U, Pt.locs, Pt.cells, Pt.slots] at X302 l302 y302 z302 st302 hQ302
  replace l302 := l302.symm
  replace y302 := y302.symm
  replace z302 := z302.symm
  subst l302 y302 z302
  obtain ⟨rfl, Nq302, e302⟩ := hQ302
  have N302 := Fr.app N0 Nq302
  obtain ⟨fs, hr, hrun, hended, hW, hsame⟩ := X302.leave (v := some .null) (fun h => by rw [Bd.returns] at h; cases h)
  refine ⟨_, _, pre0 _ ?_, hrun, hended, _, _, rfl, ?_, ⟨_, rfl⟩, hW, hsame.mono (by decide) (by decide)⟩
  · refine XS.iloadN X0.here hx rfl (hb hby d_jdk_42_method_5_code_0) rfl ?_
    show Steps p.tables e below (s₁.setTop (mkF m 1 #[.val (.ref ca), .val (.int (Int32.ofNat o)), .val (.int (Int32.ofNat n))] [(.int (Int32.ofNat o))])) _
    refine XS.iloadN X0.here hx rfl (hb hby d_jdk_42_method_5_code_1) rfl ?_
    show Steps p.tables e below (s₁.setTop (mkF m 2 #[.val (.ref ca), .val (.int (Int32.ofNat o)), .val (.int (Int32.ofNat n))] [(.int (Int32.ofNat n)), (.int (Int32.ofNat o))])) _
    refine XS.aloadN X0.here hx rfl (hb hby d_jdk_42_method_5_code_2) rfl rfl ?_
    show Steps p.tables e below (s₁.setTop (mkF m 3 #[.val (.ref ca), .val (.int (Int32.ofNat o)), .val (.int (Int32.ofNat n))] [(.ref ca), (.int (Int32.ofNat n)), (.int (Int32.ofNat o))])) _
    refine X0.arraylength hx (by rw [e0]; exact Ar301.1) (State.isArrayOf_alike hZ.alike Ar301.2.1) (g := (mkF m 3 #[.val (.ref ca), .val (.int (Int32.ofNat o)), .val (.int (Int32.ofNat n))] [(.ref ca), (.int (Int32.ofNat n)), (.int (Int32.ofNat o))])) rfl rfl (hb hby d_jdk_42_method_5_code_3) _ ?_
    rw [len_of S301 M301]
    show Steps p.tables e below (s₁.setTop (mkF m 4 #[.val (.ref ca), .val (.int (Int32.ofNat o)), .val (.int (Int32.ofNat n))] [(.int (Int32.ofNat cs.length)), (.int (Int32.ofNat n)), (.int (Int32.ofNat o))])) _
    refine st302 _ ?_
    show Steps p.tables e below (T302.setTop (mkF m 7 #[.val (.ref ca), .val (.int (Int32.ofNat o)), .val (.int (Int32.ofNat n))] [(.int (Int32.ofNat o))])) _
    refine XS.pop X302.here hx rfl (hb hby d_jdk_42_method_5_code_7) rfl rfl ?_
    show Steps p.tables e below (T302.setTop (mkF m 8 #[.val (.ref ca), .val (.int (Int32.ofNat o)), .val (.int (Int32.ofNat n))] [])) _
    refine XS.aconstNull X302.here hx rfl (hb hby d_jdk_42_method_5_code_8) ?_
    show Steps p.tables e below (T302.setTop (mkF m 9 #[.val (.ref ca), .val (.int (Int32.ofNat o)), .val (.int (Int32.ofNat n))] [.null])) _
    jvm_step X302.here [X302.here.top, hx, (hb hby d_jdk_42_method_5_code_9), X302.method', Bd.returns, Value.isRef, FieldType.isReference]
    first | (intro acts; rw [hr _ acts rfl rfl rfl]) | rw [hr _ _ rfl rfl rfl]
    exact Steps.refl _
  · show Q_rchk Z ca kc cs dv o n fm h0 n0 _ T302.heap _
    rw [e302]
    exact ⟨rfl, N302, rfl⟩
theorem d_jdk_42_method_149_code_8 : decode jdk_42_method_149_code 8 = .ok (.aload_n 0, 1) := by decide +kernel
theorem d_jdk_42_method_149_code_9 : decode jdk_42_method_149_code 9 = .ok (.ldc 7, 2) := by decide +kernel
theorem d_jdk_42_method_149_code_11 : decode jdk_42_method_149_code 11 = .ok (.getfield 9, 3) := by decide +kernel
theorem d_jdk_42_method_149_code_14 : decode jdk_42_method_149_code 14 = .ok (.putfield 9, 3) := by decide +kernel
theorem d_jdk_42_method_149_code_17 : decode jdk_42_method_149_code 17 = .ok (.aload_n 0, 1) := by decide +kernel
theorem d_jdk_42_method_149_code_18 : decode jdk_42_method_149_code 18 = .ok (.ldc 7, 2) := by decide +kernel
theorem d_jdk_42_method_149_code_20 : decode jdk_42_method_149_code 20 = .ok (.getfield 15, 3) := by decide +kernel
theorem d_jdk_42_method_149_code_23 : decode jdk_42_method_149_code 23 = .ok (.putfield 15, 3) := by decide +kernel
theorem d_jdk_42_method_149_code_26 : decode jdk_42_method_149_code 26 = .ok (.return_, 1) := by decide +kernel
def Q_newE4 (Z : State) (xs : Addr) (ca : Addr) (o : Nat) (h0 : Heap) (n0 : Nat) (v : Option Value) (h : Heap) (L : List Loc) : Prop := ∃ (tt : Addr) (kt : ClassId), (v = none) ∧ (Fr n0 L) ∧ (Keep h0 h ([xs] : List Addr)) ∧ (Fld Z h xs "java/lang/String" "value" "[B" (.ref tt)) ∧ (Fld Z h xs "java/lang/String" "coder" "B" (.int (0 : Int32))) ∧ (Arv Z h tt kt .byte (0 : Int32) [] (.int 0))
set_option maxRecDepth 65536 in
set_option maxHeartbeats 40000000 in
theorem rm_newE4 (l : Launch) (Z : State) (a0 : Array Value) (hw : ∀ d ∈ tables_1, d.before a0 Z = true) (ws : List Jvm.Cond) (xs : Addr) (ca : Addr) (o : Nat) (h0 : Heap) (n0 : Nat) (Z0 : n0 ≤ h0.size) (q0 : Exa Z h0 xs "java/lang/String") (q1 : Fld Z h0 xs "java/lang/String" "value" "[B" .null) (q2 : Fld Z h0 xs "java/lang/String" "coder" "B" (.int (0 : Int32))) (q3 : n0 ≤ xs) :
    MetFree l (⟨"java/lang/String", "<init>", "([CIILjava/lang/Void;)V"⟩ : MethodName) (head1 (Jvm.Cond.code (⟨"java/lang/String", "<init>", "([CIILjava/lang/Void;)V"⟩ : MethodName) jdk_42_method_149_code 6 none :: ws) ({ frames := 1, cells := 4, slots := 8, locals := 12 } : Room)) (fun a₁ U₁ => a₁ = #[(.ref xs), (.ref ca), (.int (Int32.ofNat o)), (.int (0 : Int32)), .null] ∧ Z.Warmed39 U₁.vm ∧ U₁.heap = h0 ∧ CHv Z [("java/lang/String", 7)] U₁.vm h0) (fun _ _ _ _ _ => True) (fun _ U₁ o₁ U₂ => ∃ v₁ L₁, o₁ = .returned v₁ ∧ Q_newE4 Z xs ca o h0 n0 v₁ U₂.heap L₁ ∧ CHr Z [("java/lang/String", 7)] U₁.vm U₁.heap U₂.vm U₂.heap ∧ ReturnedEndW U₁ o₁ U₂ L₁ ({ frames := 1, cells := 4, slots := 8, locals := 12 } : Room).cells ({ frames := 1, cells := 4, slots := 8, locals := 12 } : Room).slots) := by
  refine MetFree.of_bodySF (plainFor_of_name pn_1) hisR ?_
  intro p e s m args below meth c s₁ Bd hml0 hP hK
  obtain ⟨rfl, hZ, hh, CH0⟩ := hP
  have hx := Bd.exec
  have hby := Bd.bytes
  have hml : c.maxLocals = 6 := hml0
  have hown : s.vm.findClass "java/lang/String" = some m.cls := findClass_of_methodNamed Bd.named
  have hnm := (name_of_methodNamed Bd.named Bd.method).1
  have X0 : Stand p l e ({ frames := 1, cells := 4, slots := 8, locals := 12 } : Room) (s.setVm s.vm) m #[(.ref xs), (.ref ca), (.int (Int32.ofNat o)), (.int (0 : Int32)), .null] below meth c s₁ [] 0 0 := Stand.of_body Bd
  have e0 : s₁.heap = h0 := by rw [← hh, Bd.state]; rfl
  have N0 := Fr.nil n0
  have hZ0 : Z.Warmed39 (s.setVm s.vm).vm := hZ
  have hown0 : (s.setVm s.vm).vm.findClass "java/lang/String" = some m.cls := hown
  have hS0 : s.Since s.vm h0.size := (State.WarmedH.refl s).since _
  have hk0 : h0.size ≤ h0.size := Nat.le_refl _
  have CR0 : CHr Z [("java/lang/String", 7)] s.vm h0 s.vm h0 := CHr.refl CH0
  have pre0 : ∀ t, Steps p.tables e below (s₁.setTop (mkF m 0 #[.val (.ref xs), .val (.ref ca), .val (.int (Int32.ofNat o)), .val (.int (0 : Int32)), .val .null, .unset] [])) t → Steps p.tables e below (s₁.setTop (entryFrame m #[(.ref xs), (.ref ca), (.int (Int32.ofNat o)), (.int (0 : Int32)), .null] 6)) t := fun t k => castTop (ef_6 m xs ca (Int32.ofNat o) (0 : Int32)) k
  obtain ⟨T301, X301, e301, st301⟩ := initO X0 hx hZ0 hown0 (hw _ (List.mem_of_getElem? (i := 21) rfl)) (hw _ (List.mem_of_getElem? (i := 22) rfl)) (hw _ (List.mem_of_getElem? (i := 23) rfl)) e0 (g := (mkF m 1 #[.val (.ref xs), .val (.ref ca), .val (.int (Int32.ofNat o)), .val (.int (0 : Int32)), .val .null, .unset] [(.ref xs)])) rfl (by rw [hml]; rfl) rfl (hb hby d_jdk_42_method_149_code_1) (by decide) (W := 0) (by show 2 * 0 + _ ≤ _; exact Nat.le_of_eq rfl) (by decide)
  obtain ⟨b302, T302, h302, kk302, bb302, kb302, X302, e302, E302, hS302, hk302, hZ302, hown302, fE302, fC302, fV302, fA302, la302, lb302, ch302, li302, sx302, st302⟩ := ldcCH X301 hx hZ0 hown0 (hw _ (List.mem_of_getElem? (i := 121) rfl)) (own_hw_str hw) e301 hS0 hk0 (own_EW hw) (by decide) CR0.1 (vs := []) (z := (0 : Int32)) ⟨by decide, rfl⟩ (by decide) rfl (g := (mkF m 9 #[.val (.ref xs), .val (.ref ca), .val (.int (Int32.ofNat o)), .val (.int (0 : Int32)), .val .null, .unset] [(.ref xs)])) rfl (hb hby d_jdk_42_method_149_code_9) (n := 0) (by decide) (by decide) (by decide) (by decide)
  have CR303 : CHr Z [("java/lang/String", 7)] s.vm h0 T302.vm h302 := CR0.trans ch302
  obtain ⟨T304, X304, e304, st304⟩ := getF X302 hx hZ302 hown302 (host := "") (Or.inl (hw _ (List.mem_of_getElem? (i := 24) rfl))) Via.refl e302 fV302 (g := (mkF m 11 #[.val (.ref xs), .val (.ref ca), .val (.int (Int32.ofNat o)), .val (.int (0 : Int32)), .val .null, .unset] [(.ref b302), (.ref xs)])) rfl rfl (hb hby d_jdk_42_method_149_code_11)
  have c305 : Fld Z h302 xs "java/lang/String" "value" "[B" .null := (q1.ext E302)
  have c306 : Exa Z h302 xs "java/lang/String" := (q0.ext E302)
  have sf308 : Safe Z [("java/lang/String", 7)] T302.vm h302 xs := own_safe_null (EL := [("java/lang/String", 7)]) hZ302.alike c306 c305
  obtain ⟨T307, h307, X307, e307, W307, st307⟩ := putF X304 hx hZ302 hown302 (host := "") (Or.inl (hw _ (List.mem_of_getElem? (i := 24) rfl))) Via.refl e304 c305 c306 (Or.inr ⟨(hw _ (List.mem_of_getElem? (i := 25) rfl)), rfl, hnm⟩) (hw _ (List.mem_of_getElem? (i := 12) rfl)) (ty := (.array .byte)) (by decide) rfl rfl (g := (mkF m 14 #[.val (.ref xs), .val (.ref ca), .val (.int (Int32.ofNat o)), .val (.int (0 : Int32)), .val .null, .unset] [(.ref bb302), (.ref xs)])) rfl rfl (hb hby d_jdk_42_method_149_code_14)
  have N307 := Fr.snoc X307 N0 q3
  have CR309 : CHr Z [("java/lang/String", 7)] s.vm h0 T302.vm h307 := CR303.trans (CHr.wr W307 sf308 CR303.1)
  have sf310 : Safe Z [("java/lang/String", 7)] T302.vm h307 xs := Safe.wr W307 sf308 CR303.1 sf308
  have F307 : Fld Z h307 xs "java/lang/String" "value" "[B" (.ref bb302) := c305.same W307
  obtain ⟨b311, T311, h311, kk311, bb311, kb311, X311, e311, E311, hS311, hk311, hZ311, hown311, fE311, fC311, fV311, fA311, la311, lb311, ch311, li311, sx311, st311⟩ := ldcCH X307 hx hZ302 hown302 (hw _ (List.mem_of_getElem? (i := 121) rfl)) (own_hw_str hw) e307 hS302 (Nat.le_trans hk302 (Keep.of_wr W307).1) (own_EW hw) (by decide) CR309.1 (vs := []) (z := (0 : Int32)) ⟨by decide, rfl⟩ (by decide) rfl (g := (mkF m 18 #[.val (.ref xs), .val (.ref ca), .val (.int (Int32.ofNat o)), .val (.int (0 : Int32)), .val .null, .unset] [(.ref xs)])) rfl (hb hby d_jdk_42_method_149_code_18) (n := 0) (by decide) (by decide) (by decide) (by decide)
  have CR312 : CHr Z [("java/lang/String", 7)] s.vm h0 T311.vm h311 := CR309.trans ch311
  have sf313 : Safe Z [("java/lang/String", 7)] T311.vm h311 xs := ch311.safe (Nat.lt_of_lt_of_le c306.lt (Keep.of_wr W307).1) sf310
  obtain ⟨T314, X314, e314, st314⟩ := getF X311 hx hZ311 hown311 (host := "") (Or.inl (hw _ (List.mem_of_getElem? (i := 26) rfl))) Via.refl e311 fC311 (g := (mkF m 20 #[.val (.ref xs), .val (.ref ca), .val (.int (Int32.ofNat o)), .val (.int (0 : Int32)), .val .null, .unset] [(.ref b311), (.ref xs)])) rfl rfl (hb hby d_jdk_42_method_149_code_20)
  have c315 : Fld Z h311 xs "java/lang/String" "coder" "B" (.int (0 : Int32)) := (((q2.ext E302).other W307 (Or.inr (slot_ne (Or.inr (hw _ (List.mem_of_getElem? (i := 27) rfl))) (Or.inr (hw _ (List.mem_of_getElem? (i := 25) rfl))) (by decide) (t := .byte) (t' := (.array .byte)) (by decide) (by decide)))).ext E311)
  have c316 : Exa Z h311 xs "java/lang/String" := ((c306.wr W307).ext E311)
  obtain ⟨T317, h317, X317, e317, W317, st317⟩ := putFN X314 hx hZ311 hown311 (hw _ (List.mem_of_getElem? (i := 26) rfl)) Via.refl e314 c315 c316 (Or.inr ⟨(hw _ (List.mem_of_getElem? (i := 27) rfl)), rfl, hnm⟩) (hw _ (List.mem_of_getElem? (i := 12) rfl)) (ty := .byte) (v' := (.int (0 : Int32))) (by decide) rfl rfl (g := (mkF m 23 #[.val (.ref xs), .val (.ref ca), .val (.int (Int32.ofNat o)), .val (.int (0 : Int32)), .val .null, .unset] [(.int (0 : Int32)), (.ref xs)])) rfl rfl (hb hby d_jdk_42_method_149_code_23)
  have N317 := Fr.snoc X317 N307 q3
  have CR318 : CHr Z [("java/lang/String", 7)] s.vm h0 T311.vm h317 := CR312.trans (CHr.wr W317 sf313 CR312.1)
  have sf319 : Safe Z [("java/lang/String", 7)] T311.vm h317 xs := Safe.wr W317 sf313 CR312.1 sf313
  have F317 : Fld Z h317 xs "java/lang/String" "coder" "B" (.int (0 : Int32)) := c315.same W317
  have c320 : Fld Z h317 xs "java/lang/String" "value" "[B" (.ref bb302) := ((F307.ext E311).other W317 (Or.inr (slot_ne (Or.inr (hw _ (List.mem_of_getElem? (i := 25) rfl))) (Or.inr (hw _ (List.mem_of_getElem? (i := 27) rfl))) (by decide) (t := (.array .byte)) (t' := .byte) (by decide) (by decide))))
  have ne321 : xs ≠ bb302 := Exa.neArv c306 fA302 (hw _ (List.mem_of_getElem? (i := 12) rfl))
  have c322 : Arv Z h317 bb302 kb302 .byte (0 : Int32) [] (.int 0) := (((fA302.other W307 (Ne.symm ne321)).ext E311).other W317 (Ne.symm ne321))
  obtain ⟨fs, hr, hrun, hended, hEnd⟩ := X317.leaveW hS311 (by rw [e317]; exact (Nat.le_trans hk311 (Keep.of_wr W317).1)) (v := none) (fun _ => rfl)
  refine ⟨_, _, pre0 _ ?_, hrun, hended, _, _, rfl, ?_, (by rw [hh]; show CHr Z [("java/lang/String", 7)] s.vm h0 T317.vm T317.heap; rw [e317]; exact CR318.trans (CHv.at X317 hZ311 (own_EW hw) CR318.1)), hEnd.1, hEnd.2.1, hEnd.2.2.1, hEnd.2.2.2.mono (by decide) (by decide)⟩
  · refine XS.aloadN X0.here hx rfl (hb hby d_jdk_42_method_149_code_0) rfl rfl ?_
    show Steps p.tables e below (s₁.setTop (mkF m 1 #[.val (.ref xs), .val (.ref ca), .val (.int (Int32.ofNat o)), .val (.int (0 : Int32)), .val .null, .unset] [(.ref xs)])) _
    refine st301 _ ?_
    show Steps p.tables e below (T301.setTop (mkF m 4 #[.val (.ref xs), .val (.ref ca), .val (.int (Int32.ofNat o)), .val (.int (0 : Int32)), .val .null, .unset] [])) _
    refine XS.iloadN X301.here hx rfl (hb hby d_jdk_42_method_149_code_4) rfl ?_
    show Steps p.tables e below (T301.setTop (mkF m 5 #[.val (.ref xs), .val (.ref ca), .val (.int (Int32.ofNat o)), .val (.int (0 : Int32)), .val .null, .unset] [(.int (0 : Int32))])) _
    refine XS.ifNo X301.here hx rfl (hb hby d_jdk_42_method_149_code_5) rfl ((if0 _ _).trans (teq ((by decide) : (0 : Int32) = (0 : Int32))).2) ?_
    show Steps p.tables e below (T301.setTop (mkF m 8 #[.val (.ref xs), .val (.ref ca), .val (.int (Int32.ofNat o)), .val (.int (0 : Int32)), .val .null, .unset] [])) _
    refine XS.aloadN X301.here hx rfl (hb hby d_jdk_42_method_149_code_8) rfl rfl ?_
    show Steps p.tables e below (T301.setTop (mkF m 9 #[.val (.ref xs), .val (.ref ca), .val (.int (Int32.ofNat o)), .val (.int (0 : Int32)), .val .null, .unset] [(.ref xs)])) _
    refine st302 _ ?_
    show Steps p.tables e below (T302.setTop (mkF m 11 #[.val (.ref xs), .val (.ref ca), .val (.int (Int32.ofNat o)), .val (.int (0 : Int32)), .val .null, .unset] [(.ref b302), (.ref xs)])) _
    refine st304 _ ?_
    show Steps p.tables e below (T304.setTop (mkF m 14 #[.val (.ref xs), .val (.ref ca), .val (.int (Int32.ofNat o)), .val (.int (0 : Int32)), .val .null, .unset] [(.ref bb302), (.ref xs)])) _
    refine st307 _ ?_
    show Steps p.tables e below (T307.setTop (mkF m 17 #[.val (.ref xs), .val (.ref ca), .val (.int (Int32.ofNat o)), .val (.int (0 : Int32)), .val .null, .unset] [])) _
    refine XS.aloadN X307.here hx rfl (hb hby d_jdk_42_method_149_code_17) rfl rfl ?_
    show Steps p.tables e below (T307.setTop (mkF m 18 #[.val (.ref xs), .val (.ref ca), .val (.int (Int32.ofNat o)), .val (.int (0 : Int32)), .val .null, .unset] [(.ref xs)])) _
    refine st311 _ ?_
    show Steps p.tables e below (T311.setTop (mkF m 20 #[.val (.ref xs), .val (.ref ca), .val (.int (Int32.ofNat o)), .val (.int (0 : Int32)), .val .null, .unset] [(.ref b311), (.ref xs)])) _
    refine st314 _ ?_
    show Steps p.tables e below (T314.setTop (mkF m 23 #[.val (.ref xs), .val (.ref ca), .val (.int (Int32.ofNat o)), .val (.int (0 : Int32)), .val .null, .unset] [(.int (0 : Int32)), (.ref xs)])) _
    refine st317 _ ?_
    show Steps p.tables e below (T317.setTop (mkF m 26 #[.val (.ref xs), .val (.ref ca), .val (.int (Int32.ofNat o)), .val (.int (0 : Int32)), .val .null, .unset] [])) _
    exact X317.returnOut hx Bd.returns (hb hby d_jdk_42_method_149_code_26) hr
  · show Q_newE4 Z xs ca o h0 n0 _ T317.heap _
    rw [e317]
    exact ⟨bb302, kb302, rfl, N317, (((((Keep.refl h0 ([xs] : List Addr)).ext E302).wr W307 (Or.inl (by simp))).ext E311).wr W317 (Or.inl (by simp))), c320, F317, c322⟩
theorem d_jdk_42_method_4_code_0 : decode jdk_42_method_4_code 0 = .ok (.aload_n 0, 1) := by decide +kernel
theorem d_jdk_42_method_4_code_1 : decode jdk_42_method_4_code 1 = .ok (.aload_n 1, 1) := by decide +kernel
theorem d_jdk_42_method_4_code_2 : decode jdk_42_method_4_code 2 = .ok (.iload_n 2, 1) := by decide +kernel
theorem d_jdk_42_method_4_code_3 : decode jdk_42_method_4_code 3 = .ok (.iload_n 3, 1) := by decide +kernel
theorem d_jdk_42_method_4_code_4 : decode jdk_42_method_4_code 4 = .ok (.aload_n 1, 1) := by decide +kernel
theorem d_jdk_42_method_4_code_5 : decode jdk_42_method_4_code 5 = .ok (.iload_n 2, 1) := by decide +kernel
theorem d_jdk_42_method_4_code_6 : decode jdk_42_method_4_code 6 = .ok (.iload_n 3, 1) := by decide +kernel
theorem d_jdk_42_method_4_code_7 : decode jdk_42_method_4_code 7 = .ok (.invokestatic 30, 3) := by decide +kernel
theorem pd_13 : parseMethodDescriptor "([CII)Ljava/lang/Void;" = some ⟨[(.array .char), .int, .int], some (.object "java/lang/Void")⟩ := by decide +kernel
theorem d_jdk_42_method_4_code_10 : decode jdk_42_method_4_code 10 = .ok (.invokespecial 27, 3) := by decide +kernel
theorem d_jdk_42_method_4_code_13 : decode jdk_42_method_4_code 13 = .ok (.return_, 1) := by decide +kernel
theorem ef_11 (m : MethodId) (x0 : Addr) (x1 : Addr) (x2 : Int32) (x3 : Int32) : entryFrame m #[(.ref x0), (.ref x1), (.int x2), (.int x3)] 4 = mkF m 0 #[.val (.ref x0), .val (.ref x1), .val (.int x2), .val (.int x3)] [] := by first | (simp [entryFrame, mkF, argsToLocals, Value.category]; done) | rfl
def Q_new3 (Z : State) (xs : Addr) (ca : Addr) (kc : ClassId) (cs : List Int32) (dv : Value) (o : Nat) (n : Nat) (G : Int32) (fm : Value) (h0 : Heap) (n0 : Nat) (v : Option Value) (h : Heap) (L : List Loc) : Prop := ∃ (tt : Addr) (kt : ClassId) (cd : Int32) (nn : Int32) (vs : List Value), (v = none) ∧ (Fr n0 L) ∧ (Keep h0 h ([xs] : List Addr)) ∧ (Fld Z h xs "java/lang/String" "value" "[B" (.ref tt)) ∧ (Fld Z h xs "java/lang/String" "coder" "B" (.int cd)) ∧ (Arv Z h tt kt .byte nn vs (.int 0)) ∧ (StrChars.Road.CodA ((cs.drop o).take n) cd nn vs)
set_option maxRecDepth 65536 in
set_option maxHeartbeats 40000000 in
theorem rm_new3 (l : Launch) (Z : State) (a0 : Array Value) (hw : ∀ d ∈ tables_1, d.before a0 Z = true) (ws : List Jvm.Cond) (xs : Addr) (ca : Addr) (kc : ClassId) (cs : List Int32) (dv : Value) (o : Nat) (n : Nat) (G : Int32) (fm : Value) (h0 : Heap) (n0 : Nat) (Z0 : n0 ≤ h0.size) (q0 : Sta Z Z.heap "java/lang/String" "COMPACT_STRINGS" "Z" (.int G)) (hCS : ¬ (G = (0 : Int32))) (q2 : Sta Z Z.heap "java/lang/StringUTF16" "$assertionsDisabled" "Z" (.int (1 : Int32))) (q3 : Sta Z Z.heap "java/lang/StringUTF16" "HI_BYTE_SHIFT" "I" (.int (0 : Int32))) (q4 : Sta Z Z.heap "java/lang/StringUTF16" "LO_BYTE_SHIFT" "I" (.int (8 : Int32))) (q5 : Sta Z Z.heap "jdk/internal/util/Preconditions" "SIOOBE_FORMATTER" "Ljava/util/function/BiFunction;" fm) (hFM : fm.isRef = true) (q7 : Old Z n0 h0) (q8 : Arv Z h0 ca kc .char (Int32.ofNat cs.length) (cs.map Value.int) dv) (hN : cs.length < 2 ^ 31) (hon : o + n ≤ cs.length) (hcap : n ≤ 3) (hWs : ∀ c ∈ cs, own_W c) (q13 : Exa Z h0 xs "java/lang/String") (q14 : Fld Z h0 xs "java/lang/String" "value" "[B" .null) (q15 : Fld Z h0 xs "java/lang/String" "coder" "B" (.int (0 : Int32))) (q16 : n0 ≤ xs) :
    MetFree l (⟨"java/lang/String", "<init>", "([CII)V"⟩ : MethodName) (head1 (Jvm.Cond.code (⟨"java/lang/String", "<init>", "([CII)V"⟩ : MethodName) jdk_42_method_4_code 4 none :: ws) ({ frames := 5, cells := 4, slots := 9, locals := 74 } : Room)) (fun a₁ U₁ => a₁ = #[(.ref xs), (.ref ca), (.int (Int32.ofNat o)), (.int (Int32.ofNat n))] ∧ Z.Warmed39 U₁.vm ∧ U₁.heap = h0 ∧ CHv Z [("java/lang/String", 7)] U₁.vm h0) (fun _ _ _ _ _ => True) (fun _ U₁ o₁ U₂ => ∃ v₁ L₁, o₁ = .returned v₁ ∧ Q_new3 Z xs ca kc cs dv o n G fm h0 n0 v₁ U₂.heap L₁ ∧ CHr Z [("java/lang/String", 7)] U₁.vm U₁.heap U₂.vm U₂.heap ∧ ReturnedEndW U₁ o₁ U₂ L₁ ({ frames := 5, cells := 4, slots := 9, locals := 74 } : Room).cells ({ frames := 5, cells := 4, slots := 9, locals := 74 } : Room).slots) := by
  refine MetFree.of_bodySF (plainFor_of_name pn_1) hisR ?_
  intro p e s m args below meth c s₁ Bd hml0 hP hK
  obtain ⟨rfl, hZ, hh, CH0⟩ := hP
  have hx := Bd.exec
  have hby := Bd.bytes
  have hml : c.maxLocals = 4 := hml0
  have hown : s.vm.findClass "java/lang/String" = some m.cls := findClass_of_methodNamed Bd.named
  have hnm := (name_of_methodNamed Bd.named Bd.method).1
  have X0 : Stand p l e ({ frames := 5, cells := 4, slots := 9, locals := 74 } : Room) (s.setVm s.vm) m #[(.ref xs), (.ref ca), (.int (Int32.ofNat o)), (.int (Int32.ofNat n))] below meth c s₁ [] 0 0 := Stand.of_body Bd
  have e0 : s₁.heap = h0 := by rw [← hh, Bd.state]; rfl
  have N0 := Fr.nil n0
  have hZ0 : Z.Warmed39 (s.setVm s.vm).vm := hZ
  have hown0 : (s.setVm s.vm).vm.findClass "java/lang/String" = some m.cls := hown
  have hS0 : s.Since s.vm h0.size := (State.WarmedH.refl s).since _
  have hk0 : h0.size ≤ h0.size := Nat.le_refl _
  have CR0 : CHr Z [("java/lang/String", 7)] s.vm h0 s.vm h0 := CHr.refl CH0
  have pre0 : ∀ t, Steps p.tables e below (s₁.setTop (mkF m 0 #[.val (.ref xs), .val (.ref ca), .val (.int (Int32.ofNat o)), .val (.int (Int32.ofNat n))] [])) t → Steps p.tables e below (s₁.setTop (entryFrame m #[(.ref xs), (.ref ca), (.int (Int32.ofNat o)), (.int (Int32.ofNat n))] 4)) t := fun t k => castTop (ef_11 m xs ca (Int32.ofNat o) (Int32.ofNat n)) k
  have hl1 : ((cs.drop o).take n).length = n := own_cut1 hon
  have hd1 : ∀ q, q < n → ((cs.drop o).take n).getD q 0 = cs.getD (o + q) 0 := own_cut2
  have hWd : ∀ c ∈ ((cs.drop o).take n), own_W c := fun c hc => hWs c (List.mem_of_mem_drop (List.mem_of_mem_take hc))
  obtain ⟨_, _, ⟨T301, L301, k301, n301⟩, -, X301, ⟨Lc301, hQ301, l301, y301, z301⟩, st301⟩ := Jvm.LawKit.callS X0 hx (y := (⟨"java/lang/String", "rangeCheck", "([CII)Ljava/lang/Void;"⟩ : MethodName)) hown0 (mvT hZ0 (hw _ (List.mem_of_getElem? (i := 110) rfl))) (mvT hZ0 (hw _ (List.mem_of_getElem? (i := 111) rfl))) (mvT hZ0 (hw _ (List.mem_of_getElem? (i := 4) rfl))) (mvT hZ0 (hw _ (List.mem_of_getElem? (i := 112) rfl))) (by decide) (backOf (W := 4) (rm_rchk l Z a0 hw [] ca kc cs dv o n fm h0 n0 Z0 q5 hFM q7 q8 hon hN) hZ0 (hw _ (List.mem_of_getElem? (i := 112) rfl)) (hw _ (List.mem_of_getElem? (i := 4) rfl)) (by decide) (by decide)) (g := (mkF m 7 #[.val (.ref xs), .val (.ref ca), .val (.int (Int32.ofNat o)), .val (.int (Int32.ofNat n))] [(.int (Int32.ofNat n)), (.int (Int32.ofNat o)), (.ref ca), (.int (Int32.ofNat n)), (.int (Int32.ofNat o)), (.ref ca), (.ref xs)])) rfl (by rw [hml]; rfl) (argsL := [(.ref ca), (.int (Int32.ofNat o)), (.int (Int32.ofNat n))]) (rest := [(.int (Int32.ofNat n)), (.int (Int32.ofNat o)), (.ref ca), (.ref xs)]) (lenOf pd_13 rfl) rfl (by show 2 * 0 + _ ≤ _; exact Nat.le_of_eq rfl) (hb hby d_jdk_42_method_4_code_7) (fun _ _ => ⟨rfl, e0, (by decide : 0 + 0 ≤ _), (by decide : 0 + 0 ≤ _)⟩)
  dsimp only [Pt.U, Pt.locs, Pt.cells, Pt.slots] at X301 l301 y301 z301 st301 hQ301
  replace l301 := l301.symm
  replace y301 := y301.symm
  replace z301 := z301.symm
  subst l301 y301 z301
  obtain ⟨rfl, Nq301, e301⟩ := hQ301
  have N301 := Fr.app N0 Nq301
  have pre302 : ∀ t, Steps p.tables e below (T301.setTop (mkF m 10 #[.val (.ref xs), .val (.ref ca), .val (.int (Int32.ofNat o)), .val (.int (Int32.ofNat n))] [.null, (.int (Int32.ofNat n)), (.int (Int32.ofNat o)), (.ref ca), (.ref xs)])) t → Steps p.tables e below (s₁.setTop (entryFrame m #[(.ref xs), (.ref ca), (.int (Int32.ofNat o)), (.int (Int32.ofNat n))] 4)) t := fun t kk => pre0 t (by
    refine XS.aloadN X0.here hx rfl (hb hby d_jdk_42_method_4_code_0) rfl rfl ?_
    show Steps p.tables e below (s₁.setTop (mkF m 1 #[.val (.ref xs), .val (.ref ca), .val (.int (Int32.ofNat o)), .val (.int (Int32.ofNat n))] [(.ref xs)])) _
    refine XS.aloadN X0.here hx rfl (hb hby d_jdk_42_method_4_code_1) rfl rfl ?_
    show Steps p.tables e below (s₁.setTop (mkF m 2 #[.val (.ref xs), .val (.ref ca), .val (.int (Int32.ofNat o)), .val (.int (Int32.ofNat n))] [(.ref ca), (.ref xs)])) _
    refine XS.iloadN X0.here hx rfl (hb hby d_jdk_42_method_4_code_2) rfl ?_
    show Steps p.tables e below (s₁.setTop (mkF m 3 #[.val (.ref xs), .val (.ref ca), .val (.int (Int32.ofNat o)), .val (.int (Int32.ofNat n))] [(.int (Int32.ofNat o)), (.ref ca), (.ref xs)])) _
    refine XS.iloadN X0.here hx rfl (hb hby d_jdk_42_method_4_code_3) rfl ?_
    show Steps p.tables e below (s₁.setTop (mkF m 4 #[.val (.ref xs), .val (.ref ca), .val (.int (Int32.ofNat o)), .val (.int (Int32.ofNat n))] [(.int (Int32.ofNat n)), (.int (Int32.ofNat o)), (.ref ca), (.ref xs)])) _
    refine XS.aloadN X0.here hx rfl (hb hby d_jdk_42_method_4_code_4) rfl rfl ?_
    show Steps p.tables e below (s₁.setTop (mkF m 5 #[.val (.ref xs), .val (.ref ca), .val (.int (Int32.ofNat o)), .val (.int (Int32.ofNat n))] [(.ref ca), (.int (Int32.ofNat n)), (.int (Int32.ofNat o)), (.ref ca), (.ref xs)])) _
    refine XS.iloadN X0.here hx rfl (hb hby d_jdk_42_method_4_code_5) rfl ?_
    show Steps p.tables e below (s₁.setTop (mkF m 6 #[.val (.ref xs), .val (.ref ca), .val (.int (Int32.ofNat o)), .val (.int (Int32.ofNat n))] [(.int (Int32.ofNat o)), (.ref ca), (.int (Int32.ofNat n)), (.int (Int32.ofNat o)), (.ref ca), (.ref xs)])) _
    refine XS.iloadN X0.here hx rfl (hb hby d_jdk_42_method_4_code_6) rfl ?_
    show Steps p.tables e below (s₁.setTop (mkF m 7 #[.val (.ref xs), .val (.ref ca), .val (.int (Int32.ofNat o)), .val (.int (Int32.ofNat n))] [(.int (Int32.ofNat n)), (.int (Int32.ofNat o)), (.ref ca), (.int (Int32.ofNat n)), (.int (Int32.ofNat o)), (.ref ca), (.ref xs)])) _
    refine st301 _ ?_
    show Steps p.tables e below (T301.setTop (mkF m 10 #[.val (.ref xs), .val (.ref ca), .val (.int (Int32.ofNat o)), .val (.int (Int32.ofNat n))] [.null, (.int (Int32.ofNat n)), (.int (Int32.ofNat o)), (.ref ca), (.ref xs)])) _
    exact kk)
  by_cases hz : n = 0
  · subst hz
    obtain ⟨_, _, ⟨T303, L303, k303, n303⟩, -, X303', hS303', hz303', ⟨Lc303, hQ303, l303, y303, z303, ch303⟩, st303⟩ := X301.specialBackS hx (y := (⟨"java/lang/String", "<init>", "([CIILjava/lang/Void;)V"⟩ : MethodName)) rfl hown0 (mvT hZ0 (hw _ (List.mem_of_getElem? (i := 32) rfl))) (mvT hZ0 (hw _ (List.mem_of_getElem? (i := 33) rfl))) (mvT hZ0 (hw _ (List.mem_of_getElem? (i := 34) rfl))) (by decide) (backOfSH (W := 0) (rm_newE4 l Z a0 hw [] xs ca o h0 n0 Z0 q13 q14 q15 q16) hZ0 (hw _ (List.mem_of_getElem? (i := 34) rfl)) (hw _ (List.mem_of_getElem? (i := 4) rfl)) (by decide) (by decide) (own_EW hw) CR0.1) (g := (mkF m 10 #[.val (.ref xs), .val (.ref ca), .val (.int (Int32.ofNat o)), .val (.int (0 : Int32))] [.null, (.int (0 : Int32)), (.int (Int32.ofNat o)), (.ref ca), (.ref xs)])) rfl (by rw [hml]; rfl) (Steps.refl _) (a := xs) (argsL := [(.ref ca), (.int (Int32.ofNat o)), (.int (0 : Int32)), .null]) (rest := []) (lenOf pd_7 rfl) rfl (by show 2 * 0 + _ ≤ _; exact Nat.le_of_eq rfl) (hb hby d_jdk_42_method_4_code_10) (fun _ _ => ⟨rfl, e301, (by decide : 0 + 4 ≤ _), (by decide : 0 + 8 ≤ _)⟩)
    dsimp only [Pt.U, Pt.locs, Pt.cells, Pt.slots] at X303' l303 y303 z303 st303 hQ303 hS303' hz303' ch303
    replace l303 := l303.symm
    replace y303 := y303.symm
    replace z303 := z303.symm
    subst l303 y303 z303
    obtain ⟨tt_303, kt_303, rfl, Nq303, K303, f303_0, f303_1, f303_2⟩ := hQ303
    have N303 := Fr.app N301 Nq303
    obtain ⟨X303, hS303, hZ303, hown303⟩ := rebS hS0 (by rw [e301]; exact hk0) X303' hS303' hz303' hZ0 hown0
    have CR304 : CHr Z [("java/lang/String", 7)] s.vm h0 T303.vm T303.heap := CR0.trans ch303
    obtain ⟨fs, hr, hrun, hended, hEnd⟩ := X303.leaveW hS303 (Nat.le_refl _) (v := none) (fun _ => rfl)
    refine ⟨_, _, pre302 _ ?_, hrun, hended, _, _, rfl, ?_, (by rw [hh]; show CHr Z [("java/lang/String", 7)] s.vm h0 T303.vm T303.heap; exact CR304.trans (CHv.at X303 hZ303 (own_EW hw) CR304.1)), hEnd.1, hEnd.2.1, hEnd.2.2.1, hEnd.2.2.2.mono (by decide) (by decide)⟩
    · refine st303.trans ?_
      show Steps p.tables e below (T303.setTop (mkF m 13 #[.val (.ref xs), .val (.ref ca), .val (.int (Int32.ofNat o)), .val (.int (0 : Int32))] [])) _
      exact X303.returnOut hx Bd.returns (hb hby d_jdk_42_method_4_code_13) hr
    · show Q_new3 Z xs ca kc cs dv o 0 G fm h0 n0 _ T303.heap _
      exact ⟨tt_303, kt_303, (0 : Int32), (0 : Int32), [], rfl, N303, ((Keep.refl h0 ([xs] : List Addr)).trans K303 (allS (Or.inl (by simp)) all0)), f303_0, f303_1, f303_2, Or.inl ⟨rfl, rfl, rfl, by simp⟩⟩
  · have hn1 : 0 < n := by omega
    by_cases hwd : ∃ c ∈ ((cs.drop o).take n), (255 : Int32) < c
    · obtain ⟨rr, hr1, hr2, hr3⟩ := own_first ((cs.drop o).take n) hwd
      simp only [Nat.zero_add] at hr2 hr3
      rw [hl1] at hr1
      have hlow : ∀ q, q < rr → ¬ (255 : Int32) < cs.getD (o + q) 0 := fun q hq => by rw [← hd1 q (by omega)]; exact hr2 q hq
      have hwide : (255 : Int32) < cs.getD (o + rr) 0 := by rw [← hd1 rr hr1]; exact hr3
      have hrm : own_W (cs.getD (o + rr) 0) := hWs _ (own_getmem (by omega))
      have sf306 : Safe Z [("java/lang/String", 7)] s.vm h0 xs := own_safe_null (EL := [("java/lang/String", 7)]) hZ0.alike q13 q14
      obtain ⟨_, _, ⟨T305, L305, k305, n305⟩, -, X305, ⟨Lc305, hQ305, l305, y305, z305⟩, st305⟩ := X301.specialBack hx (y := (⟨"java/lang/String", "<init>", "([CIILjava/lang/Void;)V"⟩ : MethodName)) rfl hown0 (mvT hZ0 (hw _ (List.mem_of_getElem? (i := 32) rfl))) (mvT hZ0 (hw _ (List.mem_of_getElem? (i := 33) rfl))) (mvT hZ0 (hw _ (List.mem_of_getElem? (i := 34) rfl))) (by decide) (backOf (W := 0) (rm_new4w l Z a0 hw [] xs ca kc cs dv o n rr ((cs.drop o).take n) G h0 n0 Z0 q0 hCS q2 q3 q4 q7 (hcap) (hl1) (hr1) q8 hN hon (hd1) (hlow) (hwide) (hrm.1) (hrm.2) q13 q14 q15 q16) hZ0 (hw _ (List.mem_of_getElem? (i := 34) rfl)) (hw _ (List.mem_of_getElem? (i := 4) rfl)) (by decide) (by decide)) (g := (mkF m 10 #[.val (.ref xs), .val (.ref ca), .val (.int (Int32.ofNat o)), .val (.int (Int32.ofNat n))] [.null, (.int (Int32.ofNat n)), (.int (Int32.ofNat o)), (.ref ca), (.ref xs)])) rfl (by rw [hml]; rfl) (Steps.refl _) (a := xs) (argsL := [(.ref ca), (.int (Int32.ofNat o)), (.int (Int32.ofNat n)), .null]) (rest := []) (lenOf pd_7 rfl) rfl (by show 2 * 0 + _ ≤ _; exact Nat.le_of_eq rfl) (hb hby d_jdk_42_method_4_code_10) (fun _ _ => ⟨rfl, e301, (by decide : 0 + 2 ≤ _), (by decide : 0 + 9 ≤ _)⟩)
      dsimp only [Pt.U, Pt.locs, Pt.cells, Pt.slots] at X305 l305 y305 z305 st305 hQ305
      replace l305 := l305.symm
      replace y305 := y305.symm
      replace z305 := z305.symm
      subst l305 y305 z305
      obtain ⟨tt_305, kt_305, rfl, Nq305, K305, f305_0, f305_1, f305_2, f305_3⟩ := hQ305
      have N305 := Fr.app N301 Nq305
      have sf307 : Safe Z [("java/lang/String", 7)] s.vm h0 tt_305 := Safe.new f305_2
      have CR308 : CHr Z [("java/lang/String", 7)] s.vm h0 s.vm T305.heap := CR0.trans (CHr.keep K305 (sfS sf306 sf0) CR0.1)
      have sf309 : Safe Z [("java/lang/String", 7)] s.vm T305.heap xs := Safe.keep K305 (sfS sf306 sf0) CR0.1 sf306
      have sf310 : Safe Z [("java/lang/String", 7)] s.vm T305.heap tt_305 := Safe.keep K305 (sfS sf306 sf0) CR0.1 sf307
      obtain ⟨fs, hr, hrun, hended, hEnd⟩ := X305.leaveW hS0 (Nat.le_trans hk0 K305.1) (v := none) (fun _ => rfl)
      refine ⟨_, _, pre302 _ ?_, hrun, hended, _, _, rfl, ?_, (by rw [hh]; show CHr Z [("java/lang/String", 7)] s.vm h0 T305.vm T305.heap; exact CR308.trans (CHv.at X305 hZ0 (own_EW hw) CR308.1)), hEnd.1, hEnd.2.1, hEnd.2.2.1, hEnd.2.2.2.mono (by decide) (by decide)⟩
      · refine st305.trans ?_
        show Steps p.tables e below (T305.setTop (mkF m 13 #[.val (.ref xs), .val (.ref ca), .val (.int (Int32.ofNat o)), .val (.int (Int32.ofNat n))] [])) _
        exact X305.returnOut hx Bd.returns (hb hby d_jdk_42_method_4_code_13) hr
      · show Q_new3 Z xs ca kc cs dv o n G fm h0 n0 _ T305.heap _
        exact ⟨tt_305, kt_305, (1 : Int32), (Int32.ofNat (2 * n)), (StrChars.Road.wideBytes ((cs.drop o).take n)), rfl, N305, ((Keep.refl h0 ([xs] : List Addr)).trans K305 (allS (Or.inl (by simp)) all0)), f305_0, f305_1, f305_3, (by have q := own_codw hwd; rw [hl1] at q; exact q)⟩
    · have sf312 : Safe Z [("java/lang/String", 7)] s.vm h0 xs := own_safe_null (EL := [("java/lang/String", 7)]) hZ0.alike q13 q14
      obtain ⟨_, _, ⟨T311, L311, k311, n311⟩, -, X311, ⟨Lc311, hQ311, l311, y311, z311⟩, st311⟩ := X301.specialBack hx (y := (⟨"java/lang/String", "<init>", "([CIILjava/lang/Void;)V"⟩ : MethodName)) rfl hown0 (mvT hZ0 (hw _ (List.mem_of_getElem? (i := 32) rfl))) (mvT hZ0 (hw _ (List.mem_of_getElem? (i := 33) rfl))) (mvT hZ0 (hw _ (List.mem_of_getElem? (i := 34) rfl))) (by decide) (backOf (W := 0) (rm_new4l l Z a0 hw [] xs ca kc cs dv o n ((cs.drop o).take n) G h0 n0 Z0 q0 hCS q7 (by first | assumption | decide) q8 hN hcap hon (hl1) (hd1) (fun c hc q => hwd ⟨c, hc, q⟩) q13 q14 q15 q16) hZ0 (hw _ (List.mem_of_getElem? (i := 34) rfl)) (hw _ (List.mem_of_getElem? (i := 4) rfl)) (by decide) (by decide)) (g := (mkF m 10 #[.val (.ref xs), .val (.ref ca), .val (.int (Int32.ofNat o)), .val (.int (Int32.ofNat n))] [.null, (.int (Int32.ofNat n)), (.int (Int32.ofNat o)), (.ref ca), (.ref xs)])) rfl (by rw [hml]; rfl) (Steps.refl _) (a := xs) (argsL := [(.ref ca), (.int (Int32.ofNat o)), (.int (Int32.ofNat n)), .null]) (rest := []) (lenOf pd_7 rfl) rfl (by show 2 * 0 + _ ≤ _; exact Nat.le_of_eq rfl) (hb hby d_jdk_42_method_4_code_10) (fun _ _ => ⟨rfl, e301, (by decide : 0 + 1 ≤ _), (by decide : 0 + 3 ≤ _)⟩)
      dsimp only [Pt.U, Pt.locs, Pt.cells, Pt.slots] at X311 l311 y311 z311 st311 hQ311
      replace l311 := l311.symm
      replace y311 := y311.symm
      replace z311 := z311.symm
      subst l311 y311 z311
      obtain ⟨tt_311, kt_311, rfl, Nq311, K311, f311_0, f311_1, f311_2, f311_3⟩ := hQ311
      have N311 := Fr.app N301 Nq311
      have sf313 : Safe Z [("java/lang/String", 7)] s.vm h0 tt_311 := Safe.new f311_2
      have CR314 : CHr Z [("java/lang/String", 7)] s.vm h0 s.vm T311.heap := CR0.trans (CHr.keep K311 (sfS sf312 sf0) CR0.1)
      have sf315 : Safe Z [("java/lang/String", 7)] s.vm T311.heap xs := Safe.keep K311 (sfS sf312 sf0) CR0.1 sf312
      have sf316 : Safe Z [("java/lang/String", 7)] s.vm T311.heap tt_311 := Safe.keep K311 (sfS sf312 sf0) CR0.1 sf313
      obtain ⟨fs, hr, hrun, hended, hEnd⟩ := X311.leaveW hS0 (Nat.le_trans hk0 K311.1) (v := none) (fun _ => rfl)
      refine ⟨_, _, pre302 _ ?_, hrun, hended, _, _, rfl, ?_, (by rw [hh]; show CHr Z [("java/lang/String", 7)] s.vm h0 T311.vm T311.heap; exact CR314.trans (CHv.at X311 hZ0 (own_EW hw) CR314.1)), hEnd.1, hEnd.2.1, hEnd.2.2.1, hEnd.2.2.2.mono (by decide) (by decide)⟩
      · refine st311.trans ?_
        show Steps p.tables e below (T311.setTop (mkF m 13 #[.val (.ref xs), .val (.ref ca), .val (.int (Int32.ofNat o)), .val (.int (Int32.ofNat n))] [])) _
        exact X311.returnOut hx Bd.returns (hb hby d_jdk_42_method_4_code_13) hr
      · show Q_new3 Z xs ca kc cs dv o n G fm h0 n0 _ T311.heap _
        exact ⟨tt_311, kt_311, (0 : Int32), (Int32.ofNat n), (own_bs ((cs.drop o).take n)), rfl, N311, ((Keep.refl h0 ([xs] : List Addr)).trans K311 (allS (Or.inl (by simp)) all0)), f311_0, f311_1, f311_3, (Or.inl ⟨rfl, by rw [hl1], rfl, fun c hc q => hwd ⟨c, hc, q⟩⟩)⟩
theorem d_prog_81_method_1_code_0 : decode prog_81_method_1_code 0 = .ok (.aload_n 0, 1) := by decide +kernel
theorem d_prog_81_method_1_code_1 : decode prog_81_method_1_code 1 = .ok (.invokespecial 1, 3) := by decide +kernel
theorem d_prog_81_method_1_code_4 : decode prog_81_method_1_code 4 = .ok (.aload_n 0, 1) := by decide +kernel
theorem d_prog_81_method_1_code_5 : decode prog_81_method_1_code 5 = .ok (.bipush 64, 2) := by decide +kernel
theorem d_prog_81_method_1_code_7 : decode prog_81_method_1_code 7 = .ok (.newarray .char, 2) := by decide +kernel
theorem d_prog_81_method_1_code_9 : decode prog_81_method_1_code 9 = .ok (.putfield 7, 3) := by decide +kernel
theorem d_prog_81_method_1_code_12 : decode prog_81_method_1_code 12 = .ok (.return_, 1) := by decide +kernel
theorem ef_12 (m : MethodId) (x0 : Addr) : entryFrame m #[(.ref x0)] 1 = mkF m 0 #[.val (.ref x0)] [] := by first | (simp [entryFrame, mkF, argsToLocals, Value.category]; done) | rfl
theorem pn_4 : plainName "com/example/strict_markup/strictmarkup/Text" = true := by first | (simp [plainName, overriddenIn]; done) | decide +kernel
def Q_txI (Z : State) (xt : Addr) (h0 : Heap) (n0 : Nat) (v : Option Value) (h : Heap) (L : List Loc) : Prop := ∃ (ca : Addr) (kc : ClassId), (v = none) ∧ (Fr n0 L) ∧ (Keep h0 h ([xt] : List Addr)) ∧ (Fld Z h xt "com/example/strict_markup/strictmarkup/Text" "chars" "[C" (.ref ca)) ∧ (h0.size ≤ ca) ∧ (Arv Z h ca kc .char (Int32.ofNat own_t0.length) (own_t0.map Value.int) (.int (0 : Int32))) ∧ (Fld Z h xt "com/example/strict_markup/strictmarkup/Text" "length" "I" (.int (0 : Int32)))
set_option maxRecDepth 65536 in
set_option maxHeartbeats 40000000 in
theorem rm_txI (l : Launch) (Z : State) (a0 : Array Value) (hw : ∀ d ∈ tables_1, d.before a0 Z = true) (ws : List Jvm.Cond) (xt : Addr) (h0 : Heap) (n0 : Nat) (Z0 : n0 ≤ h0.size) (q0 : Exa Z h0 xt "com/example/strict_markup/strictmarkup/Text") (q1 : Fld Z h0 xt "com/example/strict_markup/strictmarkup/Text" "chars" "[C" .null) (q2 : n0 ≤ xt) (q3 : Fld Z h0 xt "com/example/strict_markup/strictmarkup/Text" "length" "I" (.int (0 : Int32))) :
    MetFree l (⟨"com/example/strict_markup/strictmarkup/Text", "<init>", "()V"⟩ : MethodName) (head1 (Jvm.Cond.code (⟨"com/example/strict_markup/strictmarkup/Text", "<init>", "()V"⟩ : MethodName) prog_81_method_1_code 1 none :: ws) ({ frames := 1, cells := 1, slots := 64, locals := 12 } : Room)) (fun a₁ U₁ => a₁ = #[(.ref xt)] ∧ Z.Warmed39 U₁.vm ∧ U₁.heap = h0) (fun _ _ _ _ _ => True) (fun _ U₁ o₁ U₂ => ∃ v₁ L₁, o₁ = .returned v₁ ∧ Q_txI Z xt h0 n0 v₁ U₂.heap L₁ ∧ FrameEnd U₁ o₁ U₂ L₁ ({ frames := 1, cells := 1, slots := 64, locals := 12 } : Room).cells ({ frames := 1, cells := 1, slots := 64, locals := 12 } : Room).slots) := by
  refine MetFree.of_bodySF (plainFor_of_name pn_4) hisR ?_
  intro p e s m args below meth c s₁ Bd hml0 hP hK
  obtain ⟨rfl, hZ, hh⟩ := hP
  have hx := Bd.exec
  have hby := Bd.bytes
  have hml : c.maxLocals = 1 := hml0
  have hown : s.vm.findClass "com/example/strict_markup/strictmarkup/Text" = some m.cls := findClass_of_methodNamed Bd.named
  have hnm := (name_of_methodNamed Bd.named Bd.method).1
  have X0 : Stand p l e ({ frames := 1, cells := 1, slots := 64, locals := 12 } : Room) s m #[(.ref xt)] below meth c s₁ [] 0 0 := Stand.of_body Bd
  have e0 : s₁.heap = h0 := by rw [← hh, Bd.state]; rfl
  have N0 := Fr.nil n0
  have pre0 : ∀ t, Steps p.tables e below (s₁.setTop (mkF m 0 #[.val (.ref xt)] [])) t → Steps p.tables e below (s₁.setTop (entryFrame m #[(.ref xt)] 1)) t := fun t k => castTop (ef_12 m xt) k
  obtain ⟨T301, X301, e301, st301⟩ := initO X0 hx hZ hown (hw _ (List.mem_of_getElem? (i := 52) rfl)) (hw _ (List.mem_of_getElem? (i := 22) rfl)) (hw _ (List.mem_of_getElem? (i := 23) rfl)) e0 (g := (mkF m 1 #[.val (.ref xt)] [(.ref xt)])) rfl (by rw [hml]; rfl) rfl (hb hby d_prog_81_method_1_code_1) (by decide) (W := 0) (by show 2 * 0 + _ ≤ _; exact Nat.le_of_eq rfl) (by decide)
  obtain ⟨T302, h302, ky302, X302, e302, E302, A302, st302⟩ := newP X301 hx hZ (hw _ (List.mem_of_getElem? (i := 1) rfl)) e301 (g := (mkF m 7 #[.val (.ref xt)] [(.int (64 : Int32)), (.ref xt)])) rfl (hb hby d_prog_81_method_1_code_7) rfl ((by decide) : ¬ ((64 : Int32) < (0 : Int32))) (cap := 64) ((by decide) : (64 : Int32).toNatClampNeg ≤ 64) (by decide) (by decide) (by decide)
  obtain ⟨b302, g302⟩ : ∃ z, z = h0.size := ⟨_, rfl⟩
  rw [← g302] at A302 st302
  have V302 : Arv Z h302 b302 ky302 .char (64 : Int32) [] (.int (0 : Int32)) := Arv.new A302 (by decide)
  have U302 : Arv Z h302 b302 ky302 .char (64 : Int32) [(.int (0 : Int32)), (.int (0 : Int32)), (.int (0 : Int32)), (.int (0 : Int32)), (.int (0 : Int32)), (.int (0 : Int32)), (.int (0 : Int32)), (.int (0 : Int32)), (.int (0 : Int32)), (.int (0 : Int32)), (.int (0 : Int32)), (.int (0 : Int32)), (.int (0 : Int32)), (.int (0 : Int32)), (.int (0 : Int32)), (.int (0 : Int32)), (.int (0 : Int32)), (.int (0 : Int32)), (.int (0 : Int32)), (.int (0 : Int32)), (.int (0 : Int32)), (.int (0 : Int32)), (.int (0 : Int32)), (.int (0 : Int32)), (.int (0 : Int32)), (.int (0 : Int32)), (.int (0 : Int32)), (.int (0 : Int32)), (.int (0 : Int32)), (.int (0 : Int32)), (.int (0 : Int32)), (.int (0 : Int32)), (.int (0 : Int32)), (.int (0 : Int32)), (.int (0 : Int32)), (.int (0 : Int32)), (.int (0 : Int32)), (.int (0 : Int32)), (.int (0 : Int32)), (.int (0 : Int32)), (.int (0 : Int32)), (.int (0 : Int32)), (.int (0 : Int32)), (.int (0 : Int32)), (.int (0 : Int32)), (.int (0 : Int32)), (.int (0 : Int32)), (.int (0 : Int32)), (.int (0 : Int32)), (.int (0 : Int32)), (.int (0 : Int32)), (.int (0 : Int32)), (.int (0 : Int32)), (.int (0 : Int32)), (.int (0 : Int32)), (.int (0 : Int32)), (.int (0 : Int32)), (.int (0 : Int32)), (.int (0 : Int32)), (.int (0 : Int32)), (.int (0 : Int32)), (.int (0 : Int32)), (.int (0 : Int32)), (.int (0 : Int32))] (.int (0 : Int32)) := V302.pad (pad_rep [] (.int (0 : Int32)) 64)
  have c303 : Fld Z h302 xt "com/example/strict_markup/strictmarkup/Text" "chars" "[C" .null := (q1.ext E302)
  have c304 : Exa Z h302 xt "com/example/strict_markup/strictmarkup/Text" := (q0.ext E302)
  obtain ⟨T305, h305, X305, e305, W305, st305⟩ := putF X302 hx hZ hown (host := "") (Or.inl (hw _ (List.mem_of_getElem? (i := 53) rfl))) Via.refl e302 c303 c304 (Or.inl (hw _ (List.mem_of_getElem? (i := 54) rfl))) (hw _ (List.mem_of_getElem? (i := 47) rfl)) (ty := (.array .char)) (by decide) rfl rfl (g := (mkF m 9 #[.val (.ref xt)] [(.ref b302), (.ref xt)])) rfl rfl (hb hby d_prog_81_method_1_code_9)
  have N305 := Fr.snoc X305 N0 q2
  have F305 : Fld Z h305 xt "com/example/strict_markup/strictmarkup/Text" "chars" "[C" (.ref b302) := c303.same W305
  have ne306 : xt ≠ b302 := Nat.ne_of_lt (Nat.lt_of_lt_of_le q3.lt (Nat.le_of_eq g302.symm))
  have c307 : Arv Z h305 b302 ky302 .char (64 : Int32) [(.int (0 : Int32)), (.int (0 : Int32)), (.int (0 : Int32)), (.int (0 : Int32)), (.int (0 : Int32)), (.int (0 : Int32)), (.int (0 : Int32)), (.int (0 : Int32)), (.int (0 : Int32)), (.int (0 : Int32)), (.int (0 : Int32)), (.int (0 : Int32)), (.int (0 : Int32)), (.int (0 : Int32)), (.int (0 : Int32)), (.int (0 : Int32)), (.int (0 : Int32)), (.int (0 : Int32)), (.int (0 : Int32)), (.int (0 : Int32)), (.int (0 : Int32)), (.int (0 : Int32)), (.int (0 : Int32)), (.int (0 : Int32)), (.int (0 : Int32)), (.int (0 : Int32)), (.int (0 : Int32)), (.int (0 : Int32)), (.int (0 : Int32)), (.int (0 : Int32)), (.int (0 : Int32)), (.int (0 : Int32)), (.int (0 : Int32)), (.int (0 : Int32)), (.int (0 : Int32)), (.int (0 : Int32)), (.int (0 : Int32)), (.int (0 : Int32)), (.int (0 : Int32)), (.int (0 : Int32)), (.int (0 : Int32)), (.int (0 : Int32)), (.int (0 : Int32)), (.int (0 : Int32)), (.int (0 : Int32)), (.int (0 : Int32)), (.int (0 : Int32)), (.int (0 : Int32)), (.int (0 : Int32)), (.int (0 : Int32)), (.int (0 : Int32)), (.int (0 : Int32)), (.int (0 : Int32)), (.int (0 : Int32)), (.int (0 : Int32)), (.int (0 : Int32)), (.int (0 : Int32)), (.int (0 : Int32)), (.int (0 : Int32)), (.int (0 : Int32)), (.int (0 : Int32)), (.int (0 : Int32)), (.int (0 : Int32)), (.int (0 : Int32))] (.int (0 : Int32)) := (U302.other W305 (Ne.symm ne306))
  have R308 : Arv Z h305 b302 ky302 .char (Int32.ofNat own_t0.length) (own_t0.map Value.int) (.int (0 : Int32)) := by have q := c307; exact q
  have c309 : Fld Z h305 xt "com/example/strict_markup/strictmarkup/Text" "length" "I" (.int (0 : Int32)) := ((q3.ext E302).other W305 (Or.inr (slot_ne (Or.inl (hw _ (List.mem_of_getElem? (i := 61) rfl))) (Or.inl (hw _ (List.mem_of_getElem? (i := 54) rfl))) (by decide) (t := .int) (t' := (.array .char)) (by decide) (by decide))))
  obtain ⟨fs, hr, hrun, hended, hW, hsame⟩ := X305.leave (v := none) (fun _ => rfl)
  refine ⟨_, _, pre0 _ ?_, hrun, hended, _, _, rfl, ?_, ⟨_, rfl⟩, hW, hsame.mono (by decide) (by decide)⟩
  · refine XS.aloadN X0.here hx rfl (hb hby d_prog_81_method_1_code_0) rfl rfl ?_
    show Steps p.tables e below (s₁.setTop (mkF m 1 #[.val (.ref xt)] [(.ref xt)])) _
    refine st301 _ ?_
    show Steps p.tables e below (T301.setTop (mkF m 4 #[.val (.ref xt)] [])) _
    refine XS.aloadN X301.here hx rfl (hb hby d_prog_81_method_1_code_4) rfl rfl ?_
    show Steps p.tables e below (T301.setTop (mkF m 5 #[.val (.ref xt)] [(.ref xt)])) _
    refine XS.bipush X301.here hx rfl (hb hby d_prog_81_method_1_code_5) ?_
    show Steps p.tables e below (T301.setTop (mkF m 7 #[.val (.ref xt)] [(.int (64 : Int32)), (.ref xt)])) _
    refine st302 _ ?_
    show Steps p.tables e below (T302.setTop (mkF m 9 #[.val (.ref xt)] [(.ref b302), (.ref xt)])) _
    refine st305 _ ?_
    show Steps p.tables e below (T305.setTop (mkF m 12 #[.val (.ref xt)] [])) _
    exact X305.returnOut hx Bd.returns (hb hby d_prog_81_method_1_code_12) hr
  · show Q_txI Z xt h0 n0 _ T305.heap _
    rw [e305]
    exact ⟨b302, ky302, rfl, N305, (((Keep.refl h0 ([xt] : List Addr)).ext E302).wr W305 (Or.inl (by simp))), F305, (Nat.le_trans (Nat.le_refl _) (Nat.le_of_eq g302.symm)), R308, c309⟩
theorem d_prog_81_method_8_code_0 : decode prog_81_method_8_code 0 = .ok (.aload_n 0, 1) := by decide +kernel
theorem d_prog_81_method_8_code_1 : decode prog_81_method_8_code 1 = .ok (.getfield 13, 3) := by decide +kernel
theorem d_prog_81_method_8_code_4 : decode prog_81_method_8_code 4 = .ok (.aload_n 0, 1) := by decide +kernel
theorem d_prog_81_method_8_code_5 : decode prog_81_method_8_code 5 = .ok (.getfield 7, 3) := by decide +kernel
theorem d_prog_81_method_8_code_8 : decode prog_81_method_8_code 8 = .ok (.arraylength, 1) := by decide +kernel
theorem d_prog_81_method_8_code_9 : decode prog_81_method_8_code 9 = .ok (.if_icmp .ne 13, 3) := by decide +kernel
theorem d_prog_81_method_8_code_22 : decode prog_81_method_8_code 22 = .ok (.aload_n 0, 1) := by decide +kernel
theorem d_prog_81_method_8_code_23 : decode prog_81_method_8_code 23 = .ok (.getfield 7, 3) := by decide +kernel
theorem d_prog_81_method_8_code_26 : decode prog_81_method_8_code 26 = .ok (.aload_n 0, 1) := by decide +kernel
theorem d_prog_81_method_8_code_27 : decode prog_81_method_8_code 27 = .ok (.dup, 1) := by decide +kernel
theorem d_prog_81_method_8_code_28 : decode prog_81_method_8_code 28 = .ok (.getfield 13, 3) := by decide +kernel
theorem d_prog_81_method_8_code_31 : decode prog_81_method_8_code 31 = .ok (.dup_x1, 1) := by decide +kernel
theorem d_prog_81_method_8_code_32 : decode prog_81_method_8_code 32 = .ok (.iconst 1, 1) := by decide +kernel
theorem d_prog_81_method_8_code_33 : decode prog_81_method_8_code 33 = .ok (.iadd, 1) := by decide +kernel
theorem d_prog_81_method_8_code_34 : decode prog_81_method_8_code 34 = .ok (.putfield 13, 3) := by decide +kernel
theorem d_prog_81_method_8_code_37 : decode prog_81_method_8_code 37 = .ok (.iload_n 1, 1) := by decide +kernel
theorem d_prog_81_method_8_code_38 : decode prog_81_method_8_code 38 = .ok (.castore, 1) := by decide +kernel
theorem d_prog_81_method_8_code_39 : decode prog_81_method_8_code 39 = .ok (.return_, 1) := by decide +kernel
def Q_txA (Z : State) (xt : Addr) (xc : Int32) (ca : Addr) (kc : ClassId) (cs : List Int32) (ct : Nat) (h0 : Heap) (n0 : Nat) (v : Option Value) (h : Heap) (L : List Loc) : Prop := (v = none) ∧ (Fr n0 L) ∧ (Keep h0 h ([xt, ca] : List Addr)) ∧ (Fld Z h xt "com/example/strict_markup/strictmarkup/Text" "length" "I" (.int (Int32.ofNat (ct + 1)))) ∧ (Fld Z h xt "com/example/strict_markup/strictmarkup/Text" "chars" "[C" (.ref ca)) ∧ (Arv Z h ca kc .char (Int32.ofNat (cs.set ct xc).length) ((cs.set ct xc).map Value.int) (.int (0 : Int32)))
set_option maxRecDepth 65536 in
set_option maxHeartbeats 40000000 in
theorem rm_txA (l : Launch) (Z : State) (a0 : Array Value) (hw : ∀ d ∈ tables_1, d.before a0 Z = true) (ws : List Jvm.Cond) (xt : Addr) (xc : Int32) (ca : Addr) (kc : ClassId) (cs : List Int32) (ct : Nat) (h0 : Heap) (n0 : Nat) (Z0 : n0 ≤ h0.size) (q0 : Exa Z h0 xt "com/example/strict_markup/strictmarkup/Text") (q1 : Fld Z h0 xt "com/example/strict_markup/strictmarkup/Text" "length" "I" (.int (Int32.ofNat ct))) (q2 : Fld Z h0 xt "com/example/strict_markup/strictmarkup/Text" "chars" "[C" (.ref ca)) (q3 : Arv Z h0 ca kc .char (Int32.ofNat cs.length) (cs.map Value.int) (.int (0 : Int32))) (q4 : n0 ≤ xt) (q5 : n0 ≤ ca) (q6 : xt ≠ ca) (hct : ct < cs.length) (hN : cs.length < 2 ^ 31) (hxc : nar .char xc = xc) :
    MetFree l (⟨"com/example/strict_markup/strictmarkup/Text", "append", "(C)V"⟩ : MethodName) (head1 (Jvm.Cond.code (⟨"com/example/strict_markup/strictmarkup/Text", "append", "(C)V"⟩ : MethodName) prog_81_method_8_code 2 none :: ws) ({ frames := 0, cells := 0, slots := 0, locals := 0 } : Room)) (fun a₁ U₁ => a₁ = #[(.ref xt), (.int xc)] ∧ Z.Warmed39 U₁.vm ∧ U₁.heap = h0) (fun _ _ _ _ _ => True) (fun _ U₁ o₁ U₂ => ∃ v₁ L₁, o₁ = .returned v₁ ∧ Q_txA Z xt xc ca kc cs ct h0 n0 v₁ U₂.heap L₁ ∧ FrameEnd U₁ o₁ U₂ L₁ ({ frames := 0, cells := 0, slots := 0, locals := 0 } : Room).cells ({ frames := 0, cells := 0, slots := 0, locals := 0 } : Room).slots) := by
  refine MetFree.of_bodySF (plainFor_of_name pn_4) hisR ?_
  intro p e s m args below meth c s₁ Bd hml0 hP hK
  obtain ⟨rfl, hZ, hh⟩ := hP
  have hx := Bd.exec
  have hby := Bd.bytes
  have hml : c.maxLocals = 2 := hml0
  have hown : s.vm.findClass "com/example/strict_markup/strictmarkup/Text" = some m.cls := findClass_of_methodNamed Bd.named
  have hnm := (name_of_methodNamed Bd.named Bd.method).1
  have X0 : Stand p l e ({ frames := 0, cells := 0, slots := 0, locals := 0 } : Room) s m #[(.ref xt), (.int xc)] below meth c s₁ [] 0 0 := Stand.of_body Bd
  have e0 : s₁.heap = h0 := by rw [← hh, Bd.state]; rfl
  have N0 := Fr.nil n0
  have pre0 : ∀ t, Steps p.tables e below (s₁.setTop (mkF m 0 #[.val (.ref xt), .val (.int xc)] [])) t → Steps p.tables e below (s₁.setTop (entryFrame m #[(.ref xt), (.int xc)] 2)) t := fun t k => castTop (ef_2 m xt xc) k
  obtain ⟨T301, X301, e301, st301⟩ := getF X0 hx hZ hown (host := "") (Or.inl (hw _ (List.mem_of_getElem? (i := 60) rfl))) Via.refl e0 q1 (g := (mkF m 1 #[.val (.ref xt), .val (.int xc)] [(.ref xt)])) rfl rfl (hb hby d_prog_81_method_8_code_1)
  obtain ⟨T302, X302, e302, st302⟩ := getF X301 hx hZ hown (host := "") (Or.inl (hw _ (List.mem_of_getElem? (i := 53) rfl))) Via.refl e301 q2 (g := (mkF m 5 #[.val (.ref xt), .val (.int xc)] [(.ref xt), (.int (Int32.ofNat ct))])) rfl rfl (hb hby d_prog_81_method_8_code_5)
  obtain ⟨cl303, Ar303, -, S303, M303, -, -⟩ := id q3
  obtain ⟨T304, X304, e304, st304⟩ := getF X302 hx hZ hown (host := "") (Or.inl (hw _ (List.mem_of_getElem? (i := 53) rfl))) Via.refl e302 q2 (g := (mkF m 23 #[.val (.ref xt), .val (.int xc)] [(.ref xt)])) rfl rfl (hb hby d_prog_81_method_8_code_23)
  obtain ⟨T305, X305, e305, st305⟩ := getF X304 hx hZ hown (host := "") (Or.inl (hw _ (List.mem_of_getElem? (i := 60) rfl))) Via.refl e304 q1 (g := (mkF m 28 #[.val (.ref xt), .val (.int xc)] [(.ref xt), (.ref xt), (.ref ca)])) rfl rfl (hb hby d_prog_81_method_8_code_28)
  obtain ⟨T306, h306, X306, e306, W306, st306⟩ := putF X305 hx hZ hown (host := "") (Or.inl (hw _ (List.mem_of_getElem? (i := 60) rfl))) Via.refl e305 q1 q0 (Or.inl (hw _ (List.mem_of_getElem? (i := 61) rfl))) (hw _ (List.mem_of_getElem? (i := 47) rfl)) (ty := .int) (by decide) rfl rfl (g := (mkF m 34 #[.val (.ref xt), .val (.int xc)] [(.int (Int32.ofNat (ct + 1))), (.ref xt), (.int (Int32.ofNat ct)), (.ref ca)])) rfl rfl (hb hby d_prog_81_method_8_code_34)
  have N306 := Fr.snoc X306 N0 q4
  have F306 : Fld Z h306 xt "com/example/strict_markup/strictmarkup/Text" "length" "I" (.int (Int32.ofNat (ct + 1))) := q1.same W306
  have c307 : Arv Z h306 ca kc .char (Int32.ofNat cs.length) (cs.map Value.int) (.int (0 : Int32)) := (q3.other W306 (Ne.symm q6))
  obtain ⟨cl308, Ar308, qq308, S308, M308, Hh308, U308⟩ := id c307
  obtain ⟨T308, h308, X308, e308, W308, st308⟩ := stC X306 hx hZ e306 Ar308 (j := (Int32.ofNat ct)) (inb_of S308 (own_inb hct hN)) (g := (mkF m 38 #[.val (.ref xt), .val (.int xc)] [(.int xc), (.int (Int32.ofNat ct)), (.ref ca)])) rfl rfl (hb hby d_prog_81_method_8_code_38)
  have N308 := Fr.snoc X308 N306 q5
  have V308 : Arv Z h308 ca kc .char (Int32.ofNat cs.length) ((cs.map Value.int).set ct (.int (nar .char xc))) (.int (0 : Int32)) := Arv.set Ar308 qq308 S308 M308 Hh308 U308 (fits_nar_char _) W308 ct (own_clamp (by omega)) (by rw [List.length_map]; exact hct)
  have VR308 : Arv Z h308 ca kc .char (Int32.ofNat cs.length) ((cs.map Value.int).set ct (.int xc)) (.int (0 : Int32)) := by have q := V308; rw [hxc] at q; exact q
  have R309 : Arv Z h308 ca kc .char (Int32.ofNat (cs.set ct xc).length) ((cs.set ct xc).map Value.int) (.int (0 : Int32)) := by have q := VR308; rw [List.length_set, List.map_set]; exact q
  have c310 : Fld Z h308 xt "com/example/strict_markup/strictmarkup/Text" "length" "I" (.int (Int32.ofNat (ct + 1))) := (F306.other W308 (Or.inl q6))
  have c311 : Fld Z h308 xt "com/example/strict_markup/strictmarkup/Text" "chars" "[C" (.ref ca) := ((q2.other W306 (Or.inr (slot_ne (Or.inl (hw _ (List.mem_of_getElem? (i := 54) rfl))) (Or.inl (hw _ (List.mem_of_getElem? (i := 61) rfl))) (by decide) (t := (.array .char)) (t' := .int) (by decide) (by decide)))).other W308 (Or.inl q6))
  obtain ⟨fs, hr, hrun, hended, hW, hsame⟩ := X308.leave (v := none) (fun _ => rfl)
  refine ⟨_, _, pre0 _ ?_, hrun, hended, _, _, rfl, ?_, ⟨_, rfl⟩, hW, hsame.mono (by decide) (by decide)⟩
  · refine XS.aloadN X0.here hx rfl (hb hby d_prog_81_method_8_code_0) rfl rfl ?_
    show Steps p.tables e below (s₁.setTop (mkF m 1 #[.val (.ref xt), .val (.int xc)] [(.ref xt)])) _
    refine st301 _ ?_
    show Steps p.tables e below (T301.setTop (mkF m 4 #[.val (.ref xt), .val (.int xc)] [(.int (Int32.ofNat ct))])) _
    refine XS.aloadN X301.here hx rfl (hb hby d_prog_81_method_8_code_4) rfl rfl ?_
    show Steps p.tables e below (T301.setTop (mkF m 5 #[.val (.ref xt), .val (.int xc)] [(.ref xt), (.int (Int32.ofNat ct))])) _
    refine st302 _ ?_
    show Steps p.tables e below (T302.setTop (mkF m 8 #[.val (.ref xt), .val (.int xc)] [(.ref ca), (.int (Int32.ofNat ct))])) _
    refine X302.arraylength hx (by rw [e302]; exact Ar303.1) (State.isArrayOf_alike hZ.alike Ar303.2.1) (g := (mkF m 8 #[.val (.ref xt), .val (.int xc)] [(.ref ca), (.int (Int32.ofNat ct))])) rfl rfl (hb hby d_prog_81_method_8_code_8) _ ?_
    rw [len_of S303 M303]
    show Steps p.tables e below (T302.setTop (mkF m 9 #[.val (.ref xt), .val (.int xc)] [(.int (Int32.ofNat cs.length)), (.int (Int32.ofNat ct))])) _
    refine XS.icmpYes X302.here hx rfl (pc0 := 9) (pc' := 22) rfl (hb hby d_prog_81_method_8_code_9) rfl (feq ((fun q => absurd (own_oinj (by omega) hN q) (by omega)) : ¬ ((Int32.ofNat ct) = (Int32.ofNat cs.length)))).2 (by decide) (by decide) ?_
    show Steps p.tables e below (T302.setTop (mkF m 22 #[.val (.ref xt), .val (.int xc)] [])) _
    refine XS.aloadN X302.here hx rfl (hb hby d_prog_81_method_8_code_22) rfl rfl ?_
    show Steps p.tables e below (T302.setTop (mkF m 23 #[.val (.ref xt), .val (.int xc)] [(.ref xt)])) _
    refine st304 _ ?_
    show Steps p.tables e below (T304.setTop (mkF m 26 #[.val (.ref xt), .val (.int xc)] [(.ref ca)])) _
    refine XS.aloadN X304.here hx rfl (hb hby d_prog_81_method_8_code_26) rfl rfl ?_
    show Steps p.tables e below (T304.setTop (mkF m 27 #[.val (.ref xt), .val (.int xc)] [(.ref xt), (.ref ca)])) _
    refine XS.dup X304.here hx rfl (hb hby d_prog_81_method_8_code_27) rfl rfl ?_
    show Steps p.tables e below (T304.setTop (mkF m 28 #[.val (.ref xt), .val (.int xc)] [(.ref xt), (.ref xt), (.ref ca)])) _
    refine st305 _ ?_
    show Steps p.tables e below (T305.setTop (mkF m 31 #[.val (.ref xt), .val (.int xc)] [(.int (Int32.ofNat ct)), (.ref xt), (.ref ca)])) _
    refine XS.dupX1 X305.here hx rfl (hb hby d_prog_81_method_8_code_31) rfl rfl rfl ?_
    show Steps p.tables e below (T305.setTop (mkF m 32 #[.val (.ref xt), .val (.int xc)] [(.int (Int32.ofNat ct)), (.ref xt), (.int (Int32.ofNat ct)), (.ref ca)])) _
    refine XS.iconst X305.here hx rfl (hb hby d_prog_81_method_8_code_32) ?_
    show Steps p.tables e below (T305.setTop (mkF m 33 #[.val (.ref xt), .val (.int xc)] [(.int (1 : Int32)), (.int (Int32.ofNat ct)), (.ref xt), (.int (Int32.ofNat ct)), (.ref ca)])) _
    refine XS.iadd X305.here hx rfl (hb hby d_prog_81_method_8_code_33) rfl ?_
    show Steps p.tables e below (T305.setTop (mkF m 34 #[.val (.ref xt), .val (.int xc)] [(.int ((Int32.ofNat ct) + (1 : Int32))), (.ref xt), (.int (Int32.ofNat ct)), (.ref ca)])) _
    rw [← inc_ofNat]
    show Steps p.tables e below (T305.setTop (mkF m 34 #[.val (.ref xt), .val (.int xc)] [(.int (Int32.ofNat (ct + 1))), (.ref xt), (.int (Int32.ofNat ct)), (.ref ca)])) _
    refine st306 _ ?_
    show Steps p.tables e below (T306.setTop (mkF m 37 #[.val (.ref xt), .val (.int xc)] [(.int (Int32.ofNat ct)), (.ref ca)])) _
    refine XS.iloadN X306.here hx rfl (hb hby d_prog_81_method_8_code_37) rfl ?_
    show Steps p.tables e below (T306.setTop (mkF m 38 #[.val (.ref xt), .val (.int xc)] [(.int xc), (.int (Int32.ofNat ct)), (.ref ca)])) _
    refine st308 _ ?_
    show Steps p.tables e below (T308.setTop (mkF m 39 #[.val (.ref xt), .val (.int xc)] [])) _
    exact X308.returnOut hx Bd.returns (hb hby d_prog_81_method_8_code_39) hr
  · show Q_txA Z xt xc ca kc cs ct h0 n0 _ T308.heap _
    rw [e308]
    exact ⟨rfl, N308, (((Keep.refl h0 ([xt, ca] : List Addr)).wr W306 (Or.inl (by simp))).wr W308 (Or.inl (by simp))), c310, c311, R309⟩
theorem d_prog_81_method_2_code_0 : decode prog_81_method_2_code 0 = .ok (.aload_n 0, 1) := by decide +kernel
theorem d_prog_81_method_2_code_1 : decode prog_81_method_2_code 1 = .ok (.getfield 7, 3) := by decide +kernel
theorem d_prog_81_method_2_code_4 : decode prog_81_method_2_code 4 = .ok (.areturn, 1) := by decide +kernel
def Q_txR (Z : State) (xt : Addr) (ca : Addr) (h0 : Heap) (n0 : Nat) (v : Option Value) (h : Heap) (L : List Loc) : Prop := (v = some (.ref ca)) ∧ (Fr n0 L) ∧ (h = h0)
set_option maxRecDepth 65536 in
set_option maxHeartbeats 40000000 in
theorem rm_txR (l : Launch) (Z : State) (a0 : Array Value) (hw : ∀ d ∈ tables_1, d.before a0 Z = true) (ws : List Jvm.Cond) (xt : Addr) (ca : Addr) (h0 : Heap) (n0 : Nat) (Z0 : n0 ≤ h0.size) (q0 : Fld Z h0 xt "com/example/strict_markup/strictmarkup/Text" "chars" "[C" (.ref ca)) :
    MetFree l (⟨"com/example/strict_markup/strictmarkup/Text", "array", "()[C"⟩ : MethodName) (head1 (Jvm.Cond.code (⟨"com/example/strict_markup/strictmarkup/Text", "array", "()[C"⟩ : MethodName) prog_81_method_2_code 1 (some (.array .char)) :: ws) ({ frames := 0, cells := 0, slots := 0, locals := 0 } : Room)) (fun a₁ U₁ => a₁ = #[(.ref xt)] ∧ Z.Warmed39 U₁.vm ∧ U₁.heap = h0) (fun _ _ _ _ _ => True) (fun _ U₁ o₁ U₂ => ∃ v₁ L₁, o₁ = .returned v₁ ∧ Q_txR Z xt ca h0 n0 v₁ U₂.heap L₁ ∧ FrameEnd U₁ o₁ U₂ L₁ ({ frames := 0, cells := 0, slots := 0, locals := 0 } : Room).cells ({ frames := 0, cells := 0, slots := 0, locals := 0 } : Room).slots) := by
  refine MetFree.of_bodySF (plainFor_of_name pn_4) hisR ?_
  intro p e s m args below meth c s₁ Bd hml0 hP hK
  obtain ⟨rfl, hZ, hh⟩ := hP
  have hx := Bd.exec
  have hby := Bd.bytes
  have hml : c.maxLocals = 1 := hml0
  have hown : s.vm.findClass "com/example/strict_markup/strictmarkup/Text" = some m.cls := findClass_of_methodNamed Bd.named
  have hnm := (name_of_methodNamed Bd.named Bd.method).1
  have X0 : Stand p l e ({ frames := 0, cells := 0, slots := 0, locals := 0 } : Room) s m #[(.ref xt)] below meth c s₁ [] 0 0 := Stand.of_body Bd
  have e0 : s₁.heap = h0 := by rw [← hh, Bd.state]; rfl
  have N0 := Fr.nil n0
  have pre0 : ∀ t, Steps p.tables e below (s₁.setTop (mkF m 0 #[.val (.ref xt)] [])) t → Steps p.tables e below (s₁.setTop (entryFrame m #[(.ref xt)] 1)) t := fun t k => castTop (ef_12 m xt) k
  obtain ⟨T301, X301, e301, st301⟩ := getF X0 hx hZ hown (host := "") (Or.inl (hw _ (List.mem_of_getElem? (i := 53) rfl))) Via.refl e0 q0 (g := (mkF m 1 #[.val (.ref xt)] [(.ref xt)])) rfl rfl (hb hby d_prog_81_method_2_code_1)
  obtain ⟨fs, hr, hrun, hended, hW, hsame⟩ := X301.leave (v := some (.ref ca)) (fun h => by rw [Bd.returns] at h; cases h)
  refine ⟨_, _, pre0 _ ?_, hrun, hended, _, _, rfl, ?_, ⟨_, rfl⟩, hW, hsame.mono (by decide) (by decide)⟩
  · refine XS.aloadN X0.here hx rfl (hb hby d_prog_81_method_2_code_0) rfl rfl ?_
    show Steps p.tables e below (s₁.setTop (mkF m 1 #[.val (.ref xt)] [(.ref xt)])) _
    refine st301 _ ?_
    show Steps p.tables e below (T301.setTop (mkF m 4 #[.val (.ref xt)] [(.ref ca)])) _
    jvm_step X301.here [X301.here.top, hx, (hb hby d_prog_81_method_2_code_4), X301.method', Bd.returns, Value.isRef, FieldType.isReference]
    first | (intro acts; rw [hr _ acts rfl rfl rfl]) | rw [hr _ _ rfl rfl rfl]
    exact Steps.refl _
  · show Q_txR Z xt ca h0 n0 _ T301.heap _
    rw [e301]
    exact ⟨rfl, N0, rfl⟩
theorem d_prog_1_method_1_code_0 : decode prog_1_method_1_code 0 = .ok (.aload_n 0, 1) := by decide +kernel
theorem d_prog_1_method_1_code_1 : decode prog_1_method_1_code 1 = .ok (.invokespecial 1, 3) := by decide +kernel
theorem d_prog_1_method_1_code_4 : decode prog_1_method_1_code 4 = .ok (.return_, 1) := by decide +kernel
theorem pn_5 : plainName "com/example/strict_markup/strictmarkup/Attribute" = true := by first | (simp [plainName, overriddenIn]; done) | decide +kernel
def Q_atI (Z : State) (xa : Addr) (h0 : Heap) (n0 : Nat) (v : Option Value) (h : Heap) (L : List Loc) : Prop := (v = none) ∧ (Fr n0 L) ∧ (h = h0)
set_option maxRecDepth 65536 in
set_option maxHeartbeats 40000000 in
theorem rm_atI (l : Launch) (Z : State) (a0 : Array Value) (hw : ∀ d ∈ tables_1, d.before a0 Z = true) (ws : List Jvm.Cond) (xa : Addr) (h0 : Heap) (n0 : Nat) (Z0 : n0 ≤ h0.size) (q0 : Exa Z h0 xa "com/example/strict_markup/strictmarkup/Attribute") :
    MetFree l (⟨"com/example/strict_markup/strictmarkup/Attribute", "<init>", "()V"⟩ : MethodName) (head1 (Jvm.Cond.code (⟨"com/example/strict_markup/strictmarkup/Attribute", "<init>", "()V"⟩ : MethodName) prog_1_method_1_code 1 none :: ws) ({ frames := 1, cells := 0, slots := 0, locals := 12 } : Room)) (fun a₁ U₁ => a₁ = #[(.ref xa)] ∧ Z.Warmed39 U₁.vm ∧ U₁.heap = h0) (fun _ _ _ _ _ => True) (fun _ U₁ o₁ U₂ => ∃ v₁ L₁, o₁ = .returned v₁ ∧ Q_atI Z xa h0 n0 v₁ U₂.heap L₁ ∧ FrameEnd U₁ o₁ U₂ L₁ ({ frames := 1, cells := 0, slots := 0, locals := 12 } : Room).cells ({ frames := 1, cells := 0, slots := 0, locals := 12 } : Room).slots) := by
  refine MetFree.of_bodySF (plainFor_of_name pn_5) hisR ?_
  intro p e s m args below meth c s₁ Bd hml0 hP hK
  obtain ⟨rfl, hZ, hh⟩ := hP
  have hx := Bd.exec
  have hby := Bd.bytes
  have hml : c.maxLocals = 1 := hml0
  have hown : s.vm.findClass "com/example/strict_markup/strictmarkup/Attribute" = some m.cls := findClass_of_methodNamed Bd.named
  have hnm := (name_of_methodNamed Bd.named Bd.method).1
  have X0 : Stand p l e ({ frames := 1, cells := 0, slots := 0, locals := 12 } : Room) s m #[(.ref xa)] below meth c s₁ [] 0 0 := Stand.of_body Bd
  have e0 : s₁.heap = h0 := by rw [← hh, Bd.state]; rfl
  have N0 := Fr.nil n0
  have pre0 : ∀ t, Steps p.tables e below (s₁.setTop (mkF m 0 #[.val (.ref xa)] [])) t → Steps p.tables e below (s₁.setTop (entryFrame m #[(.ref xa)] 1)) t := fun t k => castTop (ef_12 m xa) k
  obtain ⟨T301, X301, e301, st301⟩ := initO X0 hx hZ hown (hw _ (List.mem_of_getElem? (i := 68) rfl)) (hw _ (List.mem_of_getElem? (i := 22) rfl)) (hw _ (List.mem_of_getElem? (i := 23) rfl)) e0 (g := (mkF m 1 #[.val (.ref xa)] [(.ref xa)])) rfl (by rw [hml]; rfl) rfl (hb hby d_prog_1_method_1_code_1) (by decide) (W := 0) (by show 2 * 0 + _ ≤ _; exact Nat.le_of_eq rfl) (by decide)
  obtain ⟨fs, hr, hrun, hended, hW, hsame⟩ := X301.leave (v := none) (fun _ => rfl)
  refine ⟨_, _, pre0 _ ?_, hrun, hended, _, _, rfl, ?_, ⟨_, rfl⟩, hW, hsame.mono (by decide) (by decide)⟩
  · refine XS.aloadN X0.here hx rfl (hb hby d_prog_1_method_1_code_0) rfl rfl ?_
    show Steps p.tables e below (s₁.setTop (mkF m 1 #[.val (.ref xa)] [(.ref xa)])) _
    refine st301 _ ?_
    show Steps p.tables e below (T301.setTop (mkF m 4 #[.val (.ref xa)] [])) _
    exact X301.returnOut hx Bd.returns (hb hby d_prog_1_method_1_code_4) hr
  · show Q_atI Z xa h0 n0 _ T301.heap _
    rw [e301]
    exact ⟨rfl, N0, rfl⟩
theorem d_prog_1_method_3_code_0 : decode prog_1_method_3_code 0 = .ok (.aload_n 0, 1) := by decide +kernel
theorem d_prog_1_method_3_code_1 : decode prog_1_method_3_code 1 = .ok (.aload_n 1, 1) := by decide +kernel
theorem d_prog_1_method_3_code_2 : decode prog_1_method_3_code 2 = .ok (.putfield 10, 3) := by decide +kernel
theorem d_prog_1_method_3_code_5 : decode prog_1_method_3_code 5 = .ok (.aload_n 0, 1) := by decide +kernel
theorem d_prog_1_method_3_code_6 : decode prog_1_method_3_code 6 = .ok (.aload_n 2, 1) := by decide +kernel
theorem d_prog_1_method_3_code_7 : decode prog_1_method_3_code 7 = .ok (.putfield 14, 3) := by decide +kernel
theorem d_prog_1_method_3_code_10 : decode prog_1_method_3_code 10 = .ok (.aload_n 0, 1) := by decide +kernel
theorem d_prog_1_method_3_code_11 : decode prog_1_method_3_code 11 = .ok (.iload_n 3, 1) := by decide +kernel
theorem d_prog_1_method_3_code_12 : decode prog_1_method_3_code 12 = .ok (.putfield 17, 3) := by decide +kernel
theorem d_prog_1_method_3_code_15 : decode prog_1_method_3_code 15 = .ok (.aload_n 0, 1) := by decide +kernel
theorem d_prog_1_method_3_code_16 : decode prog_1_method_3_code 16 = .ok (.iconst 1, 1) := by decide +kernel
theorem d_prog_1_method_3_code_17 : decode prog_1_method_3_code 17 = .ok (.putfield 24, 3) := by decide +kernel
theorem d_prog_1_method_3_code_20 : decode prog_1_method_3_code 20 = .ok (.aload_n 0, 1) := by decide +kernel
theorem d_prog_1_method_3_code_21 : decode prog_1_method_3_code 21 = .ok (.aconst_null, 1) := by decide +kernel
theorem d_prog_1_method_3_code_22 : decode prog_1_method_3_code 22 = .ok (.putfield 21, 3) := by decide +kernel
theorem d_prog_1_method_3_code_25 : decode prog_1_method_3_code 25 = .ok (.aload_n 0, 1) := by decide +kernel
theorem d_prog_1_method_3_code_26 : decode prog_1_method_3_code 26 = .ok (.aload 4, 2) := by decide +kernel
theorem d_prog_1_method_3_code_28 : decode prog_1_method_3_code 28 = .ok (.putfield 27, 3) := by decide +kernel
theorem d_prog_1_method_3_code_31 : decode prog_1_method_3_code 31 = .ok (.aload_n 0, 1) := by decide +kernel
theorem d_prog_1_method_3_code_32 : decode prog_1_method_3_code 32 = .ok (.iload 5, 2) := by decide +kernel
theorem d_prog_1_method_3_code_34 : decode prog_1_method_3_code 34 = .ok (.putfield 31, 3) := by decide +kernel
theorem d_prog_1_method_3_code_37 : decode prog_1_method_3_code 37 = .ok (.aload_n 0, 1) := by decide +kernel
theorem d_prog_1_method_3_code_38 : decode prog_1_method_3_code 38 = .ok (.iload 6, 2) := by decide +kernel
theorem d_prog_1_method_3_code_40 : decode prog_1_method_3_code 40 = .ok (.putfield 35, 3) := by decide +kernel
theorem d_prog_1_method_3_code_43 : decode prog_1_method_3_code 43 = .ok (.return_, 1) := by decide +kernel
theorem ef_13 (m : MethodId) (x0 : Addr) (x1 : Addr) (x2 : Addr) (x3 : Int32) (x5 : Int32) (x6 : Int32) : entryFrame m #[(.ref x0), (.ref x1), (.ref x2), (.int x3), .null, (.int x5), (.int x6)] 7 = mkF m 0 #[.val (.ref x0), .val (.ref x1), .val (.ref x2), .val (.int x3), .val .null, .val (.int x5), .val (.int x6)] [] := by first | (simp [entryFrame, mkF, argsToLocals, Value.category]; done) | rfl
def Q_spN (Z : State) (xa : Addr) (sn : Addr) (sy : Addr) (xd : Int32) (xo : Int32) (xl : Int32) (v1 : Value) (v2 : Value) (d1 : Int32) (d2 : Int32) (v3 : Value) (v4 : Value) (d3 : Int32) (d4 : Int32) (h0 : Heap) (n0 : Nat) (v : Option Value) (h : Heap) (L : List Loc) : Prop := (v = none) ∧ (Fr n0 L) ∧ (Keep h0 h ([xa] : List Addr)) ∧ (Fld Z h xa "com/example/strict_markup/strictmarkup/Attribute" "name" "Ljava/lang/String;" (.ref sn)) ∧ (Fld Z h xa "com/example/strict_markup/strictmarkup/Attribute" "type" "Ljava/lang/String;" (.ref sy)) ∧ (Fld Z h xa "com/example/strict_markup/strictmarkup/Attribute" "declared" "Z" (.int xd)) ∧ (Fld Z h xa "com/example/strict_markup/strictmarkup/Attribute" "specified" "Z" (.int (1 : Int32))) ∧ (Fld Z h xa "com/example/strict_markup/strictmarkup/Attribute" "value" "Ljava/lang/String;" .null) ∧ (Fld Z h xa "com/example/strict_markup/strictmarkup/Attribute" "text" "Lcom/example/strict_markup/strictmarkup/Text;" .null) ∧ (Fld Z h xa "com/example/strict_markup/strictmarkup/Attribute" "start" "I" (.int xo)) ∧ (Fld Z h xa "com/example/strict_markup/strictmarkup/Attribute" "length" "I" (.int xl))
set_option maxRecDepth 65536 in
set_option maxHeartbeats 40000000 in
theorem rm_spN (l : Launch) (Z : State) (a0 : Array Value) (hw : ∀ d ∈ tables_1, d.before a0 Z = true) (ws : List Jvm.Cond) (xa : Addr) (sn : Addr) (sy : Addr) (xd : Int32) (xo : Int32) (xl : Int32) (v1 : Value) (v2 : Value) (d1 : Int32) (d2 : Int32) (v3 : Value) (v4 : Value) (d3 : Int32) (d4 : Int32) (h0 : Heap) (n0 : Nat) (Z0 : n0 ≤ h0.size) (q0 : Exa Z h0 xa "com/example/strict_markup/strictmarkup/Attribute") (q1 : n0 ≤ xa) (hxd : nar .boolean xd = xd) (q3 : Fld Z h0 xa "com/example/strict_markup/strictmarkup/Attribute" "name" "Ljava/lang/String;" v1) (q4 : Fld Z h0 xa "com/example/strict_markup/strictmarkup/Attribute" "type" "Ljava/lang/String;" v2) (q5 : Fld Z h0 xa "com/example/strict_markup/strictmarkup/Attribute" "declared" "Z" (.int d1)) (q6 : Fld Z h0 xa "com/example/strict_markup/strictmarkup/Attribute" "specified" "Z" (.int d2)) (q7 : Fld Z h0 xa "com/example/strict_markup/strictmarkup/Attribute" "value" "Ljava/lang/String;" v3) (q8 : Fld Z h0 xa "com/example/strict_markup/strictmarkup/Attribute" "text" "Lcom/example/strict_markup/strictmarkup/Text;" v4) (q9 : Fld Z h0 xa "com/example/strict_markup/strictmarkup/Attribute" "start" "I" (.int d3)) (q10 : Fld Z h0 xa "com/example/strict_markup/strictmarkup/Attribute" "length" "I" (.int d4)) :
    MetFree l (⟨"com/example/strict_markup/strictmarkup/Attribute", "specify", "(Ljava/lang/String;Ljava/lang/String;ZLcom/example/strict_markup/strictmarkup/Text;II)V"⟩ : MethodName) (head1 (Jvm.Cond.code (⟨"com/example/strict_markup/strictmarkup/Attribute", "specify", "(Ljava/lang/String;Ljava/lang/String;ZLcom/example/strict_markup/strictmarkup/Text;II)V"⟩ : MethodName) prog_1_method_3_code 7 none :: ws) ({ frames := 0, cells := 0, slots := 0, locals := 0 } : Room)) (fun a₁ U₁ => a₁ = #[(.ref xa), (.ref sn), (.ref sy), (.int xd), .null, (.int xo), (.int xl)] ∧ Z.Warmed39 U₁.vm ∧ U₁.heap = h0) (fun _ _ _ _ _ => True) (fun _ U₁ o₁ U₂ => ∃ v₁ L₁, o₁ = .returned v₁ ∧ Q_spN Z xa sn sy xd xo xl v1 v2 d1 d2 v3 v4 d3 d4 h0 n0 v₁ U₂.heap L₁ ∧ FrameEnd U₁ o₁ U₂ L₁ ({ frames := 0, cells := 0, slots := 0, locals := 0 } : Room).cells ({ frames := 0, cells := 0, slots := 0, locals := 0 } : Room).slots) := by
  refine MetFree.of_bodySF (plainFor_of_name pn_5) hisR ?_
  intro p e s m args below meth c s₁ Bd hml0 hP hK
  obtain ⟨rfl, hZ, hh⟩ := hP
  have hx := Bd.exec
  have hby := Bd.bytes
  have hml : c.maxLocals = 7 := hml0
  have hown : s.vm.findClass "com/example/strict_markup/strictmarkup/Attribute" = some m.cls := findClass_of_methodNamed Bd.named
  have hnm := (name_of_methodNamed Bd.named Bd.method).1
  have X0 : Stand p l e ({ frames := 0, cells := 0, slots := 0, locals := 0 } : Room) s m #[(.ref xa), (.ref sn), (.ref sy), (.int xd), .null, (.int xo), (.int xl)] below meth c s₁ [] 0 0 := Stand.of_body Bd
  have e0 : s₁.heap = h0 := by rw [← hh, Bd.state]; rfl
  have N0 := Fr.nil n0
  have pre0 : ∀ t, Steps p.tables e below (s₁.setTop (mkF m 0 #[.val (.ref xa), .val (.ref sn), .val (.ref sy), .val (.int xd), .val .null, .val (.int xo), .val (.int xl)] [])) t → Steps p.tables e below (s₁.setTop (entryFrame m #[(.ref xa), (.ref sn), (.ref sy), (.int xd), .null, (.int xo), (.int xl)] 7)) t := fun t k => castTop (ef_13 m xa sn sy xd xo xl) k
  obtain ⟨T301, h301, X301, e301, W301, st301⟩ := putF X0 hx hZ hown (host := "") (Or.inl (hw _ (List.mem_of_getElem? (i := 79) rfl))) Via.refl e0 q3 q0 (Or.inl (hw _ (List.mem_of_getElem? (i := 80) rfl))) (hw _ (List.mem_of_getElem? (i := 63) rfl)) (ty := (.object "java/lang/String")) (by decide) rfl rfl (g := (mkF m 2 #[.val (.ref xa), .val (.ref sn), .val (.ref sy), .val (.int xd), .val .null, .val (.int xo), .val (.int xl)] [(.ref sn), (.ref xa)])) rfl rfl (hb hby d_prog_1_method_3_code_2)
  have N301 := Fr.snoc X301 N0 q1
  have F301 : Fld Z h301 xa "com/example/strict_markup/strictmarkup/Attribute" "name" "Ljava/lang/String;" (.ref sn) := q3.same W301
  have c302 : Fld Z h301 xa "com/example/strict_markup/strictmarkup/Attribute" "type" "Ljava/lang/String;" v2 := (q4.other W301 (Or.inr (slot_ne (Or.inl (hw _ (List.mem_of_getElem? (i := 82) rfl))) (Or.inl (hw _ (List.mem_of_getElem? (i := 80) rfl))) (by decide) (t := (.object "java/lang/String")) (t' := (.object "java/lang/String")) (by decide) (by decide))))
  have c303 : Exa Z h301 xa "com/example/strict_markup/strictmarkup/Attribute" := (q0.wr W301)
  obtain ⟨T304, h304, X304, e304, W304, st304⟩ := putF X301 hx hZ hown (host := "") (Or.inl (hw _ (List.mem_of_getElem? (i := 81) rfl))) Via.refl e301 c302 c303 (Or.inl (hw _ (List.mem_of_getElem? (i := 82) rfl))) (hw _ (List.mem_of_getElem? (i := 63) rfl)) (ty := (.object "java/lang/String")) (by decide) rfl rfl (g := (mkF m 7 #[.val (.ref xa), .val (.ref sn), .val (.ref sy), .val (.int xd), .val .null, .val (.int xo), .val (.int xl)] [(.ref sy), (.ref xa)])) rfl rfl (hb hby d_prog_1_method_3_code_7)
  have N304 := Fr.snoc X304 N301 q1
  have F304 : Fld Z h304 xa "com/example/strict_markup/strictmarkup/Attribute" "type" "Ljava/lang/String;" (.ref sy) := c302.same W304
  have c305 : Fld Z h304 xa "com/example/strict_markup/strictmarkup/Attribute" "declared" "Z" (.int d1) := ((q5.other W301 (Or.inr (slot_ne (Or.inl (hw _ (List.mem_of_getElem? (i := 84) rfl))) (Or.inl (hw _ (List.mem_of_getElem? (i := 80) rfl))) (by decide) (t := .boolean) (t' := (.object "java/lang/String")) (by decide) (by decide)))).other W304 (Or.inr (slot_ne (Or.inl (hw _ (List.mem_of_getElem? (i := 84) rfl))) (Or.inl (hw _ (List.mem_of_getElem? (i := 82) rfl))) (by decide) (t := .boolean) (t' := (.object "java/lang/String")) (by decide) (by decide))))
  have c306 : Exa Z h304 xa "com/example/strict_markup/strictmarkup/Attribute" := (c303.wr W304)
  obtain ⟨T307, h307, X307, e307, W307, st307⟩ := putFN X304 hx hZ hown (hw _ (List.mem_of_getElem? (i := 83) rfl)) Via.refl e304 c305 c306 (Or.inl (hw _ (List.mem_of_getElem? (i := 84) rfl))) (hw _ (List.mem_of_getElem? (i := 63) rfl)) (ty := .boolean) (v' := (.int xd)) (by decide) ((show narrow .boolean (.int xd) = .int (nar .boolean xd) from rfl).trans (congrArg Value.int hxd)) (by have q := fits_nar_bool xd; rw [hxd] at q; exact q) (g := (mkF m 12 #[.val (.ref xa), .val (.ref sn), .val (.ref sy), .val (.int xd), .val .null, .val (.int xo), .val (.int xl)] [(.int xd), (.ref xa)])) rfl rfl (hb hby d_prog_1_method_3_code_12)
  have N307 := Fr.snoc X307 N304 q1
  have F307 : Fld Z h307 xa "com/example/strict_markup/strictmarkup/Attribute" "declared" "Z" (.int xd) := c305.same W307
  have c308 : Fld Z h307 xa "com/example/strict_markup/strictmarkup/Attribute" "specified" "Z" (.int d2) := (((q6.other W301 (Or.inr (slot_ne (Or.inl (hw _ (List.mem_of_getElem? (i := 86) rfl))) (Or.inl (hw _ (List.mem_of_getElem? (i := 80) rfl))) (by decide) (t := .boolean) (t' := (.object "java/lang/String")) (by decide) (by decide)))).other W304 (Or.inr (slot_ne (Or.inl (hw _ (List.mem_of_getElem? (i := 86) rfl))) (Or.inl (hw _ (List.mem_of_getElem? (i := 82) rfl))) (by decide) (t := .boolean) (t' := (.object "java/lang/String")) (by decide) (by decide)))).other W307 (Or.inr (slot_ne (Or.inl (hw _ (List.mem_of_getElem? (i := 86) rfl))) (Or.inl (hw _ (List.mem_of_getElem? (i := 84) rfl))) (by decide) (t := .boolean) (t' := .boolean) (by decide) (by decide))))
  have c309 : Exa Z h307 xa "com/example/strict_markup/strictmarkup/Attribute" := (c306.wr W307)
  obtain ⟨T310, h310, X310, e310, W310, st310⟩ := putFN X307 hx hZ hown (hw _ (List.mem_of_getElem? (i := 85) rfl)) Via.refl e307 c308 c309 (Or.inl (hw _ (List.mem_of_getElem? (i := 86) rfl))) (hw _ (List.mem_of_getElem? (i := 63) rfl)) (ty := .boolean) (v' := (.int (1 : Int32))) (by decide) rfl rfl (g := (mkF m 17 #[.val (.ref xa), .val (.ref sn), .val (.ref sy), .val (.int xd), .val .null, .val (.int xo), .val (.int xl)] [(.int (1 : Int32)), (.ref xa)])) rfl rfl (hb hby d_prog_1_method_3_code_17)
  have N310 := Fr.snoc X310 N307 q1
  have F310 : Fld Z h310 xa "com/example/strict_markup/strictmarkup/Attribute" "specified" "Z" (.int (1 : Int32)) := c308.same W310
  have c311 : Fld Z h310 xa "com/example/strict_markup/strictmarkup/Attribute" "value" "Ljava/lang/String;" v3 := ((((q7.other W301 (Or.inr (slot_ne (Or.inl (hw _ (List.mem_of_getElem? (i := 88) rfl))) (Or.inl (hw _ (List.mem_of_getElem? (i := 80) rfl))) (by decide) (t := (.object "java/lang/String")) (t' := (.object "java/lang/String")) (by decide) (by decide)))).other W304 (Or.inr (slot_ne (Or.inl (hw _ (List.mem_of_getElem? (i := 88) rfl))) (Or.inl (hw _ (List.mem_of_getElem? (i := 82) rfl))) (by decide) (t := (.object "java/lang/String")) (t' := (.object "java/lang/String")) (by decide) (by decide)))).other W307 (Or.inr (slot_ne (Or.inl (hw _ (List.mem_of_getElem? (i := 88) rfl))) (Or.inl (hw _ (List.mem_of_getElem? (i := 84) rfl))) (by decide) (t := (.object "java/lang/String")) (t' := .boolean) (by decide) (by decide)))).other W310 (Or.inr (slot_ne (Or.inl (hw _ (List.mem_of_getElem? (i := 88) rfl))) (Or.inl (hw _ (List.mem_of_getElem? (i := 86) rfl))) (by decide) (t := (.object "java/lang/String")) (t' := .boolean) (by decide) (by decide))))
  have c312 : Exa Z h310 xa "com/example/strict_markup/strictmarkup/Attribute" := (c309.wr W310)
  obtain ⟨T313, h313, X313, e313, W313, st313⟩ := putF X310 hx hZ hown (host := "") (Or.inl (hw _ (List.mem_of_getElem? (i := 87) rfl))) Via.refl e310 c311 c312 (Or.inl (hw _ (List.mem_of_getElem? (i := 88) rfl))) (hw _ (List.mem_of_getElem? (i := 63) rfl)) (ty := (.object "java/lang/String")) (by decide) rfl rfl (g := (mkF m 22 #[.val (.ref xa), .val (.ref sn), .val (.ref sy), .val (.int xd), .val .null, .val (.int xo), .val (.int xl)] [.null, (.ref xa)])) rfl rfl (hb hby d_prog_1_method_3_code_22)
  have N313 := Fr.snoc X313 N310 q1
  have F313 : Fld Z h313 xa "com/example/strict_markup/strictmarkup/Attribute" "value" "Ljava/lang/String;" .null := c311.same W313
  have c314 : Fld Z h313 xa "com/example/strict_markup/strictmarkup/Attribute" "text" "Lcom/example/strict_markup/strictmarkup/Text;" v4 := (((((q8.other W301 (Or.inr (slot_ne (Or.inl (hw _ (List.mem_of_getElem? (i := 90) rfl))) (Or.inl (hw _ (List.mem_of_getElem? (i := 80) rfl))) (by decide) (t := (.object "com/example/strict_markup/strictmarkup/Text")) (t' := (.object "java/lang/String")) (by decide) (by decide)))).other W304 (Or.inr (slot_ne (Or.inl (hw _ (List.mem_of_getElem? (i := 90) rfl))) (Or.inl (hw _ (List.mem_of_getElem? (i := 82) rfl))) (by decide) (t := (.object "com/example/strict_markup/strictmarkup/Text")) (t' := (.object "java/lang/String")) (by decide) (by decide)))).other W307 (Or.inr (slot_ne (Or.inl (hw _ (List.mem_of_getElem? (i := 90) rfl))) (Or.inl (hw _ (List.mem_of_getElem? (i := 84) rfl))) (by decide) (t := (.object "com/example/strict_markup/strictmarkup/Text")) (t' := .boolean) (by decide) (by decide)))).other W310 (Or.inr (slot_ne (Or.inl (hw _ (List.mem_of_getElem? (i := 90) rfl))) (Or.inl (hw _ (List.mem_of_getElem? (i := 86) rfl))) (by decide) (t := (.object "com/example/strict_markup/strictmarkup/Text")) (t' := .boolean) (by decide) (by decide)))).other W313 (Or.inr (slot_ne (Or.inl (hw _ (List.mem_of_getElem? (i := 90) rfl))) (Or.inl (hw _ (List.mem_of_getElem? (i := 88) rfl))) (by decide) (t := (.object "com/example/strict_markup/strictmarkup/Text")) (t' := (.object "java/lang/String")) (by decide) (by decide))))
  have c315 : Exa Z h313 xa "com/example/strict_markup/strictmarkup/Attribute" := (c312.wr W313)
  obtain ⟨T316, h316, X316, e316, W316, st316⟩ := putF X313 hx hZ hown (host := "") (Or.inl (hw _ (List.mem_of_getElem? (i := 89) rfl))) Via.refl e313 c314 c315 (Or.inl (hw _ (List.mem_of_getElem? (i := 90) rfl))) (hw _ (List.mem_of_getElem? (i := 63) rfl)) (ty := (.object "com/example/strict_markup/strictmarkup/Text")) (by decide) rfl rfl (g := (mkF m 28 #[.val (.ref xa), .val (.ref sn), .val (.ref sy), .val (.int xd), .val .null, .val (.int xo), .val (.int xl)] [.null, (.ref xa)])) rfl rfl (hb hby d_prog_1_method_3_code_28)
  have N316 := Fr.snoc X316 N313 q1
  have F316 : Fld Z h316 xa "com/example/strict_markup/strictmarkup/Attribute" "text" "Lcom/example/strict_markup/strictmarkup/Text;" .null := c314.same W316
  have c317 : Fld Z h316 xa "com/example/strict_markup/strictmarkup/Attribute" "start" "I" (.int d3) := ((((((q9.other W301 (Or.inr (slot_ne (Or.inl (hw _ (List.mem_of_getElem? (i := 92) rfl))) (Or.inl (hw _ (List.mem_of_getElem? (i := 80) rfl))) (by decide) (t := .int) (t' := (.object "java/lang/String")) (by decide) (by decide)))).other W304 (Or.inr (slot_ne (Or.inl (hw _ (List.mem_of_getElem? (i := 92) rfl))) (Or.inl (hw _ (List.mem_of_getElem? (i := 82) rfl))) (by decide) (t := .int) (t' := (.object "java/lang/String")) (by decide) (by decide)))).other W307 (Or.inr (slot_ne (Or.inl (hw _ (List.mem_of_getElem? (i := 92) rfl))) (Or.inl (hw _ (List.mem_of_getElem? (i := 84) rfl))) (by decide) (t := .int) (t' := .boolean) (by decide) (by decide)))).other W310 (Or.inr (slot_ne (Or.inl (hw _ (List.mem_of_getElem? (i := 92) rfl))) (Or.inl (hw _ (List.mem_of_getElem? (i := 86) rfl))) (by decide) (t := .int) (t' := .boolean) (by decide) (by decide)))).other W313 (Or.inr (slot_ne (Or.inl (hw _ (List.mem_of_getElem? (i := 92) rfl))) (Or.inl (hw _ (List.mem_of_getElem? (i := 88) rfl))) (by decide) (t := .int) (t' := (.object "java/lang/String")) (by decide) (by decide)))).other W316 (Or.inr (slot_ne (Or.inl (hw _ (List.mem_of_getElem? (i := 92) rfl))) (Or.inl (hw _ (List.mem_of_getElem? (i := 90) rfl))) (by decide) (t := .int) (t' := (.object "com/example/strict_markup/strictmarkup/Text")) (by decide) (by decide))))
  have c318 : Exa Z h316 xa "com/example/strict_markup/strictmarkup/Attribute" := (c315.wr W316)
  obtain ⟨T319, h319, X319, e319, W319, st319⟩ := putF X316 hx hZ hown (host := "") (Or.inl (hw _ (List.mem_of_getElem? (i := 91) rfl))) Via.refl e316 c317 c318 (Or.inl (hw _ (List.mem_of_getElem? (i := 92) rfl))) (hw _ (List.mem_of_getElem? (i := 63) rfl)) (ty := .int) (by decide) rfl rfl (g := (mkF m 34 #[.val (.ref xa), .val (.ref sn), .val (.ref sy), .val (.int xd), .val .null, .val (.int xo), .val (.int xl)] [(.int xo), (.ref xa)])) rfl rfl (hb hby d_prog_1_method_3_code_34)
  have N319 := Fr.snoc X319 N316 q1
  have F319 : Fld Z h319 xa "com/example/strict_markup/strictmarkup/Attribute" "start" "I" (.int xo) := c317.same W319
  have c320 : Fld Z h319 xa "com/example/strict_markup/strictmarkup/Attribute" "length" "I" (.int d4) := (((((((q10.other W301 (Or.inr (slot_ne (Or.inl (hw _ (List.mem_of_getElem? (i := 94) rfl))) (Or.inl (hw _ (List.mem_of_getElem? (i := 80) rfl))) (by decide) (t := .int) (t' := (.object "java/lang/String")) (by decide) (by decide)))).other W304 (Or.inr (slot_ne (Or.inl (hw _ (List.mem_of_getElem? (i := 94) rfl))) (Or.inl (hw _ (List.mem_of_getElem? (i := 82) rfl))) (by decide) (t := .int) (t' := (.object "java/lang/String")) (by decide) (by decide)))).other W307 (Or.inr (slot_ne (Or.inl (hw _ (List.mem_of_getElem? (i := 94) rfl))) (Or.inl (hw _ (List.mem_of_getElem? (i := 84) rfl))) (by decide) (t := .int) (t' := .boolean) (by decide) (by decide)))).other W310 (Or.inr (slot_ne (Or.inl (hw _ (List.mem_of_getElem? (i := 94) rfl))) (Or.inl (hw _ (List.mem_of_getElem? (i := 86) rfl))) (by decide) (t := .int) (t' := .boolean) (by decide) (by decide)))).other W313 (Or.inr (slot_ne (Or.inl (hw _ (List.mem_of_getElem? (i := 94) rfl))) (Or.inl (hw _ (List.mem_of_getElem? (i := 88) rfl))) (by decide) (t := .int) (t' := (.object "java/lang/String")) (by decide) (by decide)))).other W316 (Or.inr (slot_ne (Or.inl (hw _ (List.mem_of_getElem? (i := 94) rfl))) (Or.inl (hw _ (List.mem_of_getElem? (i := 90) rfl))) (by decide) (t := .int) (t' := (.object "com/example/strict_markup/strictmarkup/Text")) (by decide) (by decide)))).other W319 (Or.inr (slot_ne (Or.inl (hw _ (List.mem_of_getElem? (i := 94) rfl))) (Or.inl (hw _ (List.mem_of_getElem? (i := 92) rfl))) (by decide) (t := .int) (t' := .int) (by decide) (by decide))))
  have c321 : Exa Z h319 xa "com/example/strict_markup/strictmarkup/Attribute" := (c318.wr W319)
  obtain ⟨T322, h322, X322, e322, W322, st322⟩ := putF X319 hx hZ hown (host := "") (Or.inl (hw _ (List.mem_of_getElem? (i := 93) rfl))) Via.refl e319 c320 c321 (Or.inl (hw _ (List.mem_of_getElem? (i := 94) rfl))) (hw _ (List.mem_of_getElem? (i := 63) rfl)) (ty := .int) (by decide) rfl rfl (g := (mkF m 40 #[.val (.ref xa), .val (.ref sn), .val (.ref sy), .val (.int xd), .val .null, .val (.int xo), .val (.int xl)] [(.int xl), (.ref xa)])) rfl rfl (hb hby d_prog_1_method_3_code_40)
  have N322 := Fr.snoc X322 N319 q1
  have F322 : Fld Z h322 xa "com/example/strict_markup/strictmarkup/Attribute" "length" "I" (.int xl) := c320.same W322
  have c323 : Fld Z h322 xa "com/example/strict_markup/strictmarkup/Attribute" "name" "Ljava/lang/String;" (.ref sn) := (((((((F301.other W304 (Or.inr (slot_ne (Or.inl (hw _ (List.mem_of_getElem? (i := 80) rfl))) (Or.inl (hw _ (List.mem_of_getElem? (i := 82) rfl))) (by decide) (t := (.object "java/lang/String")) (t' := (.object "java/lang/String")) (by decide) (by decide)))).other W307 (Or.inr (slot_ne (Or.inl (hw _ (List.mem_of_getElem? (i := 80) rfl))) (Or.inl (hw _ (List.mem_of_getElem? (i := 84) rfl))) (by decide) (t := (.object "java/lang/String")) (t' := .boolean) (by decide) (by decide)))).other W310 (Or.inr (slot_ne (Or.inl (hw _ (List.mem_of_getElem? (i := 80) rfl))) (Or.inl (hw _ (List.mem_of_getElem? (i := 86) rfl))) (by decide) (t := (.object "java/lang/String")) (t' := .boolean) (by decide) (by decide)))).other W313 (Or.inr (slot_ne (Or.inl (hw _ (List.mem_of_getElem? (i := 80) rfl))) (Or.inl (hw _ (List.mem_of_getElem? (i := 88) rfl))) (by decide) (t := (.object "java/lang/String")) (t' := (.object "java/lang/String")) (by decide) (by decide)))).other W316 (Or.inr (slot_ne (Or.inl (hw _ (List.mem_of_getElem? (i := 80) rfl))) (Or.inl (hw _ (List.mem_of_getElem? (i := 90) rfl))) (by decide) (t := (.object "java/lang/String")) (t' := (.object "com/example/strict_markup/strictmarkup/Text")) (by decide) (by decide)))).other W319 (Or.inr (slot_ne (Or.inl (hw _ (List.mem_of_getElem? (i := 80) rfl))) (Or.inl (hw _ (List.mem_of_getElem? (i := 92) rfl))) (by decide) (t := (.object "java/lang/String")) (t' := .int) (by decide) (by decide)))).other W322 (Or.inr (slot_ne (Or.inl (hw _ (List.mem_of_getElem? (i := 80) rfl))) (Or.inl (hw _ (List.mem_of_getElem? (i := 94) rfl))) (by decide) (t := (.object "java/lang/String")) (t' := .int) (by decide) (by decide))))
  have c324 : Fld Z h322 xa "com/example/strict_markup/strictmarkup/Attribute" "type" "Ljava/lang/String;" (.ref sy) := ((((((F304.other W307 (Or.inr (slot_ne (Or.inl (hw _ (List.mem_of_getElem? (i := 82) rfl))) (Or.inl (hw _ (List.mem_of_getElem? (i := 84) rfl))) (by decide) (t := (.object "java/lang/String")) (t' := .boolean) (by decide) (by decide)))).other W310 (Or.inr (slot_ne (Or.inl (hw _ (List.mem_of_getElem? (i := 82) rfl))) (Or.inl (hw _ (List.mem_of_getElem? (i := 86) rfl))) (by decide) (t := (.object "java/lang/String")) (t' := .boolean) (by decide) (by decide)))).other W313 (Or.inr (slot_ne (Or.inl (hw _ (List.mem_of_getElem? (i := 82) rfl))) (Or.inl (hw _ (List.mem_of_getElem? (i := 88) rfl))) (by decide) (t := (.object "java/lang/String")) (t' := (.object "java/lang/String")) (by decide) (by decide)))).other W316 (Or.inr (slot_ne (Or.inl (hw _ (List.mem_of_getElem? (i := 82) rfl))) (Or.inl (hw _ (List.mem_of_getElem? (i := 90) rfl))) (by decide) (t := (.object "java/lang/String")) (t' := (.object "com/example/strict_markup/strictmarkup/Text")) (by decide) (by decide)))).other W319 (Or.inr (slot_ne (Or.inl (hw _ (List.mem_of_getElem? (i := 82) rfl))) (Or.inl (hw _ (List.mem_of_getElem? (i := 92) rfl))) (by decide) (t := (.object "java/lang/String")) (t' := .int) (by decide) (by decide)))).other W322 (Or.inr (slot_ne (Or.inl (hw _ (List.mem_of_getElem? (i := 82) rfl))) (Or.inl (hw _ (List.mem_of_getElem? (i := 94) rfl))) (by decide) (t := (.object "java/lang/String")) (t' := .int) (by decide) (by decide))))
  have c325 : Fld Z h322 xa "com/example/strict_markup/strictmarkup/Attribute" "declared" "Z" (.int xd) := (((((F307.other W310 (Or.inr (slot_ne (Or.inl (hw _ (List.mem_of_getElem? (i := 84) rfl))) (Or.inl (hw _ (List.mem_of_getElem? (i := 86) rfl))) (by decide) (t := .boolean) (t' := .boolean) (by decide) (by decide)))).other W313 (Or.inr (slot_ne (Or.inl (hw _ (List.mem_of_getElem? (i := 84) rfl))) (Or.inl (hw _ (List.mem_of_getElem? (i := 88) rfl))) (by decide) (t := .boolean) (t' := (.object "java/lang/String")) (by decide) (by decide)))).other W316 (Or.inr (slot_ne (Or.inl (hw _ (List.mem_of_getElem? (i := 84) rfl))) (Or.inl (hw _ (List.mem_of_getElem? (i := 90) rfl))) (by decide) (t := .boolean) (t' := (.object "com/example/strict_markup/strictmarkup/Text")) (by decide) (by decide)))).other W319 (Or.inr (slot_ne (Or.inl (hw _ (List.mem_of_getElem? (i := 84) rfl))) (Or.inl (hw _ (List.mem_of_getElem? (i := 92) rfl))) (by decide) (t := .boolean) (t' := .int) (by decide) (by decide)))).other W322 (Or.inr (slot_ne (Or.inl (hw _ (List.mem_of_getElem? (i := 84) rfl))) (Or.inl (hw _ (List.mem_of_getElem? (i := 94) rfl))) (by decide) (t := .boolean) (t' := .int) (by decide) (by decide))))
  have c326 : Fld Z h322 xa "com/example/strict_markup/strictmarkup/Attribute" "specified" "Z" (.int (1 : Int32)) := ((((F310.other W313 (Or.inr (slot_ne (Or.inl (hw _ (List.mem_of_getElem? (i := 86) rfl))) (Or.inl (hw _ (List.mem_of_getElem? (i := 88) rfl))) (by decide) (t := .boolean) (t' := (.object "java/lang/String")) (by decide) (by decide)))).other W316 (Or.inr (slot_ne (Or.inl (hw _ (List.mem_of_getElem? (i := 86) rfl))) (Or.inl (hw _ (List.mem_of_getElem? (i := 90) rfl))) (by decide) (t := .boolean) (t' := (.object "com/example/strict_markup/strictmarkup/Text")) (by decide) (by decide)))).other W319 (Or.inr (slot_ne (Or.inl (hw _ (List.mem_of_getElem? (i := 86) rfl))) (Or.inl (hw _ (List.mem_of_getElem? (i := 92) rfl))) (by decide) (t := .boolean) (t' := .int) (by decide) (by decide)))).other W322 (Or.inr (slot_ne (Or.inl (hw _ (List.mem_of_getElem? (i := 86) rfl))) (Or.inl (hw _ (List.mem_of_getElem? (i := 94) rfl))) (by decide) (t := .boolean) (t' := .int) (by decide) (by decide))))
  have c327 : Fld Z h322 xa "com/example/strict_markup/strictmarkup/Attribute" "value" "Ljava/lang/String;" .null := (((F313.other W316 (Or.inr (slot_ne (Or.inl (hw _ (List.mem_of_getElem? (i := 88) rfl))) (Or.inl (hw _ (List.mem_of_getElem? (i := 90) rfl))) (by decide) (t := (.object "java/lang/String")) (t' := (.object "com/example/strict_markup/strictmarkup/Text")) (by decide) (by decide)))).other W319 (Or.inr (slot_ne (Or.inl (hw _ (List.mem_of_getElem? (i := 88) rfl))) (Or.inl (hw _ (List.mem_of_getElem? (i := 92) rfl))) (by decide) (t := (.object "java/lang/String")) (t' := .int) (by decide) (by decide)))).other W322 (Or.inr (slot_ne (Or.inl (hw _ (List.mem_of_getElem? (i := 88) rfl))) (Or.inl (hw _ (List.mem_of_getElem? (i := 94) rfl))) (by decide) (t := (.object "java/lang/String")) (t' := .int) (by decide) (by decide))))
  have c328 : Fld Z h322 xa "com/example/strict_markup/strictmarkup/Attribute" "text" "Lcom/example/strict_markup/strictmarkup/Text;" .null := ((F316.other W319 (Or.inr (slot_ne (Or.inl (hw _ (List.mem_of_getElem? (i := 90) rfl))) (Or.inl (hw _ (List.mem_of_getElem? (i := 92) rfl))) (by decide) (t := (.object "com/example/strict_markup/strictmarkup/Text")) (t' := .int) (by decide) (by decide)))).other W322 (Or.inr (slot_ne (Or.inl (hw _ (List.mem_of_getElem? (i := 90) rfl))) (Or.inl (hw _ (List.mem_of_getElem? (i := 94) rfl))) (by decide) (t := (.object "com/example/strict_markup/strictmarkup/Text")) (t' := .int) (by decide) (by decide))))
  have c329 : Fld Z h322 xa "com/example/strict_markup/strictmarkup/Attribute" "start" "I" (.int xo) := (F319.other W322 (Or.inr (slot_ne (Or.inl (hw _ (List.mem_of_getElem? (i := 92) rfl))) (Or.inl (hw _ (List.mem_of_getElem? (i := 94) rfl))) (by decide) (t := .int) (t' := .int) (by decide) (by decide))))
  obtain ⟨fs, hr, hrun, hended, hW, hsame⟩ := X322.leave (v := none) (fun _ => rfl)
  refine ⟨_, _, pre0 _ ?_, hrun, hended, _, _, rfl, ?_, ⟨_, rfl⟩, hW, hsame.mono (by decide) (by decide)⟩
  · refine XS.aloadN X0.here hx rfl (hb hby d_prog_1_method_3_code_0) rfl rfl ?_
    show Steps p.tables e below (s₁.setTop (mkF m 1 #[.val (.ref xa), .val (.ref sn), .val (.ref sy), .val (.int xd), .val .null, .val (.int xo), .val (.int xl)] [(.ref xa)])) _
    refine XS.aloadN X0.here hx rfl (hb hby d_prog_1_method_3_code_1) rfl rfl ?_
    show Steps p.tables e below (s₁.setTop (mkF m 2 #[.val (.ref xa), .val (.ref sn), .val (.ref sy), .val (.int xd), .val .null, .val (.int xo), .val (.int xl)] [(.ref sn), (.ref xa)])) _
    refine st301 _ ?_
    show Steps p.tables e below (T301.setTop (mkF m 5 #[.val (.ref xa), .val (.ref sn), .val (.ref sy), .val (.int xd), .val .null, .val (.int xo), .val (.int xl)] [])) _
    refine XS.aloadN X301.here hx rfl (hb hby d_prog_1_method_3_code_5) rfl rfl ?_
    show Steps p.tables e below (T301.setTop (mkF m 6 #[.val (.ref xa), .val (.ref sn), .val (.ref sy), .val (.int xd), .val .null, .val (.int xo), .val (.int xl)] [(.ref xa)])) _
    refine XS.aloadN X301.here hx rfl (hb hby d_prog_1_method_3_code_6) rfl rfl ?_
    show Steps p.tables e below (T301.setTop (mkF m 7 #[.val (.ref xa), .val (.ref sn), .val (.ref sy), .val (.int xd), .val .null, .val (.int xo), .val (.int xl)] [(.ref sy), (.ref xa)])) _
    refine st304 _ ?_
    show Steps p.tables e below (T304.setTop (mkF m 10 #[.val (.ref xa), .val (.ref sn), .val (.ref sy), .val (.int xd), .val .null, .val (.int xo), .val (.int xl)] [])) _
    refine XS.aloadN X304.here hx rfl (hb hby d_prog_1_method_3_code_10) rfl rfl ?_
    show Steps p.tables e below (T304.setTop (mkF m 11 #[.val (.ref xa), .val (.ref sn), .val (.ref sy), .val (.int xd), .val .null, .val (.int xo), .val (.int xl)] [(.ref xa)])) _
    refine XS.iloadN X304.here hx rfl (hb hby d_prog_1_method_3_code_11) rfl ?_
    show Steps p.tables e below (T304.setTop (mkF m 12 #[.val (.ref xa), .val (.ref sn), .val (.ref sy), .val (.int xd), .val .null, .val (.int xo), .val (.int xl)] [(.int xd), (.ref xa)])) _
    refine st307 _ ?_
    show Steps p.tables e below (T307.setTop (mkF m 15 #[.val (.ref xa), .val (.ref sn), .val (.ref sy), .val (.int xd), .val .null, .val (.int xo), .val (.int xl)] [])) _
    refine XS.aloadN X307.here hx rfl (hb hby d_prog_1_method_3_code_15) rfl rfl ?_
    show Steps p.tables e below (T307.setTop (mkF m 16 #[.val (.ref xa), .val (.ref sn), .val (.ref sy), .val (.int xd), .val .null, .val (.int xo), .val (.int xl)] [(.ref xa)])) _
    refine XS.iconst X307.here hx rfl (hb hby d_prog_1_method_3_code_16) ?_
    show Steps p.tables e below (T307.setTop (mkF m 17 #[.val (.ref xa), .val (.ref sn), .val (.ref sy), .val (.int xd), .val .null, .val (.int xo), .val (.int xl)] [(.int (1 : Int32)), (.ref xa)])) _
    refine st310 _ ?_
    show Steps p.tables e below (T310.setTop (mkF m 20 #[.val (.ref xa), .val (.ref sn), .val (.ref sy), .val (.int xd), .val .null, .val (.int xo), .val (.int xl)] [])) _
    refine XS.aloadN X310.here hx rfl (hb hby d_prog_1_method_3_code_20) rfl rfl ?_
    show Steps p.tables e below (T310.setTop (mkF m 21 #[.val (.ref xa), .val (.ref sn), .val (.ref sy), .val (.int xd), .val .null, .val (.int xo), .val (.int xl)] [(.ref xa)])) _
    refine XS.aconstNull X310.here hx rfl (hb hby d_prog_1_method_3_code_21) ?_
    show Steps p.tables e below (T310.setTop (mkF m 22 #[.val (.ref xa), .val (.ref sn), .val (.ref sy), .val (.int xd), .val .null, .val (.int xo), .val (.int xl)] [.null, (.ref xa)])) _
    refine st313 _ ?_
    show Steps p.tables e below (T313.setTop (mkF m 25 #[.val (.ref xa), .val (.ref sn), .val (.ref sy), .val (.int xd), .val .null, .val (.int xo), .val (.int xl)] [])) _
    refine XS.aloadN X313.here hx rfl (hb hby d_prog_1_method_3_code_25) rfl rfl ?_
    show Steps p.tables e below (T313.setTop (mkF m 26 #[.val (.ref xa), .val (.ref sn), .val (.ref sy), .val (.int xd), .val .null, .val (.int xo), .val (.int xl)] [(.ref xa)])) _
    refine XS.aload X313.here hx rfl (hb hby d_prog_1_method_3_code_26) rfl rfl ?_
    show Steps p.tables e below (T313.setTop (mkF m 28 #[.val (.ref xa), .val (.ref sn), .val (.ref sy), .val (.int xd), .val .null, .val (.int xo), .val (.int xl)] [.null, (.ref xa)])) _
    refine st316 _ ?_
    show Steps p.tables e below (T316.setTop (mkF m 31 #[.val (.ref xa), .val (.ref sn), .val (.ref sy), .val (.int xd), .val .null, .val (.int xo), .val (.int xl)] [])) _
    refine XS.aloadN X316.here hx rfl (hb hby d_prog_1_method_3_code_31) rfl rfl ?_
    show Steps p.tables e below (T316.setTop (mkF m 32 #[.val (.ref xa), .val (.ref sn), .val (.ref sy), .val (.int xd), .val .null, .val (.int xo), .val (.int xl)] [(.ref xa)])) _
    refine XS.iload X316.here hx rfl (hb hby d_prog_1_method_3_code_32) rfl ?_
    show Steps p.tables e below (T316.setTop (mkF m 34 #[.val (.ref xa), .val (.ref sn), .val (.ref sy), .val (.int xd), .val .null, .val (.int xo), .val (.int xl)] [(.int xo), (.ref xa)])) _
    refine st319 _ ?_
    show Steps p.tables e below (T319.setTop (mkF m 37 #[.val (.ref xa), .val (.ref sn), .val (.ref sy), .val (.int xd), .val .null, .val (.int xo), .val (.int xl)] [])) _
    refine XS.aloadN X319.here hx rfl (hb hby d_prog_1_method_3_code_37) rfl rfl ?_
    show Steps p.tables e below (T319.setTop (mkF m 38 #[.val (.ref xa), .val (.ref sn), .val (.ref sy), .val (.int xd), .val .null, .val (.int xo), .val (.int xl)] [(.ref xa)])) _
    refine XS.iload X319.here hx rfl (hb hby d_prog_1_method_3_code_38) rfl ?_
    show Steps p.tables e below (T319.setTop (mkF m 40 #[.val (.ref xa), .val (.ref sn), .val (.ref sy), .val (.int xd), .val .null, .val (.int xo), .val (.int xl)] [(.int xl), (.ref xa)])) _
    refine st322 _ ?_
    show Steps p.tables e below (T322.setTop (mkF m 43 #[.val (.ref xa), .val (.ref sn), .val (.ref sy), .val (.int xd), .val .null, .val (.int xo), .val (.int xl)] [])) _
    exact X322.returnOut hx Bd.returns (hb hby d_prog_1_method_3_code_43) hr
  · show Q_spN Z xa sn sy xd xo xl v1 v2 d1 d2 v3 v4 d3 d4 h0 n0 _ T322.heap _
    rw [e322]
    exact ⟨rfl, N322, (((((((((Keep.refl h0 ([xa] : List Addr)).wr W301 (Or.inl (by simp))).wr W304 (Or.inl (by simp))).wr W307 (Or.inl (by simp))).wr W310 (Or.inl (by simp))).wr W313 (Or.inl (by simp))).wr W316 (Or.inl (by simp))).wr W319 (Or.inl (by simp))).wr W322 (Or.inl (by simp))), c323, c324, c325, c326, c327, c328, c329, F322⟩
theorem ef_14 (m : MethodId) (x0 : Addr) (x1 : Addr) (x2 : Addr) (x3 : Int32) (x4 : Addr) (x5 : Int32) (x6 : Int32) : entryFrame m #[(.ref x0), (.ref x1), (.ref x2), (.int x3), (.ref x4), (.int x5), (.int x6)] 7 = mkF m 0 #[.val (.ref x0), .val (.ref x1), .val (.ref x2), .val (.int x3), .val (.ref x4), .val (.int x5), .val (.int x6)] [] := by first | (simp [entryFrame, mkF, argsToLocals, Value.category]; done) | rfl
def Q_spT (Z : State) (xa : Addr) (sn : Addr) (sy : Addr) (xd : Int32) (xt : Addr) (xo : Int32) (xl : Int32) (v1 : Value) (v2 : Value) (d1 : Int32) (d2 : Int32) (v3 : Value) (v4 : Value) (d3 : Int32) (d4 : Int32) (h0 : Heap) (n0 : Nat) (v : Option Value) (h : Heap) (L : List Loc) : Prop := (v = none) ∧ (Fr n0 L) ∧ (Keep h0 h ([xa] : List Addr)) ∧ (Fld Z h xa "com/example/strict_markup/strictmarkup/Attribute" "name" "Ljava/lang/String;" (.ref sn)) ∧ (Fld Z h xa "com/example/strict_markup/strictmarkup/Attribute" "type" "Ljava/lang/String;" (.ref sy)) ∧ (Fld Z h xa "com/example/strict_markup/strictmarkup/Attribute" "declared" "Z" (.int xd)) ∧ (Fld Z h xa "com/example/strict_markup/strictmarkup/Attribute" "specified" "Z" (.int (1 : Int32))) ∧ (Fld Z h xa "com/example/strict_markup/strictmarkup/Attribute" "value" "Ljava/lang/String;" .null) ∧ (Fld Z h xa "com/example/strict_markup/strictmarkup/Attribute" "text" "Lcom/example/strict_markup/strictmarkup/Text;" (.ref xt)) ∧ (Fld Z h xa "com/example/strict_markup/strictmarkup/Attribute" "start" "I" (.int xo)) ∧ (Fld Z h xa "com/example/strict_markup/strictmarkup/Attribute" "length" "I" (.int xl))
set_option maxRecDepth 65536 in
set_option maxHeartbeats 40000000 in
theorem rm_spT (l : Launch) (Z : State) (a0 : Array Value) (hw : ∀ d ∈ tables_1, d.before a0 Z = true) (ws : List Jvm.Cond) (xa : Addr) (sn : Addr) (sy : Addr) (xd : Int32) (xt : Addr) (xo : Int32) (xl : Int32) (v1 : Value) (v2 : Value) (d1 : Int32) (d2 : Int32) (v3 : Value) (v4 : Value) (d3 : Int32) (d4 : Int32) (h0 : Heap) (n0 : Nat) (Z0 : n0 ≤ h0.size) (q0 : Exa Z h0 xa "com/example/strict_markup/strictmarkup/Attribute") (q1 : n0 ≤ xa) (hxd : nar .boolean xd = xd) (q3 : Fld Z h0 xa "com/example/strict_markup/strictmarkup/Attribute" "name" "Ljava/lang/String;" v1) (q4 : Fld Z h0 xa "com/example/strict_markup/strictmarkup/Attribute" "type" "Ljava/lang/String;" v2) (q5 : Fld Z h0 xa "com/example/strict_markup/strictmarkup/Attribute" "declared" "Z" (.int d1)) (q6 : Fld Z h0 xa "com/example/strict_markup/strictmarkup/Attribute" "specified" "Z" (.int d2)) (q7 : Fld Z h0 xa "com/example/strict_markup/strictmarkup/Attribute" "value" "Ljava/lang/String;" v3) (q8 : Fld Z h0 xa "com/example/strict_markup/strictmarkup/Attribute" "text" "Lcom/example/strict_markup/strictmarkup/Text;" v4) (q9 : Fld Z h0 xa "com/example/strict_markup/strictmarkup/Attribute" "start" "I" (.int d3)) (q10 : Fld Z h0 xa "com/example/strict_markup/strictmarkup/Attribute" "length" "I" (.int d4)) :
    MetFree l (⟨"com/example/strict_markup/strictmarkup/Attribute", "specify", "(Ljava/lang/String;Ljava/lang/String;ZLcom/example/strict_markup/strictmarkup/Text;II)V"⟩ : MethodName) (head1 (Jvm.Cond.code (⟨"com/example/strict_markup/strictmarkup/Attribute", "specify", "(Ljava/lang/String;Ljava/lang/String;ZLcom/example/strict_markup/strictmarkup/Text;II)V"⟩ : MethodName) prog_1_method_3_code 7 none :: ws) ({ frames := 0, cells := 0, slots := 0, locals := 0 } : Room)) (fun a₁ U₁ => a₁ = #[(.ref xa), (.ref sn), (.ref sy), (.int xd), (.ref xt), (.int xo), (.int xl)] ∧ Z.Warmed39 U₁.vm ∧ U₁.heap = h0) (fun _ _ _ _ _ => True) (fun _ U₁ o₁ U₂ => ∃ v₁ L₁, o₁ = .returned v₁ ∧ Q_spT Z xa sn sy xd xt xo xl v1 v2 d1 d2 v3 v4 d3 d4 h0 n0 v₁ U₂.heap L₁ ∧ FrameEnd U₁ o₁ U₂ L₁ ({ frames := 0, cells := 0, slots := 0, locals := 0 } : Room).cells ({ frames := 0, cells := 0, slots := 0, locals := 0 } : Room).slots) := by
  refine MetFree.of_bodySF (plainFor_of_name pn_5) hisR ?_
  intro p e s m args below meth c s₁ Bd hml0 hP hK
  obtain ⟨rfl, hZ, hh⟩ := hP
  have hx := Bd.exec
  have hby := Bd.bytes
  have hml : c.maxLocals = 7 := hml0
  have hown : s.vm.findClass "com/example/strict_markup/strictmarkup/Attribute" = some m.cls := findClass_of_methodNamed Bd.named
  have hnm := (name_of_methodNamed Bd.named Bd.method).1
  have X0 : Stand p l e ({ frames := 0, cells := 0, slots := 0, locals := 0 } : Room) s m #[(.ref xa), (.ref sn), (.ref sy), (.int xd), (.ref xt), (.int xo), (.int xl)] below meth c s₁ [] 0 0 := Stand.of_body Bd
  have e0 : s₁.heap = h0 := by rw [← hh, Bd.state]; rfl
  have N0 := Fr.nil n0
  have pre0 : ∀ t, Steps p.tables e below (s₁.setTop (mkF m 0 #[.val (.ref xa), .val (.ref sn), .val (.ref sy), .val (.int xd), .val (.ref xt), .val (.int xo), .val (.int xl)] [])) t → Steps p.tables e below (s₁.setTop (entryFrame m #[(.ref xa), (.ref sn), (.ref sy), (.int xd), (.ref xt), (.int xo), (.int xl)] 7)) t := fun t k => castTop (ef_14 m xa sn sy xd xt xo xl) k
  obtain ⟨T301, h301, X301, e301, W301, st301⟩ := putF X0 hx hZ hown (host := "") (Or.inl (hw _ (List.mem_of_getElem? (i := 79) rfl))) Via.refl e0 q3 q0 (Or.inl (hw _ (List.mem_of_getElem? (i := 80) rfl))) (hw _ (List.mem_of_getElem? (i := 63) rfl)) (ty := (.object "java/lang/String")) (by decide) rfl rfl (g := (mkF m 2 #[.val (.ref xa), .val (.ref sn), .val (.ref sy), .val (.int xd), .val (.ref xt), .val (.int xo), .val (.int xl)] [(.ref sn), (.ref xa)])) rfl rfl (hb hby d_prog_1_method_3_code_2)
  have N301 := Fr.snoc X301 N0 q1
  have F301 : Fld Z h301 xa "com/example/strict_markup/strictmarkup/Attribute" "name" "Ljava/lang/String;" (.ref sn) := q3.same W301
  have c302 : Fld Z h301 xa "com/example/strict_markup/strictmarkup/Attribute" "type" "Ljava/lang/String;" v2 := (q4.other W301 (Or.inr (slot_ne (Or.inl (hw _ (List.mem_of_getElem? (i := 82) rfl))) (Or.inl (hw _ (List.mem_of_getElem? (i := 80) rfl))) (by decide) (t := (.object "java/lang/String")) (t' := (.object "java/lang/String")) (by decide) (by decide))))
  have c303 : Exa Z h301 xa "com/example/strict_markup/strictmarkup/Attribute" := (q0.wr W301)
  obtain ⟨T304, h304, X304, e304, W304, st304⟩ := putF X301 hx hZ hown (host := "") (Or.inl (hw _ (List.mem_of_getElem? (i := 81) rfl))) Via.refl e301 c302 c303 (Or.inl (hw _ (List.mem_of_getElem? (i := 82) rfl))) (hw _ (List.mem_of_getElem? (i := 63) rfl)) (ty := (.object "java/lang/String")) (by decide) rfl rfl (g := (mkF m 7 #[.val (.ref xa), .val (.ref sn), .val (.ref sy), .val (.int xd), .val (.ref xt), .val (.int xo), .val (.int xl)] [(.ref sy), (.ref xa)])) rfl rfl (hb hby d_prog_1_method_3_code_7)
  have N304 := Fr.snoc X304 N301 q1
  have F304 : Fld Z h304 xa "com/example/strict_markup/strictmarkup/Attribute" "type" "Ljava/lang/String;" (.ref sy) := c302.same W304
  have c305 : Fld Z h304 xa "com/example/strict_markup/strictmarkup/Attribute" "declared" "Z" (.int d1) := ((q5.other W301 (Or.inr (slot_ne (Or.inl (hw _ (List.mem_of_getElem? (i := 84) rfl))) (Or.inl (hw _ (List.mem_of_getElem? (i := 80) rfl))) (by decide) (t := .boolean) (t' := (.object "java/lang/String")) (by decide) (by decide)))).other W304 (Or.inr (slot_ne (Or.inl (hw _ (List.mem_of_getElem? (i := 84) rfl))) (Or.inl (hw _ (List.mem_of_getElem? (i := 82) rfl))) (by decide) (t := .boolean) (t' := (.object "java/lang/String")) (by decide) (by decide))))
  have c306 : Exa Z h304 xa "com/example/strict_markup/strictmarkup/Attribute" := (c303.wr W304)
  obtain ⟨T307, h307, X307, e307, W307, st307⟩ := putFN X304 hx hZ hown (hw _ (List.mem_of_getElem? (i := 83) rfl)) Via.refl e304 c305 c306 (Or.inl (hw _ (List.mem_of_getElem? (i := 84) rfl))) (hw _ (List.mem_of_getElem? (i := 63) rfl)) (ty := .boolean) (v' := (.int xd)) (by decide) ((show narrow .boolean (.int xd) = .int (nar .boolean xd) from rfl).trans (congrArg Value.int hxd)) (by have q := fits_nar_bool xd; rw [hxd] at q; exact q) (g := (mkF m 12 #[.val (.ref xa), .val (.ref sn), .val (.ref sy), .val (.int xd), .val (.ref xt), .val (.int xo), .val (.int xl)] [(.int xd), (.ref xa)])) rfl rfl (hb hby d_prog_1_method_3_code_12)
  have N307 := Fr.snoc X307 N304 q1
  have F307 : Fld Z h307 xa "com/example/strict_markup/strictmarkup/Attribute" "declared" "Z" (.int xd) := c305.same W307
  have c308 : Fld Z h307 xa "com/example/strict_markup/strictmarkup/Attribute" "specified" "Z" (.int d2) := (((q6.other W301 (Or.inr (slot_ne (Or.inl (hw _ (List.mem_of_getElem? (i := 86) rfl))) (Or.inl (hw _ (List.mem_of_getElem? (i := 80) rfl))) (by decide) (t := .boolean) (t' := (.object "java/lang/String")) (by decide) (by decide)))).other W304 (Or.inr (slot_ne (Or.inl (hw _ (List.mem_of_getElem? (i := 86) rfl))) (Or.inl (hw _ (List.mem_of_getElem? (i := 82) rfl))) (by decide) (t := .boolean) (t' := (.object "java/lang/String")) (by decide) (by decide)))).other W307 (Or.inr (slot_ne (Or.inl (hw _ (List.mem_of_getElem? (i := 86) rfl))) (Or.inl (hw _ (List.mem_of_getElem? (i := 84) rfl))) (by decide) (t := .boolean) (t' := .boolean) (by decide) (by decide))))
  have c309 : Exa Z h307 xa "com/example/strict_markup/strictmarkup/Attribute" := (c306.wr W307)
  obtain ⟨T310, h310, X310, e310, W310, st310⟩ := putFN X307 hx hZ hown (hw _ (List.mem_of_getElem? (i := 85) rfl)) Via.refl e307 c308 c309 (Or.inl (hw _ (List.mem_of_getElem? (i := 86) rfl))) (hw _ (List.mem_of_getElem? (i := 63) rfl)) (ty := .boolean) (v' := (.int (1 : Int32))) (by decide) rfl rfl (g := (mkF m 17 #[.val (.ref xa), .val (.ref sn), .val (.ref sy), .val (.int xd), .val (.ref xt), .val (.int xo), .val (.int xl)] [(.int (1 : Int32)), (.ref xa)])) rfl rfl (hb hby d_prog_1_method_3_code_17)
  have N310 := Fr.snoc X310 N307 q1
  have F310 : Fld Z h310 xa "com/example/strict_markup/strictmarkup/Attribute" "specified" "Z" (.int (1 : Int32)) := c308.same W310
  have c311 : Fld Z h310 xa "com/example/strict_markup/strictmarkup/Attribute" "value" "Ljava/lang/String;" v3 := ((((q7.other W301 (Or.inr (slot_ne (Or.inl (hw _ (List.mem_of_getElem? (i := 88) rfl))) (Or.inl (hw _ (List.mem_of_getElem? (i := 80) rfl))) (by decide) (t := (.object "java/lang/String")) (t' := (.object "java/lang/String")) (by decide) (by decide)))).other W304 (Or.inr (slot_ne (Or.inl (hw _ (List.mem_of_getElem? (i := 88) rfl))) (Or.inl (hw _ (List.mem_of_getElem? (i := 82) rfl))) (by decide) (t := (.object "java/lang/String")) (t' := (.object "java/lang/String")) (by decide) (by decide)))).other W307 (Or.inr (slot_ne (Or.inl (hw _ (List.mem_of_getElem? (i := 88) rfl))) (Or.inl (hw _ (List.mem_of_getElem? (i := 84) rfl))) (by decide) (t := (.object "java/lang/String")) (t' := .boolean) (by decide) (by decide)))).other W310 (Or.inr (slot_ne (Or.inl (hw _ (List.mem_of_getElem? (i := 88) rfl))) (Or.inl (hw _ (List.mem_of_getElem? (i := 86) rfl))) (by decide) (t := (.object "java/lang/String")) (t' := .boolean) (by decide) (by decide))))
  have c312 : Exa Z h310 xa "com/example/strict_markup/strictmarkup/Attribute" := (c309.wr W310)
  obtain ⟨T313, h313, X313, e313, W313, st313⟩ := putF X310 hx hZ hown (host := "") (Or.inl (hw _ (List.mem_of_getElem? (i := 87) rfl))) Via.refl e310 c311 c312 (Or.inl (hw _ (List.mem_of_getElem? (i := 88) rfl))) (hw _ (List.mem_of_getElem? (i := 63) rfl)) (ty := (.object "java/lang/String")) (by decide) rfl rfl (g := (mkF m 22 #[.val (.ref xa), .val (.ref sn), .val (.ref sy), .val (.int xd), .val (.ref xt), .val (.int xo), .val (.int xl)] [.null, (.ref xa)])) rfl rfl (hb hby d_prog_1_method_3_code_22)
  have N313 := Fr.snoc X313 N310 q1
  have F313 : Fld Z h313 xa "com/example/strict_markup/strictmarkup/Attribute" "value" "Ljava/lang/String;" .null := c311.same W313
  have c314 : Fld Z h313 xa "com/example/strict_markup/strictmarkup/Attribute" "text" "Lcom/example/strict_markup/strictmarkup/Text;" v4 := (((((q8.other W301 (Or.inr (slot_ne (Or.inl (hw _ (List.mem_of_getElem? (i := 90) rfl))) (Or.inl (hw _ (List.mem_of_getElem? (i := 80) rfl))) (by decide) (t := (.object "com/example/strict_markup/strictmarkup/Text")) (t' := (.object "java/lang/String")) (by decide) (by decide)))).other W304 (Or.inr (slot_ne (Or.inl (hw _ (List.mem_of_getElem? (i := 90) rfl))) (Or.inl (hw _ (List.mem_of_getElem? (i := 82) rfl))) (by decide) (t := (.object "com/example/strict_markup/strictmarkup/Text")) (t' := (.object "java/lang/String")) (by decide) (by decide)))).other W307 (Or.inr (slot_ne (Or.inl (hw _ (List.mem_of_getElem? (i := 90) rfl))) (Or.inl (hw _ (List.mem_of_getElem? (i := 84) rfl))) (by decide) (t := (.object "com/example/strict_markup/strictmarkup/Text")) (t' := .boolean) (by decide) (by decide)))).other W310 (Or.inr (slot_ne (Or.inl (hw _ (List.mem_of_getElem? (i := 90) rfl))) (Or.inl (hw _ (List.mem_of_getElem? (i := 86) rfl))) (by decide) (t := (.object "com/example/strict_markup/strictmarkup/Text")) (t' := .boolean) (by decide) (by decide)))).other W313 (Or.inr (slot_ne (Or.inl (hw _ (List.mem_of_getElem? (i := 90) rfl))) (Or.inl (hw _ (List.mem_of_getElem? (i := 88) rfl))) (by decide) (t := (.object "com/example/strict_markup/strictmarkup/Text")) (t' := (.object "java/lang/String")) (by decide) (by decide))))
  have c315 : Exa Z h313 xa "com/example/strict_markup/strictmarkup/Attribute" := (c312.wr W313)
  obtain ⟨T316, h316, X316, e316, W316, st316⟩ := putF X313 hx hZ hown (host := "") (Or.inl (hw _ (List.mem_of_getElem? (i := 89) rfl))) Via.refl e313 c314 c315 (Or.inl (hw _ (List.mem_of_getElem? (i := 90) rfl))) (hw _ (List.mem_of_getElem? (i := 63) rfl)) (ty := (.object "com/example/strict_markup/strictmarkup/Text")) (by decide) rfl rfl (g := (mkF m 28 #[.val (.ref xa), .val (.ref sn), .val (.ref sy), .val (.int xd), .val (.ref xt), .val (.int xo), .val (.int xl)] [(.ref xt), (.ref xa)])) rfl rfl (hb hby d_prog_1_method_3_code_28)
  have N316 := Fr.snoc X316 N313 q1
  have F316 : Fld Z h316 xa "com/example/strict_markup/strictmarkup/Attribute" "text" "Lcom/example/strict_markup/strictmarkup/Text;" (.ref xt) := c314.same W316
  have c317 : Fld Z h316 xa "com/example/strict_markup/strictmarkup/Attribute" "start" "I" (.int d3) := ((((((q9.other W301 (Or.inr (slot_ne (Or.inl (hw _ (List.mem_of_getElem? (i := 92) rfl))) (Or.inl (hw _ (List.mem_of_getElem? (i := 80) rfl))) (by decide) (t := .int) (t' := (.object "java/lang/String")) (by decide) (by decide)))).other W304 (Or.inr (slot_ne (Or.inl (hw _ (List.mem_of_getElem? (i := 92) rfl))) (Or.inl (hw _ (List.mem_of_getElem? (i := 82) rfl))) (by decide) (t := .int) (t' := (.object "java/lang/String")) (by decide) (by decide)))).other W307 (Or.inr (slot_ne (Or.inl (hw _ (List.mem_of_getElem? (i := 92) rfl))) (Or.inl (hw _ (List.mem_of_getElem? (i := 84) rfl))) (by decide) (t := .int) (t' := .boolean) (by decide) (by decide)))).other W310 (Or.inr (slot_ne (Or.inl (hw _ (List.mem_of_getElem? (i := 92) rfl))) (Or.inl (hw _ (List.mem_of_getElem? (i := 86) rfl))) (by decide) (t := .int) (t' := .boolean) (by decide) (by decide)))).other W313 (Or.inr (slot_ne (Or.inl (hw _ (List.mem_of_getElem? (i := 92) rfl))) (Or.inl (hw _ (List.mem_of_getElem? (i := 88) rfl))) (by decide) (t := .int) (t' := (.object "java/lang/String")) (by decide) (by decide)))).other W316 (Or.inr (slot_ne (Or.inl (hw _ (List.mem_of_getElem? (i := 92) rfl))) (Or.inl (hw _ (List.mem_of_getElem? (i := 90) rfl))) (by decide) (t := .int) (t' := (.object "com/example/strict_markup/strictmarkup/Text")) (by decide) (by decide))))
  have c318 : Exa Z h316 xa "com/example/strict_markup/strictmarkup/Attribute" := (c315.wr W316)
  obtain ⟨T319, h319, X319, e319, W319, st319⟩ := putF X316 hx hZ hown (host := "") (Or.inl (hw _ (List.mem_of_getElem? (i := 91) rfl))) Via.refl e316 c317 c318 (Or.inl (hw _ (List.mem_of_getElem? (i := 92) rfl))) (hw _ (List.mem_of_getElem? (i := 63) rfl)) (ty := .int) (by decide) rfl rfl (g := (mkF m 34 #[.val (.ref xa), .val (.ref sn), .val (.ref sy), .val (.int xd), .val (.ref xt), .val (.int xo), .val (.int xl)] [(.int xo), (.ref xa)])) rfl rfl (hb hby d_prog_1_method_3_code_34)
  have N319 := Fr.snoc X319 N316 q1
  have F319 : Fld Z h319 xa "com/example/strict_markup/strictmarkup/Attribute" "start" "I" (.int xo) := c317.same W319
  have c320 : Fld Z h319 xa "com/example/strict_markup/strictmarkup/Attribute" "length" "I" (.int d4) := (((((((q10.other W301 (Or.inr (slot_ne (Or.inl (hw _ (List.mem_of_getElem? (i := 94) rfl))) (Or.inl (hw _ (List.mem_of_getElem? (i := 80) rfl))) (by decide) (t := .int) (t' := (.object "java/lang/String")) (by decide) (by decide)))).other W304 (Or.inr (slot_ne (Or.inl (hw _ (List.mem_of_getElem? (i := 94) rfl))) (Or.inl (hw _ (List.mem_of_getElem? (i := 82) rfl))) (by decide) (t := .int) (t' := (.object "java/lang/String")) (by decide) (by decide)))).other W307 (Or.inr (slot_ne (Or.inl (hw _ (List.mem_of_getElem? (i := 94) rfl))) (Or.inl (hw _ (List.mem_of_getElem? (i := 84) rfl))) (by decide) (t := .int) (t' := .boolean) (by decide) (by decide)))).other W310 (Or.inr (slot_ne (Or.inl (hw _ (List.mem_of_getElem? (i := 94) rfl))) (Or.inl (hw _ (List.mem_of_getElem? (i := 86) rfl))) (by decide) (t := .int) (t' := .boolean) (by decide) (by decide)))).other W313 (Or.inr (slot_ne (Or.inl (hw _ (List.mem_of_getElem? (i := 94) rfl))) (Or.inl (hw _ (List.mem_of_getElem? (i := 88) rfl))) (by decide) (t := .int) (t' := (.object "java/lang/String")) (by decide) (by decide)))).other W316 (Or.inr (slot_ne (Or.inl (hw _ (List.mem_of_getElem? (i := 94) rfl))) (Or.inl (hw _ (List.mem_of_getElem? (i := 90) rfl))) (by decide) (t := .int) (t' := (.object "com/example/strict_markup/strictmarkup/Text")) (by decide) (by decide)))).other W319 (Or.inr (slot_ne (Or.inl (hw _ (List.mem_of_getElem? (i := 94) rfl))) (Or.inl (hw _ (List.mem_of_getElem? (i := 92) rfl))) (by decide) (t := .int) (t' := .int) (by decide) (by decide))))
  have c321 : Exa Z h319 xa "com/example/strict_markup/strictmarkup/Attribute" := (c318.wr W319)
  obtain ⟨T322, h322, X322, e322, W322, st322⟩ := putF X319 hx hZ hown (host := "") (Or.inl (hw _ (List.mem_of_getElem? (i := 93) rfl))) Via.refl e319 c320 c321 (Or.inl (hw _ (List.mem_of_getElem? (i := 94) rfl))) (hw _ (List.mem_of_getElem? (i := 63) rfl)) (ty := .int) (by decide) rfl rfl (g := (mkF m 40 #[.val (.ref xa), .val (.ref sn), .val (.ref sy), .val (.int xd), .val (.ref xt), .val (.int xo), .val (.int xl)] [(.int xl), (.ref xa)])) rfl rfl (hb hby d_prog_1_method_3_code_40)
  have N322 := Fr.snoc X322 N319 q1
  have F322 : Fld Z h322 xa "com/example/strict_markup/strictmarkup/Attribute" "length" "I" (.int xl) := c320.same W322
  have c323 : Fld Z h322 xa "com/example/strict_markup/strictmarkup/Attribute" "name" "Ljava/lang/String;" (.ref sn) := (((((((F301.other W304 (Or.inr (slot_ne (Or.inl (hw _ (List.mem_of_getElem? (i := 80) rfl))) (Or.inl (hw _ (List.mem_of_getElem? (i := 82) rfl))) (by decide) (t := (.object "java/lang/String")) (t' := (.object "java/lang/String")) (by decide) (by decide)))).other W307 (Or.inr (slot_ne (Or.inl (hw _ (List.mem_of_getElem? (i := 80) rfl))) (Or.inl (hw _ (List.mem_of_getElem? (i := 84) rfl))) (by decide) (t := (.object "java/lang/String")) (t' := .boolean) (by decide) (by decide)))).other W310 (Or.inr (slot_ne (Or.inl (hw _ (List.mem_of_getElem? (i := 80) rfl))) (Or.inl (hw _ (List.mem_of_getElem? (i := 86) rfl))) (by decide) (t := (.object "java/lang/String")) (t' := .boolean) (by decide) (by decide)))).other W313 (Or.inr (slot_ne (Or.inl (hw _ (List.mem_of_getElem? (i := 80) rfl))) (Or.inl (hw _ (List.mem_of_getElem? (i := 88) rfl))) (by decide) (t := (.object "java/lang/String")) (t' := (.object "java/lang/String")) (by decide) (by decide)))).other W316 (Or.inr (slot_ne (Or.inl (hw _ (List.mem_of_getElem? (i := 80) rfl))) (Or.inl (hw _ (List.mem_of_getElem? (i := 90) rfl))) (by decide) (t := (.object "java/lang/String")) (t' := (.object "com/example/strict_markup/strictmarkup/Text")) (by decide) (by decide)))).other W319 (Or.inr (slot_ne (Or.inl (hw _ (List.mem_of_getElem? (i := 80) rfl))) (Or.inl (hw _ (List.mem_of_getElem? (i := 92) rfl))) (by decide) (t := (.object "java/lang/String")) (t' := .int) (by decide) (by decide)))).other W322 (Or.inr (slot_ne (Or.inl (hw _ (List.mem_of_getElem? (i := 80) rfl))) (Or.inl (hw _ (List.mem_of_getElem? (i := 94) rfl))) (by decide) (t := (.object "java/lang/String")) (t' := .int) (by decide) (by decide))))
  have c324 : Fld Z h322 xa "com/example/strict_markup/strictmarkup/Attribute" "type" "Ljava/lang/String;" (.ref sy) := ((((((F304.other W307 (Or.inr (slot_ne (Or.inl (hw _ (List.mem_of_getElem? (i := 82) rfl))) (Or.inl (hw _ (List.mem_of_getElem? (i := 84) rfl))) (by decide) (t := (.object "java/lang/String")) (t' := .boolean) (by decide) (by decide)))).other W310 (Or.inr (slot_ne (Or.inl (hw _ (List.mem_of_getElem? (i := 82) rfl))) (Or.inl (hw _ (List.mem_of_getElem? (i := 86) rfl))) (by decide) (t := (.object "java/lang/String")) (t' := .boolean) (by decide) (by decide)))).other W313 (Or.inr (slot_ne (Or.inl (hw _ (List.mem_of_getElem? (i := 82) rfl))) (Or.inl (hw _ (List.mem_of_getElem? (i := 88) rfl))) (by decide) (t := (.object "java/lang/String")) (t' := (.object "java/lang/String")) (by decide) (by decide)))).other W316 (Or.inr (slot_ne (Or.inl (hw _ (List.mem_of_getElem? (i := 82) rfl))) (Or.inl (hw _ (List.mem_of_getElem? (i := 90) rfl))) (by decide) (t := (.object "java/lang/String")) (t' := (.object "com/example/strict_markup/strictmarkup/Text")) (by decide) (by decide)))).other W319 (Or.inr (slot_ne (Or.inl (hw _ (List.mem_of_getElem? (i := 82) rfl))) (Or.inl (hw _ (List.mem_of_getElem? (i := 92) rfl))) (by decide) (t := (.object "java/lang/String")) (t' := .int) (by decide) (by decide)))).other W322 (Or.inr (slot_ne (Or.inl (hw _ (List.mem_of_getElem? (i := 82) rfl))) (Or.inl (hw _ (List.mem_of_getElem? (i := 94) rfl))) (by decide) (t := (.object "java/lang/String")) (t' := .int) (by decide) (by decide))))
  have c325 : Fld Z h322 xa "com/example/strict_markup/strictmarkup/Attribute" "declared" "Z" (.int xd) := (((((F307.other W310 (Or.inr (slot_ne (Or.inl (hw _ (List.mem_of_getElem? (i := 84) rfl))) (Or.inl (hw _ (List.mem_of_getElem? (i := 86) rfl))) (by decide) (t := .boolean) (t' := .boolean) (by decide) (by decide)))).other W313 (Or.inr (slot_ne (Or.inl (hw _ (List.mem_of_getElem? (i := 84) rfl))) (Or.inl (hw _ (List.mem_of_getElem? (i := 88) rfl))) (by decide) (t := .boolean) (t' := (.object "java/lang/String")) (by decide) (by decide)))).other W316 (Or.inr (slot_ne (Or.inl (hw _ (List.mem_of_getElem? (i := 84) rfl))) (Or.inl (hw _ (List.mem_of_getElem? (i := 90) rfl))) (by decide) (t := .boolean) (t' := (.object "com/example/strict_markup/strictmarkup/Text")) (by decide) (by decide)))).other W319 (Or.inr (slot_ne (Or.inl (hw _ (List.mem_of_getElem? (i := 84) rfl))) (Or.inl (hw _ (List.mem_of_getElem? (i := 92) rfl))) (by decide) (t := .boolean) (t' := .int) (by decide) (by decide)))).other W322 (Or.inr (slot_ne (Or.inl (hw _ (List.mem_of_getElem? (i := 84) rfl))) (Or.inl (hw _ (List.mem_of_getElem? (i := 94) rfl))) (by decide) (t := .boolean) (t' := .int) (by decide) (by decide))))
  have c326 : Fld Z h322 xa "com/example/strict_markup/strictmarkup/Attribute" "specified" "Z" (.int (1 : Int32)) := ((((F310.other W313 (Or.inr (slot_ne (Or.inl (hw _ (List.mem_of_getElem? (i := 86) rfl))) (Or.inl (hw _ (List.mem_of_getElem? (i := 88) rfl))) (by decide) (t := .boolean) (t' := (.object "java/lang/String")) (by decide) (by decide)))).other W316 (Or.inr (slot_ne (Or.inl (hw _ (List.mem_of_getElem? (i := 86) rfl))) (Or.inl (hw _ (List.mem_of_getElem? (i := 90) rfl))) (by decide) (t := .boolean) (t' := (.object "com/example/strict_markup/strictmarkup/Text")) (by decide) (by decide)))).other W319 (Or.inr (slot_ne (Or.inl (hw _ (List.mem_of_getElem? (i := 86) rfl))) (Or.inl (hw _ (List.mem_of_getElem? (i := 92) rfl))) (by decide) (t := .boolean) (t' := .int) (by decide) (by decide)))).other W322 (Or.inr (slot_ne (Or.inl (hw _ (List.mem_of_getElem? (i := 86) rfl))) (Or.inl (hw _ (List.mem_of_getElem? (i := 94) rfl))) (by decide) (t := .boolean) (t' := .int) (by decide) (by decide))))
  have c327 : Fld Z h322 xa "com/example/strict_markup/strictmarkup/Attribute" "value" "Ljava/lang/String;" .null := (((F313.other W316 (Or.inr (slot_ne (Or.inl (hw _ (List.mem_of_getElem? (i := 88) rfl))) (Or.inl (hw _ (List.mem_of_getElem? (i := 90) rfl))) (by decide) (t := (.object "java/lang/String")) (t' := (.object "com/example/strict_markup/strictmarkup/Text")) (by decide) (by decide)))).other W319 (Or.inr (slot_ne (Or.inl (hw _ (List.mem_of_getElem? (i := 88) rfl))) (Or.inl (hw _ (List.mem_of_getElem? (i := 92) rfl))) (by decide) (t := (.object "java/lang/String")) (t' := .int) (by decide) (by decide)))).other W322 (Or.inr (slot_ne (Or.inl (hw _ (List.mem_of_getElem? (i := 88) rfl))) (Or.inl (hw _ (List.mem_of_getElem? (i := 94) rfl))) (by decide) (t := (.object "java/lang/String")) (t' := .int) (by decide) (by decide))))
  have c328 : Fld Z h322 xa "com/example/strict_markup/strictmarkup/Attribute" "text" "Lcom/example/strict_markup/strictmarkup/Text;" (.ref xt) := ((F316.other W319 (Or.inr (slot_ne (Or.inl (hw _ (List.mem_of_getElem? (i := 90) rfl))) (Or.inl (hw _ (List.mem_of_getElem? (i := 92) rfl))) (by decide) (t := (.object "com/example/strict_markup/strictmarkup/Text")) (t' := .int) (by decide) (by decide)))).other W322 (Or.inr (slot_ne (Or.inl (hw _ (List.mem_of_getElem? (i := 90) rfl))) (Or.inl (hw _ (List.mem_of_getElem? (i := 94) rfl))) (by decide) (t := (.object "com/example/strict_markup/strictmarkup/Text")) (t' := .int) (by decide) (by decide))))
  have c329 : Fld Z h322 xa "com/example/strict_markup/strictmarkup/Attribute" "start" "I" (.int xo) := (F319.other W322 (Or.inr (slot_ne (Or.inl (hw _ (List.mem_of_getElem? (i := 92) rfl))) (Or.inl (hw _ (List.mem_of_getElem? (i := 94) rfl))) (by decide) (t := .int) (t' := .int) (by decide) (by decide))))
  obtain ⟨fs, hr, hrun, hended, hW, hsame⟩ := X322.leave (v := none) (fun _ => rfl)
  refine ⟨_, _, pre0 _ ?_, hrun, hended, _, _, rfl, ?_, ⟨_, rfl⟩, hW, hsame.mono (by decide) (by decide)⟩
  · refine XS.aloadN X0.here hx rfl (hb hby d_prog_1_method_3_code_0) rfl rfl ?_
    show Steps p.tables e below (s₁.setTop (mkF m 1 #[.val (.ref xa), .val (.ref sn), .val (.ref sy), .val (.int xd), .val (.ref xt), .val (.int xo), .val (.int xl)] [(.ref xa)])) _
    refine XS.aloadN X0.here hx rfl (hb hby d_prog_1_method_3_code_1) rfl rfl ?_
    show Steps p.tables e below (s₁.setTop (mkF m 2 #[.val (.ref xa), .val (.ref sn), .val (.ref sy), .val (.int xd), .val (.ref xt), .val (.int xo), .val (.int xl)] [(.ref sn), (.ref xa)])) _
    refine st301 _ ?_
    show Steps p.tables e below (T301.setTop (mkF m 5 #[.val (.ref xa), .val (.ref sn), .val (.ref sy), .val (.int xd), .val (.ref xt), .val (.int xo), .val (.int xl)] [])) _
    refine XS.aloadN X301.here hx rfl (hb hby d_prog_1_method_3_code_5) rfl rfl ?_
    show Steps p.tables e below (T301.setTop (mkF m 6 #[.val (.ref xa), .val (.ref sn), .val (.ref sy), .val (.int xd), .val (.ref xt), .val (.int xo), .val (.int xl)] [(.ref xa)])) _
    refine XS.aloadN X301.here hx rfl (hb hby d_prog_1_method_3_code_6) rfl rfl ?_
    show Steps p.tables e below (T301.setTop (mkF m 7 #[.val (.ref xa), .val (.ref sn), .val (.ref sy), .val (.int xd), .val (.ref xt), .val (.int xo), .val (.int xl)] [(.ref sy), (.ref xa)])) _
    refine st304 _ ?_
    show Steps p.tables e below (T304.setTop (mkF m 10 #[.val (.ref xa), .val (.ref sn), .val (.ref sy), .val (.int xd), .val (.ref xt), .val (.int xo), .val (.int xl)] [])) _
    refine XS.aloadN X304.here hx rfl (hb hby d_prog_1_method_3_code_10) rfl rfl ?_
    show Steps p.tables e below (T304.setTop (mkF m 11 #[.val (.ref xa), .val (.ref sn), .val (.ref sy), .val (.int xd), .val (.ref xt), .val (.int xo), .val (.int xl)] [(.ref xa)])) _
    refine XS.iloadN X304.here hx rfl (hb hby d_prog_1_method_3_code_11) rfl ?_
    show Steps p.tables e below (T304.setTop (mkF m 12 #[.val (.ref xa), .val (.ref sn), .val (.ref sy), .val (.int xd), .val (.ref xt), .val (.int xo), .val (.int xl)] [(.int xd), (.ref xa)])) _
    refine st307 _ ?_
    show Steps p.tables e below (T307.setTop (mkF m 15 #[.val (.ref xa), .val (.ref sn), .val (.ref sy), .val (.int xd), .val (.ref xt), .val (.int xo), .val (.int xl)] [])) _
    refine XS.aloadN X307.here hx rfl (hb hby d_prog_1_method_3_code_15) rfl rfl ?_
    show Steps p.tables e below (T307.setTop (mkF m 16 #[.val (.ref xa), .val (.ref sn), .val (.ref sy), .val (.int xd), .val (.ref xt), .val (.int xo), .val (.int xl)] [(.ref xa)])) _
    refine XS.iconst X307.here hx rfl (hb hby d_prog_1_method_3_code_16) ?_
    show Steps p.tables e below (T307.setTop (mkF m 17 #[.val (.ref xa), .val (.ref sn), .val (.ref sy), .val (.int xd), .val (.ref xt), .val (.int xo), .val (.int xl)] [(.int (1 : Int32)), (.ref xa)])) _
    refine st310 _ ?_
    show Steps p.tables e below (T310.setTop (mkF m 20 #[.val (.ref xa), .val (.ref sn), .val (.ref sy), .val (.int xd), .val (.ref xt), .val (.int xo), .val (.int xl)] [])) _
    refine XS.aloadN X310.here hx rfl (hb hby d_prog_1_method_3_code_20) rfl rfl ?_
    show Steps p.tables e below (T310.setTop (mkF m 21 #[.val (.ref xa), .val (.ref sn), .val (.ref sy), .val (.int xd), .val (.ref xt), .val (.int xo), .val (.int xl)] [(.ref xa)])) _
    refine XS.aconstNull X310.here hx rfl (hb hby d_prog_1_method_3_code_21) ?_
    show Steps p.tables e below (T310.setTop (mkF m 22 #[.val (.ref xa), .val (.ref sn), .val (.ref sy), .val (.int xd), .val (.ref xt), .val (.int xo), .val (.int xl)] [.null, (.ref xa)])) _
    refine st313 _ ?_
    show Steps p.tables e below (T313.setTop (mkF m 25 #[.val (.ref xa), .val (.ref sn), .val (.ref sy), .val (.int xd), .val (.ref xt), .val (.int xo), .val (.int xl)] [])) _
    refine XS.aloadN X313.here hx rfl (hb hby d_prog_1_method_3_code_25) rfl rfl ?_
    show Steps p.tables e below (T313.setTop (mkF m 26 #[.val (.ref xa), .val (.ref sn), .val (.ref sy), .val (.int xd), .val (.ref xt), .val (.int xo), .val (.int xl)] [(.ref xa)])) _
    refine XS.aload X313.here hx rfl (hb hby d_prog_1_method_3_code_26) rfl rfl ?_
    show Steps p.tables e below (T313.setTop (mkF m 28 #[.val (.ref xa), .val (.ref sn), .val (.ref sy), .val (.int xd), .val (.ref xt), .val (.int xo), .val (.int xl)] [(.ref xt), (.ref xa)])) _
    refine st316 _ ?_
    show Steps p.tables e below (T316.setTop (mkF m 31 #[.val (.ref xa), .val (.ref sn), .val (.ref sy), .val (.int xd), .val (.ref xt), .val (.int xo), .val (.int xl)] [])) _
    refine XS.aloadN X316.here hx rfl (hb hby d_prog_1_method_3_code_31) rfl rfl ?_
    show Steps p.tables e below (T316.setTop (mkF m 32 #[.val (.ref xa), .val (.ref sn), .val (.ref sy), .val (.int xd), .val (.ref xt), .val (.int xo), .val (.int xl)] [(.ref xa)])) _
    refine XS.iload X316.here hx rfl (hb hby d_prog_1_method_3_code_32) rfl ?_
    show Steps p.tables e below (T316.setTop (mkF m 34 #[.val (.ref xa), .val (.ref sn), .val (.ref sy), .val (.int xd), .val (.ref xt), .val (.int xo), .val (.int xl)] [(.int xo), (.ref xa)])) _
    refine st319 _ ?_
    show Steps p.tables e below (T319.setTop (mkF m 37 #[.val (.ref xa), .val (.ref sn), .val (.ref sy), .val (.int xd), .val (.ref xt), .val (.int xo), .val (.int xl)] [])) _
    refine XS.aloadN X319.here hx rfl (hb hby d_prog_1_method_3_code_37) rfl rfl ?_
    show Steps p.tables e below (T319.setTop (mkF m 38 #[.val (.ref xa), .val (.ref sn), .val (.ref sy), .val (.int xd), .val (.ref xt), .val (.int xo), .val (.int xl)] [(.ref xa)])) _
    refine XS.iload X319.here hx rfl (hb hby d_prog_1_method_3_code_38) rfl ?_
    show Steps p.tables e below (T319.setTop (mkF m 40 #[.val (.ref xa), .val (.ref sn), .val (.ref sy), .val (.int xd), .val (.ref xt), .val (.int xo), .val (.int xl)] [(.int xl), (.ref xa)])) _
    refine st322 _ ?_
    show Steps p.tables e below (T322.setTop (mkF m 43 #[.val (.ref xa), .val (.ref sn), .val (.ref sy), .val (.int xd), .val (.ref xt), .val (.int xo), .val (.int xl)] [])) _
    exact X322.returnOut hx Bd.returns (hb hby d_prog_1_method_3_code_43) hr
  · show Q_spT Z xa sn sy xd xt xo xl v1 v2 d1 d2 v3 v4 d3 d4 h0 n0 _ T322.heap _
    rw [e322]
    exact ⟨rfl, N322, (((((((((Keep.refl h0 ([xa] : List Addr)).wr W301 (Or.inl (by simp))).wr W304 (Or.inl (by simp))).wr W307 (Or.inl (by simp))).wr W310 (Or.inl (by simp))).wr W313 (Or.inl (by simp))).wr W316 (Or.inl (by simp))).wr W319 (Or.inl (by simp))).wr W322 (Or.inl (by simp))), c323, c324, c325, c326, c327, c328, c329, F322⟩
theorem d_prog_1_method_4_code_0 : decode prog_1_method_4_code 0 = .ok (.aload_n 0, 1) := by decide +kernel
theorem d_prog_1_method_4_code_1 : decode prog_1_method_4_code 1 = .ok (.aload_n 1, 1) := by decide +kernel
theorem d_prog_1_method_4_code_2 : decode prog_1_method_4_code 2 = .ok (.aload_n 2, 1) := by decide +kernel
theorem d_prog_1_method_4_code_3 : decode prog_1_method_4_code 3 = .ok (.iconst 1, 1) := by decide +kernel
theorem d_prog_1_method_4_code_4 : decode prog_1_method_4_code 4 = .ok (.aconst_null, 1) := by decide +kernel
theorem d_prog_1_method_4_code_5 : decode prog_1_method_4_code 5 = .ok (.iconst 0, 1) := by decide +kernel
theorem d_prog_1_method_4_code_6 : decode prog_1_method_4_code 6 = .ok (.iconst 0, 1) := by decide +kernel
theorem d_prog_1_method_4_code_7 : decode prog_1_method_4_code 7 = .ok (.invokevirtual 38, 3) := by decide +kernel
theorem pd_14 : parseMethodDescriptor "(Ljava/lang/String;Ljava/lang/String;ZLcom/example/strict_markup/strictmarkup/Text;II)V" = some ⟨[(.object "java/lang/String"), (.object "java/lang/String"), .boolean, (.object "com/example/strict_markup/strictmarkup/Text"), .int, .int], none⟩ := by decide +kernel
theorem d_prog_1_method_4_code_10 : decode prog_1_method_4_code 10 = .ok (.aload_n 0, 1) := by decide +kernel
theorem d_prog_1_method_4_code_11 : decode prog_1_method_4_code 11 = .ok (.aload_n 3, 1) := by decide +kernel
theorem d_prog_1_method_4_code_12 : decode prog_1_method_4_code 12 = .ok (.putfield 21, 3) := by decide +kernel
theorem d_prog_1_method_4_code_15 : decode prog_1_method_4_code 15 = .ok (.return_, 1) := by decide +kernel
theorem ef_15 (m : MethodId) (x0 : Addr) (x1 : Addr) (x2 : Addr) (x3 : Addr) : entryFrame m #[(.ref x0), (.ref x1), (.ref x2), (.ref x3)] 4 = mkF m 0 #[.val (.ref x0), .val (.ref x1), .val (.ref x2), .val (.ref x3)] [] := by first | (simp [entryFrame, mkF, argsToLocals, Value.category]; done) | rfl
def Q_sp4 (Z : State) (xa : Addr) (sn : Addr) (sy : Addr) (sv : Addr) (h0 : Heap) (n0 : Nat) (v : Option Value) (h : Heap) (L : List Loc) : Prop := (v = none) ∧ (Fr n0 L) ∧ (Keep h0 h ([xa] : List Addr)) ∧ (Fld Z h xa "com/example/strict_markup/strictmarkup/Attribute" "name" "Ljava/lang/String;" (.ref sn)) ∧ (Fld Z h xa "com/example/strict_markup/strictmarkup/Attribute" "type" "Ljava/lang/String;" (.ref sy)) ∧ (Fld Z h xa "com/example/strict_markup/strictmarkup/Attribute" "declared" "Z" (.int (1 : Int32))) ∧ (Fld Z h xa "com/example/strict_markup/strictmarkup/Attribute" "specified" "Z" (.int (1 : Int32))) ∧ (Fld Z h xa "com/example/strict_markup/strictmarkup/Attribute" "value" "Ljava/lang/String;" (.ref sv)) ∧ (Fld Z h xa "com/example/strict_markup/strictmarkup/Attribute" "text" "Lcom/example/strict_markup/strictmarkup/Text;" .null) ∧ (Fld Z h xa "com/example/strict_markup/strictmarkup/Attribute" "start" "I" (.int (0 : Int32))) ∧ (Fld Z h xa "com/example/strict_markup/strictmarkup/Attribute" "length" "I" (.int (0 : Int32)))
set_option maxRecDepth 65536 in
set_option maxHeartbeats 40000000 in
theorem rm_sp4 (l : Launch) (Z : State) (a0 : Array Value) (hw : ∀ d ∈ tables_1, d.before a0 Z = true) (ws : List Jvm.Cond) (xa : Addr) (sn : Addr) (sy : Addr) (sv : Addr) (h0 : Heap) (n0 : Nat) (Z0 : n0 ≤ h0.size) (q0 : Exa Z h0 xa "com/example/strict_markup/strictmarkup/Attribute") (q1 : n0 ≤ xa) (q2 : Fld Z h0 xa "com/example/strict_markup/strictmarkup/Attribute" "name" "Ljava/lang/String;" .null) (q3 : Fld Z h0 xa "com/example/strict_markup/strictmarkup/Attribute" "type" "Ljava/lang/String;" .null) (q4 : Fld Z h0 xa "com/example/strict_markup/strictmarkup/Attribute" "declared" "Z" (.int (0 : Int32))) (q5 : Fld Z h0 xa "com/example/strict_markup/strictmarkup/Attribute" "specified" "Z" (.int (0 : Int32))) (q6 : Fld Z h0 xa "com/example/strict_markup/strictmarkup/Attribute" "value" "Ljava/lang/String;" .null) (q7 : Fld Z h0 xa "com/example/strict_markup/strictmarkup/Attribute" "text" "Lcom/example/strict_markup/strictmarkup/Text;" .null) (q8 : Fld Z h0 xa "com/example/strict_markup/strictmarkup/Attribute" "start" "I" (.int (0 : Int32))) (q9 : Fld Z h0 xa "com/example/strict_markup/strictmarkup/Attribute" "length" "I" (.int (0 : Int32))) :
    MetFree l (⟨"com/example/strict_markup/strictmarkup/Attribute", "specify", "(Ljava/lang/String;Ljava/lang/String;Ljava/lang/String;)V"⟩ : MethodName) (head1 (Jvm.Cond.code (⟨"com/example/strict_markup/strictmarkup/Attribute", "specify", "(Ljava/lang/String;Ljava/lang/String;Ljava/lang/String;)V"⟩ : MethodName) prog_1_method_4_code 4 none :: ws) ({ frames := 1, cells := 0, slots := 0, locals := 18 } : Room)) (fun a₁ U₁ => a₁ = #[(.ref xa), (.ref sn), (.ref sy), (.ref sv)] ∧ Z.Warmed39 U₁.vm ∧ U₁.heap = h0) (fun _ _ _ _ _ => True) (fun _ U₁ o₁ U₂ => ∃ v₁ L₁, o₁ = .returned v₁ ∧ Q_sp4 Z xa sn sy sv h0 n0 v₁ U₂.heap L₁ ∧ FrameEnd U₁ o₁ U₂ L₁ ({ frames := 1, cells := 0, slots := 0, locals := 18 } : Room).cells ({ frames := 1, cells := 0, slots := 0, locals := 18 } : Room).slots) := by
  refine MetFree.of_bodySF (plainFor_of_name pn_5) hisR ?_
  intro p e s m args below meth c s₁ Bd hml0 hP hK
  obtain ⟨rfl, hZ, hh⟩ := hP
  have hx := Bd.exec
  have hby := Bd.bytes
  have hml : c.maxLocals = 4 := hml0
  have hown : s.vm.findClass "com/example/strict_markup/strictmarkup/Attribute" = some m.cls := findClass_of_methodNamed Bd.named
  have hnm := (name_of_methodNamed Bd.named Bd.method).1
  have X0 : Stand p l e ({ frames := 1, cells := 0, slots := 0, locals := 18 } : Room) s m #[(.ref xa), (.ref sn), (.ref sy), (.ref sv)] below meth c s₁ [] 0 0 := Stand.of_body Bd
  have e0 : s₁.heap = h0 := by rw [← hh, Bd.state]; rfl
  have N0 := Fr.nil n0
  have pre0 : ∀ t, Steps p.tables e below (s₁.setTop (mkF m 0 #[.val (.ref xa), .val (.ref sn), .val (.ref sy), .val (.ref sv)] [])) t → Steps p.tables e below (s₁.setTop (entryFrame m #[(.ref xa), (.ref sn), (.ref sy), (.ref sv)] 4)) t := fun t k => castTop (ef_15 m xa sn sy sv) k
  obtain ⟨cq301, kq301, q301a, q301b, q301c⟩ := isOf hZ e0 q0
  obtain ⟨_, _, ⟨T301, L301, k301, n301⟩, -, X301, ⟨Lc301, hQ301, l301, y301, z301⟩, st301⟩ := X0.virtualBack hx (y := (⟨"com/example/strict_markup/strictmarkup/Attribute", "specify", "(Ljava/lang/String;Ljava/lang/String;ZLcom/example/strict_markup/strictmarkup/Text;II)V"⟩ : MethodName)) (z := (⟨"com/example/strict_markup/strictmarkup/Attribute", "specify", "(Ljava/lang/String;Ljava/lang/String;ZLcom/example/strict_markup/strictmarkup/Text;II)V"⟩ : MethodName)) hown (mvT hZ (hw _ (List.mem_of_getElem? (i := 74) rfl))) (mvT hZ (hw _ (List.mem_of_getElem? (i := 75) rfl))) (notFace_of_selects (args := #[]) (mvT hZ (hw _ (List.mem_of_getElem? (i := 77) rfl)))) (mvT hZ (hw _ (List.mem_of_getElem? (i := 77) rfl))) (mvT hZ (hw _ (List.mem_of_getElem? (i := 76) rfl))) (by decide) (backOf (W := 0) (rm_spN l Z a0 hw [] xa sn sy (1 : Int32) (0 : Int32) (0 : Int32) .null .null (0 : Int32) (0 : Int32) .null .null (0 : Int32) (0 : Int32) h0 n0 Z0 q0 q1 (rfl) q2 q3 q4 q5 q6 q7 q8 q9) hZ (hw _ (List.mem_of_getElem? (i := 78) rfl)) (hw _ (List.mem_of_getElem? (i := 64) rfl)) (by decide) (by decide)) q301a q301c (g := (mkF m 7 #[.val (.ref xa), .val (.ref sn), .val (.ref sy), .val (.ref sv)] [(.int (0 : Int32)), (.int (0 : Int32)), .null, (.int (1 : Int32)), (.ref sy), (.ref sn), (.ref xa)])) rfl (by rw [hml]; rfl) (Steps.refl _) (argsL := [(.ref sn), (.ref sy), (.int (1 : Int32)), .null, (.int (0 : Int32)), (.int (0 : Int32))]) (rest := []) (lenOf pd_14 rfl) rfl (by show 2 * 0 + _ ≤ _; exact Nat.le_of_eq rfl) (hb hby d_prog_1_method_4_code_7) (fun _ _ => ⟨rfl, e0, (by decide : 0 + 0 ≤ _), (by decide : 0 + 0 ≤ _)⟩)
  dsimp only [Pt.U, Pt.locs, Pt.cells, Pt.slots] at X301 l301 y301 z301 st301 hQ301
  replace l301 := l301.symm
  replace y301 := y301.symm
  replace z301 := z301.symm
  subst l301 y301 z301
  obtain ⟨rfl, Nq301, K301, f301_0, f301_1, f301_2, f301_3, f301_4, f301_5, f301_6, f301_7⟩ := hQ301
  have N301 := Fr.app N0 Nq301
  have c302 : Exa Z T301.heap xa "com/example/strict_markup/strictmarkup/Attribute" := (q0.keep K301)
  obtain ⟨T303, h303, X303, e303, W303, st303⟩ := putF X301 hx hZ hown (host := "") (Or.inl (hw _ (List.mem_of_getElem? (i := 87) rfl))) Via.refl rfl f301_4 c302 (Or.inl (hw _ (List.mem_of_getElem? (i := 88) rfl))) (hw _ (List.mem_of_getElem? (i := 63) rfl)) (ty := (.object "java/lang/String")) (by decide) rfl rfl (g := (mkF m 12 #[.val (.ref xa), .val (.ref sn), .val (.ref sy), .val (.ref sv)] [(.ref sv), (.ref xa)])) rfl rfl (hb hby d_prog_1_method_4_code_12)
  have N303 := Fr.snoc X303 N301 q1
  have F303 : Fld Z h303 xa "com/example/strict_markup/strictmarkup/Attribute" "value" "Ljava/lang/String;" (.ref sv) := f301_4.same W303
  have c304 : Fld Z h303 xa "com/example/strict_markup/strictmarkup/Attribute" "name" "Ljava/lang/String;" (.ref sn) := (f301_0.other W303 (Or.inr (slot_ne (Or.inl (hw _ (List.mem_of_getElem? (i := 80) rfl))) (Or.inl (hw _ (List.mem_of_getElem? (i := 88) rfl))) (by decide) (t := (.object "java/lang/String")) (t' := (.object "java/lang/String")) (by decide) (by decide))))
  have c305 : Fld Z h303 xa "com/example/strict_markup/strictmarkup/Attribute" "type" "Ljava/lang/String;" (.ref sy) := (f301_1.other W303 (Or.inr (slot_ne (Or.inl (hw _ (List.mem_of_getElem? (i := 82) rfl))) (Or.inl (hw _ (List.mem_of_getElem? (i := 88) rfl))) (by decide) (t := (.object "java/lang/String")) (t' := (.object "java/lang/String")) (by decide) (by decide))))
  have c306 : Fld Z h303 xa "com/example/strict_markup/strictmarkup/Attribute" "declared" "Z" (.int (1 : Int32)) := (f301_2.other W303 (Or.inr (slot_ne (Or.inl (hw _ (List.mem_of_getElem? (i := 84) rfl))) (Or.inl (hw _ (List.mem_of_getElem? (i := 88) rfl))) (by decide) (t := .boolean) (t' := (.object "java/lang/String")) (by decide) (by decide))))
  have c307 : Fld Z h303 xa "com/example/strict_markup/strictmarkup/Attribute" "specified" "Z" (.int (1 : Int32)) := (f301_3.other W303 (Or.inr (slot_ne (Or.inl (hw _ (List.mem_of_getElem? (i := 86) rfl))) (Or.inl (hw _ (List.mem_of_getElem? (i := 88) rfl))) (by decide) (t := .boolean) (t' := (.object "java/lang/String")) (by decide) (by decide))))
  have c308 : Fld Z h303 xa "com/example/strict_markup/strictmarkup/Attribute" "text" "Lcom/example/strict_markup/strictmarkup/Text;" .null := (f301_5.other W303 (Or.inr (slot_ne (Or.inl (hw _ (List.mem_of_getElem? (i := 90) rfl))) (Or.inl (hw _ (List.mem_of_getElem? (i := 88) rfl))) (by decide) (t := (.object "com/example/strict_markup/strictmarkup/Text")) (t' := (.object "java/lang/String")) (by decide) (by decide))))
  have c309 : Fld Z h303 xa "com/example/strict_markup/strictmarkup/Attribute" "start" "I" (.int (0 : Int32)) := (f301_6.other W303 (Or.inr (slot_ne (Or.inl (hw _ (List.mem_of_getElem? (i := 92) rfl))) (Or.inl (hw _ (List.mem_of_getElem? (i := 88) rfl))) (by decide) (t := .int) (t' := (.object "java/lang/String")) (by decide) (by decide))))
  have c310 : Fld Z h303 xa "com/example/strict_markup/strictmarkup/Attribute" "length" "I" (.int (0 : Int32)) := (f301_7.other W303 (Or.inr (slot_ne (Or.inl (hw _ (List.mem_of_getElem? (i := 94) rfl))) (Or.inl (hw _ (List.mem_of_getElem? (i := 88) rfl))) (by decide) (t := .int) (t' := (.object "java/lang/String")) (by decide) (by decide))))
  obtain ⟨fs, hr, hrun, hended, hW, hsame⟩ := X303.leave (v := none) (fun _ => rfl)
  refine ⟨_, _, pre0 _ ?_, hrun, hended, _, _, rfl, ?_, ⟨_, rfl⟩, hW, hsame.mono (by decide) (by decide)⟩
  · refine XS.aloadN X0.here hx rfl (hb hby d_prog_1_method_4_code_0) rfl rfl ?_
    show Steps p.tables e below (s₁.setTop (mkF m 1 #[.val (.ref xa), .val (.ref sn), .val (.ref sy), .val (.ref sv)] [(.ref xa)])) _
    refine XS.aloadN X0.here hx rfl (hb hby d_prog_1_method_4_code_1) rfl rfl ?_
    show Steps p.tables e below (s₁.setTop (mkF m 2 #[.val (.ref xa), .val (.ref sn), .val (.ref sy), .val (.ref sv)] [(.ref sn), (.ref xa)])) _
    refine XS.aloadN X0.here hx rfl (hb hby d_prog_1_method_4_code_2) rfl rfl ?_
    show Steps p.tables e below (s₁.setTop (mkF m 3 #[.val (.ref xa), .val (.ref sn), .val (.ref sy), .val (.ref sv)] [(.ref sy), (.ref sn), (.ref xa)])) _
    refine XS.iconst X0.here hx rfl (hb hby d_prog_1_method_4_code_3) ?_
    show Steps p.tables e below (s₁.setTop (mkF m 4 #[.val (.ref xa), .val (.ref sn), .val (.ref sy), .val (.ref sv)] [(.int (1 : Int32)), (.ref sy), (.ref sn), (.ref xa)])) _
    refine XS.aconstNull X0.here hx rfl (hb hby d_prog_1_method_4_code_4) ?_
    show Steps p.tables e below (s₁.setTop (mkF m 5 #[.val (.ref xa), .val (.ref sn), .val (.ref sy), .val (.ref sv)] [.null, (.int (1 : Int32)), (.ref sy), (.ref sn), (.ref xa)])) _
    refine XS.iconst X0.here hx rfl (hb hby d_prog_1_method_4_code_5) ?_
    show Steps p.tables e below (s₁.setTop (mkF m 6 #[.val (.ref xa), .val (.ref sn), .val (.ref sy), .val (.ref sv)] [(.int (0 : Int32)), .null, (.int (1 : Int32)), (.ref sy), (.ref sn), (.ref xa)])) _
    refine XS.iconst X0.here hx rfl (hb hby d_prog_1_method_4_code_6) ?_
    show Steps p.tables e below (s₁.setTop (mkF m 7 #[.val (.ref xa), .val (.ref sn), .val (.ref sy), .val (.ref sv)] [(.int (0 : Int32)), (.int (0 : Int32)), .null, (.int (1 : Int32)), (.ref sy), (.ref sn), (.ref xa)])) _
    refine st301.trans ?_
    show Steps p.tables e below (T301.setTop (mkF m 10 #[.val (.ref xa), .val (.ref sn), .val (.ref sy), .val (.ref sv)] [])) _
    refine XS.aloadN X301.here hx rfl (hb hby d_prog_1_method_4_code_10) rfl rfl ?_
    show Steps p.tables e below (T301.setTop (mkF m 11 #[.val (.ref xa), .val (.ref sn), .val (.ref sy), .val (.ref sv)] [(.ref xa)])) _
    refine XS.aloadN X301.here hx rfl (hb hby d_prog_1_method_4_code_11) rfl rfl ?_
    show Steps p.tables e below (T301.setTop (mkF m 12 #[.val (.ref xa), .val (.ref sn), .val (.ref sy), .val (.ref sv)] [(.ref sv), (.ref xa)])) _
    refine st303 _ ?_
    show Steps p.tables e below (T303.setTop (mkF m 15 #[.val (.ref xa), .val (.ref sn), .val (.ref sy), .val (.ref sv)] [])) _
    exact X303.returnOut hx Bd.returns (hb hby d_prog_1_method_4_code_15) hr
  · show Q_sp4 Z xa sn sy sv h0 n0 _ T303.heap _
    rw [e303]
    exact ⟨rfl, N303, (((Keep.refl h0 ([xa] : List Addr)).trans K301 (allS (Or.inl (by simp)) all0)).wr W303 (Or.inl (by simp))), c304, c305, c306, c307, F303, c308, c309, c310⟩
theorem d_prog_1_method_6_code_0 : decode prog_1_method_6_code 0 = .ok (.aload_n 0, 1) := by decide +kernel
theorem d_prog_1_method_6_code_1 : decode prog_1_method_6_code 1 = .ok (.getfield 21, 3) := by decide +kernel
theorem d_prog_1_method_6_code_4 : decode prog_1_method_6_code 4 = .ok (.ifnonnull 29, 3) := by decide +kernel
theorem d_prog_1_method_6_code_7 : decode prog_1_method_6_code 7 = .ok (.aload_n 0, 1) := by decide +kernel
theorem d_prog_1_method_6_code_8 : decode prog_1_method_6_code 8 = .ok (.new 42, 3) := by decide +kernel
theorem d_prog_1_method_6_code_11 : decode prog_1_method_6_code 11 = .ok (.dup, 1) := by decide +kernel
theorem d_prog_1_method_6_code_12 : decode prog_1_method_6_code 12 = .ok (.aload_n 0, 1) := by decide +kernel
theorem d_prog_1_method_6_code_13 : decode prog_1_method_6_code 13 = .ok (.getfield 27, 3) := by decide +kernel
theorem d_prog_1_method_6_code_16 : decode prog_1_method_6_code 16 = .ok (.invokevirtual 44, 3) := by decide +kernel
theorem pd_15 : parseMethodDescriptor "()[C" = some ⟨[], some (.array .char)⟩ := by decide +kernel
theorem d_prog_1_method_6_code_19 : decode prog_1_method_6_code 19 = .ok (.aload_n 0, 1) := by decide +kernel
theorem d_prog_1_method_6_code_20 : decode prog_1_method_6_code 20 = .ok (.getfield 31, 3) := by decide +kernel
theorem d_prog_1_method_6_code_23 : decode prog_1_method_6_code 23 = .ok (.aload_n 0, 1) := by decide +kernel
theorem d_prog_1_method_6_code_24 : decode prog_1_method_6_code 24 = .ok (.getfield 35, 3) := by decide +kernel
theorem d_prog_1_method_6_code_27 : decode prog_1_method_6_code 27 = .ok (.invokespecial 50, 3) := by decide +kernel
theorem pd_16 : parseMethodDescriptor "([CII)V" = some ⟨[(.array .char), .int, .int], none⟩ := by decide +kernel
theorem d_prog_1_method_6_code_30 : decode prog_1_method_6_code 30 = .ok (.putfield 21, 3) := by decide +kernel
theorem d_prog_1_method_6_code_33 : decode prog_1_method_6_code 33 = .ok (.aload_n 0, 1) := by decide +kernel
theorem d_prog_1_method_6_code_34 : decode prog_1_method_6_code 34 = .ok (.getfield 21, 3) := by decide +kernel
theorem d_prog_1_method_6_code_37 : decode prog_1_method_6_code 37 = .ok (.areturn, 1) := by decide +kernel
def Q_aval (Z : State) (xa : Addr) (sn : Addr) (sy : Addr) (xd : Int32) (xt : Addr) (ca : Addr) (kc : ClassId) (cs : List Int32) (dv : Value) (o : Nat) (n : Nat) (G : Int32) (fm : Value) (h0 : Heap) (n0 : Nat) (v : Option Value) (h : Heap) (L : List Loc) : Prop := ∃ (xr : Addr) (tt : Addr) (kt : ClassId) (cd : Int32) (nn : Int32) (vs : List Value), (v = some (.ref xr)) ∧ (Fr n0 L) ∧ (Keep h0 h ([xa] : List Addr)) ∧ (h0.size ≤ xr) ∧ (Exa Z h xr "java/lang/String") ∧ (Fld Z h xr "java/lang/String" "value" "[B" (.ref tt)) ∧ (Fld Z h xr "java/lang/String" "coder" "B" (.int cd)) ∧ (Arv Z h tt kt .byte nn vs (.int 0)) ∧ (StrChars.Road.CodA ((cs.drop o).take n) cd nn vs) ∧ (Fld Z h xa "com/example/strict_markup/strictmarkup/Attribute" "name" "Ljava/lang/String;" (.ref sn)) ∧ (Fld Z h xa "com/example/strict_markup/strictmarkup/Attribute" "type" "Ljava/lang/String;" (.ref sy)) ∧ (Fld Z h xa "com/example/strict_markup/strictmarkup/Attribute" "declared" "Z" (.int xd)) ∧ (Fld Z h xa "com/example/strict_markup/strictmarkup/Attribute" "specified" "Z" (.int (1 : Int32)))
set_option maxRecDepth 65536 in
set_option maxHeartbeats 40000000 in
theorem rm_aval (l : Launch) (Z : State) (a0 : Array Value) (hw : ∀ d ∈ tables_1, d.before a0 Z = true) (ws : List Jvm.Cond) (xa : Addr) (sn : Addr) (sy : Addr) (xd : Int32) (xt : Addr) (ca : Addr) (kc : ClassId) (cs : List Int32) (dv : Value) (o : Nat) (n : Nat) (G : Int32) (fm : Value) (h0 : Heap) (n0 : Nat) (Z0 : n0 ≤ h0.size) (q0 : Sta Z Z.heap "java/lang/String" "COMPACT_STRINGS" "Z" (.int G)) (hCS : ¬ (G = (0 : Int32))) (q2 : Sta Z Z.heap "java/lang/StringUTF16" "$assertionsDisabled" "Z" (.int (1 : Int32))) (q3 : Sta Z Z.heap "java/lang/StringUTF16" "HI_BYTE_SHIFT" "I" (.int (0 : Int32))) (q4 : Sta Z Z.heap "java/lang/StringUTF16" "LO_BYTE_SHIFT" "I" (.int (8 : Int32))) (q5 : Sta Z Z.heap "jdk/internal/util/Preconditions" "SIOOBE_FORMATTER" "Ljava/util/function/BiFunction;" fm) (hFM : fm.isRef = true) (q7 : Old Z n0 h0) (q8 : Exa Z h0 xa "com/example/strict_markup/strictmarkup/Attribute") (q9 : n0 ≤ xa) (q10 : Fld Z h0 xa "com/example/strict_markup/strictmarkup/Attribute" "name" "Ljava/lang/String;" (.ref sn)) (q11 : Fld Z h0 xa "com/example/strict_markup/strictmarkup/Attribute" "type" "Ljava/lang/String;" (.ref sy)) (q12 : Fld Z h0 xa "com/example/strict_markup/strictmarkup/Attribute" "declared" "Z" (.int xd)) (q13 : Fld Z h0 xa "com/example/strict_markup/strictmarkup/Attribute" "specified" "Z" (.int (1 : Int32))) (q14 : Fld Z h0 xa "com/example/strict_markup/strictmarkup/Attribute" "value" "Ljava/lang/String;" .null) (q15 : Fld Z h0 xa "com/example/strict_markup/strictmarkup/Attribute" "text" "Lcom/example/strict_markup/strictmarkup/Text;" (.ref xt)) (q16 : Fld Z h0 xa "com/example/strict_markup/strictmarkup/Attribute" "start" "I" (.int (Int32.ofNat o))) (q17 : Fld Z h0 xa "com/example/strict_markup/strictmarkup/Attribute" "length" "I" (.int (Int32.ofNat n))) (q18 : Exa Z h0 xt "com/example/strict_markup/strictmarkup/Text") (q19 : xt ≠ xa) (q20 : Fld Z h0 xt "com/example/strict_markup/strictmarkup/Text" "chars" "[C" (.ref ca)) (q21 : Arv Z h0 ca kc .char (Int32.ofNat cs.length) (cs.map Value.int) dv) (hN : cs.length < 2 ^ 31) (hon : o + n ≤ cs.length) (hcap : n ≤ 3) (hWs : ∀ c ∈ cs, own_W c) :
    MetFree l (⟨"com/example/strict_markup/strictmarkup/Attribute", "value", "()Ljava/lang/String;"⟩ : MethodName) (head1 (Jvm.Cond.code (⟨"com/example/strict_markup/strictmarkup/Attribute", "value", "()Ljava/lang/String;"⟩ : MethodName) prog_1_method_6_code 1 (some (.object "java/lang/String")) :: ws) ({ frames := 6, cells := 5, slots := 13, locals := 91 } : Room)) (fun a₁ U₁ => a₁ = #[(.ref xa)] ∧ Z.Warmed39 U₁.vm ∧ U₁.heap = h0 ∧ CHv Z [("java/lang/String", 7)] U₁.vm h0) (fun _ _ _ _ _ => True) (fun _ U₁ o₁ U₂ => ∃ v₁ L₁, o₁ = .returned v₁ ∧ Q_aval Z xa sn sy xd xt ca kc cs dv o n G fm h0 n0 v₁ U₂.heap L₁ ∧ CHr Z [("java/lang/String", 7)] U₁.vm U₁.heap U₂.vm U₂.heap ∧ ReturnedEndW U₁ o₁ U₂ L₁ ({ frames := 6, cells := 5, slots := 13, locals := 91 } : Room).cells ({ frames := 6, cells := 5, slots := 13, locals := 91 } : Room).slots) := by
  refine MetFree.of_bodySF (plainFor_of_name pn_5) hisR ?_
  intro p e s m args below meth c s₁ Bd hml0 hP hK
  obtain ⟨rfl, hZ, hh, CH0⟩ := hP
  have hx := Bd.exec
  have hby := Bd.bytes
  have hml : c.maxLocals = 1 := hml0
  have hown : s.vm.findClass "com/example/strict_markup/strictmarkup/Attribute" = some m.cls := findClass_of_methodNamed Bd.named
  have hnm := (name_of_methodNamed Bd.named Bd.method).1
  have X0 : Stand p l e ({ frames := 6, cells := 5, slots := 13, locals := 91 } : Room) (s.setVm s.vm) m #[(.ref xa)] below meth c s₁ [] 0 0 := Stand.of_body Bd
  have e0 : s₁.heap = h0 := by rw [← hh, Bd.state]; rfl
  have N0 := Fr.nil n0
  have hZ0 : Z.Warmed39 (s.setVm s.vm).vm := hZ
  have hown0 : (s.setVm s.vm).vm.findClass "com/example/strict_markup/strictmarkup/Attribute" = some m.cls := hown
  have hS0 : s.Since s.vm h0.size := (State.WarmedH.refl s).since _
  have hk0 : h0.size ≤ h0.size := Nat.le_refl _
  have CR0 : CHr Z [("java/lang/String", 7)] s.vm h0 s.vm h0 := CHr.refl CH0
  have pre0 : ∀ t, Steps p.tables e below (s₁.setTop (mkF m 0 #[.val (.ref xa)] [])) t → Steps p.tables e below (s₁.setTop (entryFrame m #[(.ref xa)] 1)) t := fun t k => castTop (ef_12 m xa) k
  obtain ⟨T301, X301, e301, st301⟩ := getF X0 hx hZ0 hown0 (host := "") (Or.inl (hw _ (List.mem_of_getElem? (i := 87) rfl))) Via.refl e0 q14 (g := (mkF m 1 #[.val (.ref xa)] [(.ref xa)])) rfl rfl (hb hby d_prog_1_method_6_code_1)
  obtain ⟨T302, h302, X302, e302, E302, A302, D302, -, st302⟩ := newO X301 hx hZ0 hown0 (hw _ (List.mem_of_getElem? (i := 101) rfl)) (hw _ (List.mem_of_getElem? (i := 12) rfl)) (hw _ (List.mem_of_getElem? (i := 4) rfl)) e301 (g := (mkF m 8 #[.val (.ref xa)] [(.ref xa)])) rfl (hb hby d_prog_1_method_6_code_8) (by decide) (by decide)
  obtain ⟨b302, g302⟩ : ∃ z, z = h0.size := ⟨_, rfl⟩
  rw [← g302] at A302 D302 st302
  have sf303 : Safe Z [("java/lang/String", 7)] s.vm h0 b302 := Safe.new (Nat.le_of_eq g302.symm)
  have CR304 : CHr Z [("java/lang/String", 7)] s.vm h0 s.vm h302 := CR0.trans (CHr.ext E302 CR0.1)
  have sf305 : Safe Z [("java/lang/String", 7)] s.vm h302 b302 := Safe.ext E302 CR0.1 sf303
  have D302_value : Fld Z h302 b302 "java/lang/String" "value" "[B" .null := D302 (Or.inr (hw _ (List.mem_of_getElem? (i := 25) rfl))) (ty := (.array .byte)) (by decide)
  have D302_coder : Fld Z h302 b302 "java/lang/String" "coder" "B" (.int (0 : Int32)) := D302 (Or.inr (hw _ (List.mem_of_getElem? (i := 27) rfl))) (ty := .byte) (by decide)
  have c306 : Fld Z h302 xa "com/example/strict_markup/strictmarkup/Attribute" "text" "Lcom/example/strict_markup/strictmarkup/Text;" (.ref xt) := (q15.ext E302)
  obtain ⟨T307, X307, e307, st307⟩ := getF X302 hx hZ0 hown0 (host := "") (Or.inl (hw _ (List.mem_of_getElem? (i := 89) rfl))) Via.refl e302 c306 (g := (mkF m 13 #[.val (.ref xa)] [(.ref xa), (.ref b302), (.ref b302), (.ref xa)])) rfl rfl (hb hby d_prog_1_method_6_code_13)
  have c308 : Exa Z h302 xt "com/example/strict_markup/strictmarkup/Text" := (q18.ext E302)
  have c309 : Fld Z h302 xt "com/example/strict_markup/strictmarkup/Text" "chars" "[C" (.ref ca) := (q20.ext E302)
  obtain ⟨cq310, kq310, q310a, q310b, q310c⟩ := isOf hZ0 e307 c308
  obtain ⟨_, _, ⟨T310, L310, k310, n310⟩, -, X310, ⟨Lc310, hQ310, l310, y310, z310⟩, st310⟩ := X307.virtualBack hx (y := (⟨"com/example/strict_markup/strictmarkup/Text", "array", "()[C"⟩ : MethodName)) (z := (⟨"com/example/strict_markup/strictmarkup/Text", "array", "()[C"⟩ : MethodName)) hown0 (mvT hZ0 (hw _ (List.mem_of_getElem? (i := 102) rfl))) (mvT hZ0 (hw _ (List.mem_of_getElem? (i := 103) rfl))) (notFace_of_selects (args := #[]) (mvT hZ0 (hw _ (List.mem_of_getElem? (i := 105) rfl)))) (mvT hZ0 (hw _ (List.mem_of_getElem? (i := 105) rfl))) (mvT hZ0 (hw _ (List.mem_of_getElem? (i := 104) rfl))) (by decide) (backOf (W := 3) (rm_txR l Z a0 hw [] xt ca h302 n0 (Nat.le_trans Z0 E302.1) c309) hZ0 (hw _ (List.mem_of_getElem? (i := 106) rfl)) (hw _ (List.mem_of_getElem? (i := 48) rfl)) (by decide) (by decide)) q310a q310c (g := (mkF m 16 #[.val (.ref xa)] [(.ref xt), (.ref b302), (.ref b302), (.ref xa)])) rfl (by rw [hml]; rfl) (Steps.refl _) (argsL := []) (rest := [(.ref b302), (.ref b302), (.ref xa)]) (lenOf pd_15 rfl) rfl (by show 2 * 0 + _ ≤ _; exact Nat.le_of_eq rfl) (hb hby d_prog_1_method_6_code_16) (fun _ _ => ⟨rfl, e307, (by decide : 1 + 0 ≤ _), (by decide : 4 + 0 ≤ _)⟩)
  dsimp only [Pt.U, Pt.locs, Pt.cells, Pt.slots] at X310 l310 y310 z310 st310 hQ310
  replace l310 := l310.symm
  replace y310 := y310.symm
  replace z310 := z310.symm
  subst l310 y310 z310
  obtain ⟨rfl, Nq310, e310⟩ := hQ310
  have N310 := Fr.app N0 Nq310
  have c311 : Fld Z h302 xa "com/example/strict_markup/strictmarkup/Attribute" "start" "I" (.int (Int32.ofNat o)) := (q16.ext E302)
  obtain ⟨T312, X312, e312, st312⟩ := getF X310 hx hZ0 hown0 (host := "") (Or.inl (hw _ (List.mem_of_getElem? (i := 91) rfl))) Via.refl e310 c311 (g := (mkF m 20 #[.val (.ref xa)] [(.ref xa), (.ref ca), (.ref b302), (.ref b302), (.ref xa)])) rfl rfl (hb hby d_prog_1_method_6_code_20)
  have c313 : Fld Z h302 xa "com/example/strict_markup/strictmarkup/Attribute" "length" "I" (.int (Int32.ofNat n)) := (q17.ext E302)
  obtain ⟨T314, X314, e314, st314⟩ := getF X312 hx hZ0 hown0 (host := "") (Or.inl (hw _ (List.mem_of_getElem? (i := 93) rfl))) Via.refl e312 c313 (g := (mkF m 24 #[.val (.ref xa)] [(.ref xa), (.int (Int32.ofNat o)), (.ref ca), (.ref b302), (.ref b302), (.ref xa)])) rfl rfl (hb hby d_prog_1_method_6_code_24)
  have c315 : Old Z n0 h302 := (q7.ext E302)
  have c316 : Arv Z h302 ca kc .char (Int32.ofNat cs.length) (cs.map Value.int) dv := (q21.ext E302)
  have ge317 : n0 ≤ b302 := Nat.le_trans Z0 (Nat.le_trans (Nat.le_refl _) (Nat.le_of_eq g302.symm))
  obtain ⟨_, _, ⟨T318, L318, k318, n318⟩, -, X318', hS318', hz318', ⟨Lc318, hQ318, l318, y318, z318, ch318⟩, st318⟩ := X314.specialBackS hx (y := (⟨"java/lang/String", "<init>", "([CII)V"⟩ : MethodName)) rfl hown0 (mvT hZ0 (hw _ (List.mem_of_getElem? (i := 107) rfl))) (mvT hZ0 (hw _ (List.mem_of_getElem? (i := 108) rfl))) (mvT hZ0 (hw _ (List.mem_of_getElem? (i := 109) rfl))) (by decide) (backOfSH (W := 2) (rm_new3 l Z a0 hw [] b302 ca kc cs dv o n G fm h302 n0 (Nat.le_trans Z0 E302.1) q0 hCS q2 q3 q4 q5 hFM c315 c316 hN hon hcap hWs A302 D302_value D302_coder ge317) hZ0 (hw _ (List.mem_of_getElem? (i := 109) rfl)) (hw _ (List.mem_of_getElem? (i := 4) rfl)) (by decide) (by decide) (own_EW hw) CR304.1) (g := (mkF m 27 #[.val (.ref xa)] [(.int (Int32.ofNat n)), (.int (Int32.ofNat o)), (.ref ca), (.ref b302), (.ref b302), (.ref xa)])) rfl (by rw [hml]; rfl) (Steps.refl _) (a := b302) (argsL := [(.ref ca), (.int (Int32.ofNat o)), (.int (Int32.ofNat n))]) (rest := [(.ref b302), (.ref xa)]) (lenOf pd_16 rfl) rfl (by show 2 * 0 + _ ≤ _; exact Nat.le_of_eq rfl) (hb hby d_prog_1_method_6_code_27) (fun _ _ => ⟨rfl, e314, (by decide : 1 + 4 ≤ _), (by decide : 4 + 9 ≤ _)⟩)
  dsimp only [Pt.U, Pt.locs, Pt.cells, Pt.slots] at X318' l318 y318 z318 st318 hQ318 hS318' hz318' ch318
  replace l318 := l318.symm
  replace y318 := y318.symm
  replace z318 := z318.symm
  subst l318 y318 z318
  obtain ⟨tt_318, kt_318, cd_318, nn_318, vs_318, rfl, Nq318, K318, f318_0, f318_1, f318_2, f318_3⟩ := hQ318
  have N318 := Fr.app N310 Nq318
  obtain ⟨X318, hS318, hZ318, hown318⟩ := rebS hS0 (by rw [e314]; exact (Nat.le_trans hk0 E302.1)) X318' hS318' hz318' hZ0 hown0
  have CR319 : CHr Z [("java/lang/String", 7)] s.vm h0 T318.vm T318.heap := CR304.trans ch318
  have sf320 : Safe Z [("java/lang/String", 7)] T318.vm T318.heap b302 := ch318.safe A302.lt sf305
  have ne321 : xa ≠ b302 := Nat.ne_of_lt (Nat.lt_of_lt_of_le q8.lt (Nat.le_of_eq g302.symm))
  have c322 : Fld Z T318.heap xa "com/example/strict_markup/strictmarkup/Attribute" "value" "Ljava/lang/String;" .null := ((q14.ext E302).keep K318 (ninS ne321 nin0))
  have c323 : Exa Z T318.heap xa "com/example/strict_markup/strictmarkup/Attribute" := ((q8.ext E302).keep K318)
  have sf325 : Safe Z [("java/lang/String", 7)] T318.vm T318.heap xa := Safe.exa (EL := [("java/lang/String", 7)]) hZ318.alike c323 (by decide) (by decide)
  obtain ⟨T324, h324, X324, e324, W324, st324⟩ := putF X318 hx hZ318 hown318 (host := "") (Or.inl (hw _ (List.mem_of_getElem? (i := 87) rfl))) Via.refl rfl c322 c323 (Or.inl (hw _ (List.mem_of_getElem? (i := 88) rfl))) (hw _ (List.mem_of_getElem? (i := 63) rfl)) (ty := (.object "java/lang/String")) (by decide) rfl rfl (g := (mkF m 30 #[.val (.ref xa)] [(.ref b302), (.ref xa)])) rfl rfl (hb hby d_prog_1_method_6_code_30)
  have N324 := Fr.snoc X324 N318 q9
  have CR326 : CHr Z [("java/lang/String", 7)] s.vm h0 T318.vm h324 := CR319.trans (CHr.wr W324 sf325 CR319.1)
  have sf327 : Safe Z [("java/lang/String", 7)] T318.vm h324 b302 := Safe.wr W324 sf325 CR319.1 sf320
  have sf328 : Safe Z [("java/lang/String", 7)] T318.vm h324 xa := Safe.wr W324 sf325 CR319.1 sf325
  have F324 : Fld Z h324 xa "com/example/strict_markup/strictmarkup/Attribute" "value" "Ljava/lang/String;" (.ref b302) := c322.same W324
  obtain ⟨T329, X329, e329, st329⟩ := getF X324 hx hZ318 hown318 (host := "") (Or.inl (hw _ (List.mem_of_getElem? (i := 87) rfl))) Via.refl e324 F324 (g := (mkF m 34 #[.val (.ref xa)] [(.ref xa)])) rfl rfl (hb hby d_prog_1_method_6_code_34)
  have c330 : Fld Z h324 b302 "java/lang/String" "value" "[B" (.ref tt_318) := (f318_0.other W324 (Or.inl (Ne.symm ne321)))
  have ne331 : xa ≠ tt_318 := Exa.neArv c323 f318_2 (hw _ (List.mem_of_getElem? (i := 63) rfl))
  have c332 : Arv Z h324 tt_318 kt_318 .byte nn_318 vs_318 (.int 0) := (f318_2.other W324 (Ne.symm ne331))
  have c333 : Fld Z h324 b302 "java/lang/String" "coder" "B" (.int cd_318) := (f318_1.other W324 (Or.inl (Ne.symm ne321)))
  have c334 : Exa Z h324 b302 "java/lang/String" := ((A302.keep K318).wr W324)
  have c335 : Fld Z h324 xa "com/example/strict_markup/strictmarkup/Attribute" "name" "Ljava/lang/String;" (.ref sn) := (((q10.ext E302).keep K318 (ninS ne321 nin0)).other W324 (Or.inr (slot_ne (Or.inl (hw _ (List.mem_of_getElem? (i := 80) rfl))) (Or.inl (hw _ (List.mem_of_getElem? (i := 88) rfl))) (by decide) (t := (.object "java/lang/String")) (t' := (.object "java/lang/String")) (by decide) (by decide))))
  have c336 : Fld Z h324 xa "com/example/strict_markup/strictmarkup/Attribute" "type" "Ljava/lang/String;" (.ref sy) := (((q11.ext E302).keep K318 (ninS ne321 nin0)).other W324 (Or.inr (slot_ne (Or.inl (hw _ (List.mem_of_getElem? (i := 82) rfl))) (Or.inl (hw _ (List.mem_of_getElem? (i := 88) rfl))) (by decide) (t := (.object "java/lang/String")) (t' := (.object "java/lang/String")) (by decide) (by decide))))
  have c337 : Fld Z h324 xa "com/example/strict_markup/strictmarkup/Attribute" "declared" "Z" (.int xd) := (((q12.ext E302).keep K318 (ninS ne321 nin0)).other W324 (Or.inr (slot_ne (Or.inl (hw _ (List.mem_of_getElem? (i := 84) rfl))) (Or.inl (hw _ (List.mem_of_getElem? (i := 88) rfl))) (by decide) (t := .boolean) (t' := (.object "java/lang/String")) (by decide) (by decide))))
  have c338 : Fld Z h324 xa "com/example/strict_markup/strictmarkup/Attribute" "specified" "Z" (.int (1 : Int32)) := (((q13.ext E302).keep K318 (ninS ne321 nin0)).other W324 (Or.inr (slot_ne (Or.inl (hw _ (List.mem_of_getElem? (i := 86) rfl))) (Or.inl (hw _ (List.mem_of_getElem? (i := 88) rfl))) (by decide) (t := .boolean) (t' := (.object "java/lang/String")) (by decide) (by decide))))
  obtain ⟨fs, hr, hrun, hended, hEnd⟩ := X329.leaveW hS318 (by rw [e329]; exact (Nat.le_trans (Nat.le_refl _) (Keep.of_wr W324).1)) (v := some (.ref b302)) (fun h => by rw [Bd.returns] at h; cases h)
  refine ⟨_, _, pre0 _ ?_, hrun, hended, _, _, rfl, ?_, (by rw [hh]; show CHr Z [("java/lang/String", 7)] s.vm h0 T329.vm T329.heap; rw [e329]; exact CR326.trans (CHv.at X329 hZ318 (own_EW hw) CR326.1)), hEnd.1, hEnd.2.1, hEnd.2.2.1, hEnd.2.2.2.mono (by decide) (by decide)⟩
  · refine XS.aloadN X0.here hx rfl (hb hby d_prog_1_method_6_code_0) rfl rfl ?_
    show Steps p.tables e below (s₁.setTop (mkF m 1 #[.val (.ref xa)] [(.ref xa)])) _
    refine st301 _ ?_
    show Steps p.tables e below (T301.setTop (mkF m 4 #[.val (.ref xa)] [.null])) _
    refine XS.ifnonnullNo X301.here hx rfl (hb hby d_prog_1_method_6_code_4) rfl ?_
    show Steps p.tables e below (T301.setTop (mkF m 7 #[.val (.ref xa)] [])) _
    refine XS.aloadN X301.here hx rfl (hb hby d_prog_1_method_6_code_7) rfl rfl ?_
    show Steps p.tables e below (T301.setTop (mkF m 8 #[.val (.ref xa)] [(.ref xa)])) _
    refine st302 _ ?_
    show Steps p.tables e below (T302.setTop (mkF m 11 #[.val (.ref xa)] [(.ref b302), (.ref xa)])) _
    refine XS.dup X302.here hx rfl (hb hby d_prog_1_method_6_code_11) rfl rfl ?_
    show Steps p.tables e below (T302.setTop (mkF m 12 #[.val (.ref xa)] [(.ref b302), (.ref b302), (.ref xa)])) _
    refine XS.aloadN X302.here hx rfl (hb hby d_prog_1_method_6_code_12) rfl rfl ?_
    show Steps p.tables e below (T302.setTop (mkF m 13 #[.val (.ref xa)] [(.ref xa), (.ref b302), (.ref b302), (.ref xa)])) _
    refine st307 _ ?_
    show Steps p.tables e below (T307.setTop (mkF m 16 #[.val (.ref xa)] [(.ref xt), (.ref b302), (.ref b302), (.ref xa)])) _
    refine st310.trans ?_
    show Steps p.tables e below (T310.setTop (mkF m 19 #[.val (.ref xa)] [(.ref ca), (.ref b302), (.ref b302), (.ref xa)])) _
    refine XS.aloadN X310.here hx rfl (hb hby d_prog_1_method_6_code_19) rfl rfl ?_
    show Steps p.tables e below (T310.setTop (mkF m 20 #[.val (.ref xa)] [(.ref xa), (.ref ca), (.ref b302), (.ref b302), (.ref xa)])) _
    refine st312 _ ?_
    show Steps p.tables e below (T312.setTop (mkF m 23 #[.val (.ref xa)] [(.int (Int32.ofNat o)), (.ref ca), (.ref b302), (.ref b302), (.ref xa)])) _
    refine XS.aloadN X312.here hx rfl (hb hby d_prog_1_method_6_code_23) rfl rfl ?_
    show Steps p.tables e below (T312.setTop (mkF m 24 #[.val (.ref xa)] [(.ref xa), (.int (Int32.ofNat o)), (.ref ca), (.ref b302), (.ref b302), (.ref xa)])) _
    refine st314 _ ?_
    show Steps p.tables e below (T314.setTop (mkF m 27 #[.val (.ref xa)] [(.int (Int32.ofNat n)), (.int (Int32.ofNat o)), (.ref ca), (.ref b302), (.ref b302), (.ref xa)])) _
    refine st318.trans ?_
    show Steps p.tables e below (T318.setTop (mkF m 30 #[.val (.ref xa)] [(.ref b302), (.ref xa)])) _
    refine st324 _ ?_
    show Steps p.tables e below (T324.setTop (mkF m 33 #[.val (.ref xa)] [])) _
    refine XS.aloadN X324.here hx rfl (hb hby d_prog_1_method_6_code_33) rfl rfl ?_
    show Steps p.tables e below (T324.setTop (mkF m 34 #[.val (.ref xa)] [(.ref xa)])) _
    refine st329 _ ?_
    show Steps p.tables e below (T329.setTop (mkF m 37 #[.val (.ref xa)] [(.ref b302)])) _
    jvm_step X329.here [X329.here.top, hx, (hb hby d_prog_1_method_6_code_37), X329.method', Bd.returns, Value.isRef, FieldType.isReference]
    first | (intro acts; rw [hr _ acts rfl rfl rfl]) | rw [hr _ _ rfl rfl rfl]
    exact Steps.refl _
  · show Q_aval Z xa sn sy xd xt ca kc cs dv o n G fm h0 n0 _ T329.heap _
    rw [e329]
    exact ⟨b302, tt_318, kt_318, cd_318, nn_318, vs_318, rfl, N324, ((((Keep.refl h0 ([xa] : List Addr)).ext E302).trans K318 (allS (Or.inr (Nat.le_trans (Nat.le_refl _) (Nat.le_of_eq g302.symm))) all0)).wr W324 (Or.inl (by simp))), (Nat.le_trans (Nat.le_refl _) (Nat.le_of_eq g302.symm)), c334, c330, c333, c332, f318_3, c335, c336, c337, c338⟩
theorem d_prog_1_method_5_code_0 : decode prog_1_method_5_code 0 = .ok (.aload_n 0, 1) := by decide +kernel
theorem d_prog_1_method_5_code_1 : decode prog_1_method_5_code 1 = .ok (.getfield 10, 3) := by decide +kernel
theorem d_prog_1_method_5_code_4 : decode prog_1_method_5_code 4 = .ok (.areturn, 1) := by decide +kernel
def Q_gN (Z : State) (xa : Addr) (sn : Addr) (h0 : Heap) (n0 : Nat) (v : Option Value) (h : Heap) (L : List Loc) : Prop := (v = some (.ref sn)) ∧ (Fr n0 L) ∧ (h = h0)
set_option maxRecDepth 65536 in
set_option maxHeartbeats 40000000 in
theorem rm_gN (l : Launch) (Z : State) (a0 : Array Value) (hw : ∀ d ∈ tables_1, d.before a0 Z = true) (ws : List Jvm.Cond) (xa : Addr) (sn : Addr) (h0 : Heap) (n0 : Nat) (Z0 : n0 ≤ h0.size) (q0 : Fld Z h0 xa "com/example/strict_markup/strictmarkup/Attribute" "name" "Ljava/lang/String;" (.ref sn)) :
    MetFree l (⟨"com/example/strict_markup/strictmarkup/Attribute", "name", "()Ljava/lang/String;"⟩ : MethodName) (head1 (Jvm.Cond.code (⟨"com/example/strict_markup/strictmarkup/Attribute", "name", "()Ljava/lang/String;"⟩ : MethodName) prog_1_method_5_code 1 (some (.object "java/lang/String")) :: ws) ({ frames := 0, cells := 0, slots := 0, locals := 0 } : Room)) (fun a₁ U₁ => a₁ = #[(.ref xa)] ∧ Z.Warmed39 U₁.vm ∧ U₁.heap = h0) (fun _ _ _ _ _ => True) (fun _ U₁ o₁ U₂ => ∃ v₁ L₁, o₁ = .returned v₁ ∧ Q_gN Z xa sn h0 n0 v₁ U₂.heap L₁ ∧ FrameEnd U₁ o₁ U₂ L₁ ({ frames := 0, cells := 0, slots := 0, locals := 0 } : Room).cells ({ frames := 0, cells := 0, slots := 0, locals := 0 } : Room).slots) := by
  refine MetFree.of_bodySF (plainFor_of_name pn_5) hisR ?_
  intro p e s m args below meth c s₁ Bd hml0 hP hK
  obtain ⟨rfl, hZ, hh⟩ := hP
  have hx := Bd.exec
  have hby := Bd.bytes
  have hml : c.maxLocals = 1 := hml0
  have hown : s.vm.findClass "com/example/strict_markup/strictmarkup/Attribute" = some m.cls := findClass_of_methodNamed Bd.named
  have hnm := (name_of_methodNamed Bd.named Bd.method).1
  have X0 : Stand p l e ({ frames := 0, cells := 0, slots := 0, locals := 0 } : Room) s m #[(.ref xa)] below meth c s₁ [] 0 0 := Stand.of_body Bd
  have e0 : s₁.heap = h0 := by rw [← hh, Bd.state]; rfl
  have N0 := Fr.nil n0
  have pre0 : ∀ t, Steps p.tables e below (s₁.setTop (mkF m 0 #[.val (.ref xa)] [])) t → Steps p.tables e below (s₁.setTop (entryFrame m #[(.ref xa)] 1)) t := fun t k => castTop (ef_12 m xa) k
  obtain ⟨T301, X301, e301, st301⟩ := getF X0 hx hZ hown (host := "") (Or.inl (hw _ (List.mem_of_getElem? (i := 79) rfl))) Via.refl e0 q0 (g := (mkF m 1 #[.val (.ref xa)] [(.ref xa)])) rfl rfl (hb hby d_prog_1_method_5_code_1)
  obtain ⟨fs, hr, hrun, hended, hW, hsame⟩ := X301.leave (v := some (.ref sn)) (fun h => by rw [Bd.returns] at h; cases h)
  refine ⟨_, _, pre0 _ ?_, hrun, hended, _, _, rfl, ?_, ⟨_, rfl⟩, hW, hsame.mono (by decide) (by decide)⟩
  · refine XS.aloadN X0.here hx rfl (hb hby d_prog_1_method_5_code_0) rfl rfl ?_
    show Steps p.tables e below (s₁.setTop (mkF m 1 #[.val (.ref xa)] [(.ref xa)])) _
    refine st301 _ ?_
    show Steps p.tables e below (T301.setTop (mkF m 4 #[.val (.ref xa)] [(.ref sn)])) _
    jvm_step X301.here [X301.here.top, hx, (hb hby d_prog_1_method_5_code_4), X301.method', Bd.returns, Value.isRef, FieldType.isReference]
    first | (intro acts; rw [hr _ acts rfl rfl rfl]) | rw [hr _ _ rfl rfl rfl]
    exact Steps.refl _
  · show Q_gN Z xa sn h0 n0 _ T301.heap _
    rw [e301]
    exact ⟨rfl, N0, rfl⟩
theorem d_prog_1_method_7_code_0 : decode prog_1_method_7_code 0 = .ok (.aload_n 0, 1) := by decide +kernel
theorem d_prog_1_method_7_code_1 : decode prog_1_method_7_code 1 = .ok (.getfield 14, 3) := by decide +kernel
theorem d_prog_1_method_7_code_4 : decode prog_1_method_7_code 4 = .ok (.areturn, 1) := by decide +kernel
def Q_gT (Z : State) (xa : Addr) (sn : Addr) (h0 : Heap) (n0 : Nat) (v : Option Value) (h : Heap) (L : List Loc) : Prop := (v = some (.ref sn)) ∧ (Fr n0 L) ∧ (h = h0)
set_option maxRecDepth 65536 in
set_option maxHeartbeats 40000000 in
theorem rm_gT (l : Launch) (Z : State) (a0 : Array Value) (hw : ∀ d ∈ tables_1, d.before a0 Z = true) (ws : List Jvm.Cond) (xa : Addr) (sn : Addr) (h0 : Heap) (n0 : Nat) (Z0 : n0 ≤ h0.size) (q0 : Fld Z h0 xa "com/example/strict_markup/strictmarkup/Attribute" "type" "Ljava/lang/String;" (.ref sn)) :
    MetFree l (⟨"com/example/strict_markup/strictmarkup/Attribute", "type", "()Ljava/lang/String;"⟩ : MethodName) (head1 (Jvm.Cond.code (⟨"com/example/strict_markup/strictmarkup/Attribute", "type", "()Ljava/lang/String;"⟩ : MethodName) prog_1_method_7_code 1 (some (.object "java/lang/String")) :: ws) ({ frames := 0, cells := 0, slots := 0, locals := 0 } : Room)) (fun a₁ U₁ => a₁ = #[(.ref xa)] ∧ Z.Warmed39 U₁.vm ∧ U₁.heap = h0) (fun _ _ _ _ _ => True) (fun _ U₁ o₁ U₂ => ∃ v₁ L₁, o₁ = .returned v₁ ∧ Q_gT Z xa sn h0 n0 v₁ U₂.heap L₁ ∧ FrameEnd U₁ o₁ U₂ L₁ ({ frames := 0, cells := 0, slots := 0, locals := 0 } : Room).cells ({ frames := 0, cells := 0, slots := 0, locals := 0 } : Room).slots) := by
  refine MetFree.of_bodySF (plainFor_of_name pn_5) hisR ?_
  intro p e s m args below meth c s₁ Bd hml0 hP hK
  obtain ⟨rfl, hZ, hh⟩ := hP
  have hx := Bd.exec
  have hby := Bd.bytes
  have hml : c.maxLocals = 1 := hml0
  have hown : s.vm.findClass "com/example/strict_markup/strictmarkup/Attribute" = some m.cls := findClass_of_methodNamed Bd.named
  have hnm := (name_of_methodNamed Bd.named Bd.method).1
  have X0 : Stand p l e ({ frames := 0, cells := 0, slots := 0, locals := 0 } : Room) s m #[(.ref xa)] below meth c s₁ [] 0 0 := Stand.of_body Bd
  have e0 : s₁.heap = h0 := by rw [← hh, Bd.state]; rfl
  have N0 := Fr.nil n0
  have pre0 : ∀ t, Steps p.tables e below (s₁.setTop (mkF m 0 #[.val (.ref xa)] [])) t → Steps p.tables e below (s₁.setTop (entryFrame m #[(.ref xa)] 1)) t := fun t k => castTop (ef_12 m xa) k
  obtain ⟨T301, X301, e301, st301⟩ := getF X0 hx hZ hown (host := "") (Or.inl (hw _ (List.mem_of_getElem? (i := 81) rfl))) Via.refl e0 q0 (g := (mkF m 1 #[.val (.ref xa)] [(.ref xa)])) rfl rfl (hb hby d_prog_1_method_7_code_1)
  obtain ⟨fs, hr, hrun, hended, hW, hsame⟩ := X301.leave (v := some (.ref sn)) (fun h => by rw [Bd.returns] at h; cases h)
  refine ⟨_, _, pre0 _ ?_, hrun, hended, _, _, rfl, ?_, ⟨_, rfl⟩, hW, hsame.mono (by decide) (by decide)⟩
  · refine XS.aloadN X0.here hx rfl (hb hby d_prog_1_method_7_code_0) rfl rfl ?_
    show Steps p.tables e below (s₁.setTop (mkF m 1 #[.val (.ref xa)] [(.ref xa)])) _
    refine st301 _ ?_
    show Steps p.tables e below (T301.setTop (mkF m 4 #[.val (.ref xa)] [(.ref sn)])) _
    jvm_step X301.here [X301.here.top, hx, (hb hby d_prog_1_method_7_code_4), X301.method', Bd.returns, Value.isRef, FieldType.isReference]
    first | (intro acts; rw [hr _ acts rfl rfl rfl]) | rw [hr _ _ rfl rfl rfl]
    exact Steps.refl _
  · show Q_gT Z xa sn h0 n0 _ T301.heap _
    rw [e301]
    exact ⟨rfl, N0, rfl⟩
theorem d_prog_1_method_12_code_0 : decode prog_1_method_12_code 0 = .ok (.aload_n 0, 1) := by decide +kernel
theorem d_prog_1_method_12_code_1 : decode prog_1_method_12_code 1 = .ok (.getfield 17, 3) := by decide +kernel
theorem d_prog_1_method_12_code_4 : decode prog_1_method_12_code 4 = .ok (.ireturn, 1) := by decide +kernel
def Q_gD (Z : State) (xa : Addr) (xd : Int32) (h0 : Heap) (n0 : Nat) (v : Option Value) (h : Heap) (L : List Loc) : Prop := (v = some (.int xd)) ∧ (Fr n0 L) ∧ (h = h0)
set_option maxRecDepth 65536 in
set_option maxHeartbeats 40000000 in
theorem rm_gD (l : Launch) (Z : State) (a0 : Array Value) (hw : ∀ d ∈ tables_1, d.before a0 Z = true) (ws : List Jvm.Cond) (xa : Addr) (xd : Int32) (h0 : Heap) (n0 : Nat) (Z0 : n0 ≤ h0.size) (q0 : Fld Z h0 xa "com/example/strict_markup/strictmarkup/Attribute" "declared" "Z" (.int xd)) (hxd : nar .boolean xd = xd) :
    MetFree l (⟨"com/example/strict_markup/strictmarkup/Attribute", "declared", "()Z"⟩ : MethodName) (head1 (Jvm.Cond.code (⟨"com/example/strict_markup/strictmarkup/Attribute", "declared", "()Z"⟩ : MethodName) prog_1_method_12_code 1 (some .boolean) :: ws) ({ frames := 0, cells := 0, slots := 0, locals := 0 } : Room)) (fun a₁ U₁ => a₁ = #[(.ref xa)] ∧ Z.Warmed39 U₁.vm ∧ U₁.heap = h0) (fun _ _ _ _ _ => True) (fun _ U₁ o₁ U₂ => ∃ v₁ L₁, o₁ = .returned v₁ ∧ Q_gD Z xa xd h0 n0 v₁ U₂.heap L₁ ∧ FrameEnd U₁ o₁ U₂ L₁ ({ frames := 0, cells := 0, slots := 0, locals := 0 } : Room).cells ({ frames := 0, cells := 0, slots := 0, locals := 0 } : Room).slots) := by
  refine MetFree.of_bodySF (plainFor_of_name pn_5) hisR ?_
  intro p e s m args below meth c s₁ Bd hml0 hP hK
  obtain ⟨rfl, hZ, hh⟩ := hP
  have hx := Bd.exec
  have hby := Bd.bytes
  have hml : c.maxLocals = 1 := hml0
  have hown : s.vm.findClass "com/example/strict_markup/strictmarkup/Attribute" = some m.cls := findClass_of_methodNamed Bd.named
  have hnm := (name_of_methodNamed Bd.named Bd.method).1
  have X0 : Stand p l e ({ frames := 0, cells := 0, slots := 0, locals := 0 } : Room) s m #[(.ref xa)] below meth c s₁ [] 0 0 := Stand.of_body Bd
  have e0 : s₁.heap = h0 := by rw [← hh, Bd.state]; rfl
  have N0 := Fr.nil n0
  have pre0 : ∀ t, Steps p.tables e below (s₁.setTop (mkF m 0 #[.val (.ref xa)] [])) t → Steps p.tables e below (s₁.setTop (entryFrame m #[(.ref xa)] 1)) t := fun t k => castTop (ef_12 m xa) k
  obtain ⟨T301, X301, e301, st301⟩ := getF X0 hx hZ hown (host := "") (Or.inl (hw _ (List.mem_of_getElem? (i := 83) rfl))) Via.refl e0 q0 (g := (mkF m 1 #[.val (.ref xa)] [(.ref xa)])) rfl rfl (hb hby d_prog_1_method_12_code_1)
  obtain ⟨fs, hr, hrun, hended, hW, hsame⟩ := X301.leave (v := some (.int xd)) (fun h => by rw [Bd.returns] at h; cases h)
  refine ⟨_, _, pre0 _ ?_, hrun, hended, _, _, rfl, ?_, ⟨_, rfl⟩, hW, hsame.mono (by decide) (by decide)⟩
  · refine XS.aloadN X0.here hx rfl (hb hby d_prog_1_method_12_code_0) rfl rfl ?_
    show Steps p.tables e below (s₁.setTop (mkF m 1 #[.val (.ref xa)] [(.ref xa)])) _
    refine st301 _ ?_
    show Steps p.tables e below (T301.setTop (mkF m 4 #[.val (.ref xa)] [(.int xd)])) _
    exact retN X301 hx (t := .boolean) Bd.returns (by simp) (hb hby d_prog_1_method_12_code_4) (by rw [hxd]; exact hr)
  · show Q_gD Z xa xd h0 n0 _ T301.heap _
    rw [e301]
    exact ⟨rfl, N0, rfl⟩
theorem d_prog_1_method_13_code_0 : decode prog_1_method_13_code 0 = .ok (.aload_n 0, 1) := by decide +kernel
theorem d_prog_1_method_13_code_1 : decode prog_1_method_13_code 1 = .ok (.getfield 24, 3) := by decide +kernel
theorem d_prog_1_method_13_code_4 : decode prog_1_method_13_code 4 = .ok (.ireturn, 1) := by decide +kernel
def Q_gS (Z : State) (xa : Addr) (h0 : Heap) (n0 : Nat) (v : Option Value) (h : Heap) (L : List Loc) : Prop := (v = some (.int (1 : Int32))) ∧ (Fr n0 L) ∧ (h = h0)
set_option maxRecDepth 65536 in
set_option maxHeartbeats 40000000 in
theorem rm_gS (l : Launch) (Z : State) (a0 : Array Value) (hw : ∀ d ∈ tables_1, d.before a0 Z = true) (ws : List Jvm.Cond) (xa : Addr) (h0 : Heap) (n0 : Nat) (Z0 : n0 ≤ h0.size) (q0 : Fld Z h0 xa "com/example/strict_markup/strictmarkup/Attribute" "specified" "Z" (.int (1 : Int32))) :
    MetFree l (⟨"com/example/strict_markup/strictmarkup/Attribute", "specified", "()Z"⟩ : MethodName) (head1 (Jvm.Cond.code (⟨"com/example/strict_markup/strictmarkup/Attribute", "specified", "()Z"⟩ : MethodName) prog_1_method_13_code 1 (some .boolean) :: ws) ({ frames := 0, cells := 0, slots := 0, locals := 0 } : Room)) (fun a₁ U₁ => a₁ = #[(.ref xa)] ∧ Z.Warmed39 U₁.vm ∧ U₁.heap = h0) (fun _ _ _ _ _ => True) (fun _ U₁ o₁ U₂ => ∃ v₁ L₁, o₁ = .returned v₁ ∧ Q_gS Z xa h0 n0 v₁ U₂.heap L₁ ∧ FrameEnd U₁ o₁ U₂ L₁ ({ frames := 0, cells := 0, slots := 0, locals := 0 } : Room).cells ({ frames := 0, cells := 0, slots := 0, locals := 0 } : Room).slots) := by
  refine MetFree.of_bodySF (plainFor_of_name pn_5) hisR ?_
  intro p e s m args below meth c s₁ Bd hml0 hP hK
  obtain ⟨rfl, hZ, hh⟩ := hP
  have hx := Bd.exec
  have hby := Bd.bytes
  have hml : c.maxLocals = 1 := hml0
  have hown : s.vm.findClass "com/example/strict_markup/strictmarkup/Attribute" = some m.cls := findClass_of_methodNamed Bd.named
  have hnm := (name_of_methodNamed Bd.named Bd.method).1
  have X0 : Stand p l e ({ frames := 0, cells := 0, slots := 0, locals := 0 } : Room) s m #[(.ref xa)] below meth c s₁ [] 0 0 := Stand.of_body Bd
  have e0 : s₁.heap = h0 := by rw [← hh, Bd.state]; rfl
  have N0 := Fr.nil n0
  have pre0 : ∀ t, Steps p.tables e below (s₁.setTop (mkF m 0 #[.val (.ref xa)] [])) t → Steps p.tables e below (s₁.setTop (entryFrame m #[(.ref xa)] 1)) t := fun t k => castTop (ef_12 m xa) k
  obtain ⟨T301, X301, e301, st301⟩ := getF X0 hx hZ hown (host := "") (Or.inl (hw _ (List.mem_of_getElem? (i := 85) rfl))) Via.refl e0 q0 (g := (mkF m 1 #[.val (.ref xa)] [(.ref xa)])) rfl rfl (hb hby d_prog_1_method_13_code_1)
  obtain ⟨fs, hr, hrun, hended, hW, hsame⟩ := X301.leave (v := some (.int (1 : Int32))) (fun h => by rw [Bd.returns] at h; cases h)
  refine ⟨_, _, pre0 _ ?_, hrun, hended, _, _, rfl, ?_, ⟨_, rfl⟩, hW, hsame.mono (by decide) (by decide)⟩
  · refine XS.aloadN X0.here hx rfl (hb hby d_prog_1_method_13_code_0) rfl rfl ?_
    show Steps p.tables e below (s₁.setTop (mkF m 1 #[.val (.ref xa)] [(.ref xa)])) _
    refine st301 _ ?_
    show Steps p.tables e below (T301.setTop (mkF m 4 #[.val (.ref xa)] [(.int (1 : Int32))])) _
    exact retN X301 hx (t := .boolean) Bd.returns (by simp) (hb hby d_prog_1_method_13_code_4) hr
  · show Q_gS Z xa h0 n0 _ T301.heap _
    rw [e301]
    exact ⟨rfl, N0, rfl⟩
theorem d_jdk_42_method_66_code_0 : decode jdk_42_method_66_code 0 = .ok (.aload_n 0, 1) := by decide +kernel
theorem d_jdk_42_method_66_code_1 : decode jdk_42_method_66_code 1 = .ok (.aload_n 1, 1) := by decide +kernel
theorem d_jdk_42_method_66_code_2 : decode jdk_42_method_66_code 2 = .ok (.if_acmp .ne 5, 3) := by decide +kernel
theorem d_jdk_42_method_66_code_5 : decode jdk_42_method_66_code 5 = .ok (.iconst 1, 1) := by decide +kernel
theorem d_jdk_42_method_66_code_6 : decode jdk_42_method_66_code 6 = .ok (.ireturn, 1) := by decide +kernel
theorem ef_16 (m : MethodId) (x0 : Addr) (x1 : Addr) : entryFrame m #[(.ref x0), (.ref x1)] 3 = mkF m 0 #[.val (.ref x0), .val (.ref x1), .unset] [] := by first | (simp [entryFrame, mkF, argsToLocals, Value.category]; done) | rfl
def Q_eqS (Z : State) (xs : Addr) (h0 : Heap) (n0 : Nat) (v : Option Value) (h : Heap) (L : List Loc) : Prop := (v = some (.int (1 : Int32))) ∧ (Fr n0 L) ∧ (h = h0)
set_option maxRecDepth 65536 in
set_option maxHeartbeats 40000000 in
theorem rm_eqS (l : Launch) (Z : State) (a0 : Array Value) (hw : ∀ d ∈ tables_1, d.before a0 Z = true) (ws : List Jvm.Cond) (xs : Addr) (h0 : Heap) (n0 : Nat) (Z0 : n0 ≤ h0.size) :
    MetFree l (⟨"java/lang/String", "equals", "(Ljava/lang/Object;)Z"⟩ : MethodName) (head1 (Jvm.Cond.code (⟨"java/lang/String", "equals", "(Ljava/lang/Object;)Z"⟩ : MethodName) jdk_42_method_66_code 3 (some .boolean) :: ws) ({ frames := 0, cells := 0, slots := 0, locals := 0 } : Room)) (fun a₁ U₁ => a₁ = #[(.ref xs), (.ref xs)] ∧ Z.Warmed39 U₁.vm ∧ U₁.heap = h0) (fun _ _ _ _ _ => True) (fun _ U₁ o₁ U₂ => ∃ v₁ L₁, o₁ = .returned v₁ ∧ Q_eqS Z xs h0 n0 v₁ U₂.heap L₁ ∧ FrameEnd U₁ o₁ U₂ L₁ ({ frames := 0, cells := 0, slots := 0, locals := 0 } : Room).cells ({ frames := 0, cells := 0, slots := 0, locals := 0 } : Room).slots) := by
  refine MetFree.of_bodySF (plainFor_of_name pn_1) hisR ?_
  intro p e s m args below meth c s₁ Bd hml0 hP hK
  obtain ⟨rfl, hZ, hh⟩ := hP
  have hx := Bd.exec
  have hby := Bd.bytes
  have hml : c.maxLocals = 3 := hml0
  have hown : s.vm.findClass "java/lang/String" = some m.cls := findClass_of_methodNamed Bd.named
  have hnm := (name_of_methodNamed Bd.named Bd.method).1
  have X0 : Stand p l e ({ frames := 0, cells := 0, slots := 0, locals := 0 } : Room) s m #[(.ref xs), (.ref xs)] below meth c s₁ [] 0 0 := Stand.of_body Bd
  have e0 : s₁.heap = h0 := by rw [← hh, Bd.state]; rfl
  have N0 := Fr.nil n0
  have pre0 : ∀ t, Steps p.tables e below (s₁.setTop (mkF m 0 #[.val (.ref xs), .val (.ref xs), .unset] [])) t → Steps p.tables e below (s₁.setTop (entryFrame m #[(.ref xs), (.ref xs)] 3)) t := fun t k => castTop (ef_16 m xs xs) k
  obtain ⟨fs, hr, hrun, hended, hW, hsame⟩ := X0.leave (v := some (.int (1 : Int32))) (fun h => by rw [Bd.returns] at h; cases h)
  refine ⟨_, _, pre0 _ ?_, hrun, hended, _, _, rfl, ?_, ⟨_, rfl⟩, hW, hsame.mono (by decide) (by decide)⟩
  · refine XS.aloadN X0.here hx rfl (hb hby d_jdk_42_method_66_code_0) rfl rfl ?_
    show Steps p.tables e below (s₁.setTop (mkF m 1 #[.val (.ref xs), .val (.ref xs), .unset] [(.ref xs)])) _
    refine XS.aloadN X0.here hx rfl (hb hby d_jdk_42_method_66_code_1) rfl rfl ?_
    show Steps p.tables e below (s₁.setTop (mkF m 2 #[.val (.ref xs), .val (.ref xs), .unset] [(.ref xs), (.ref xs)])) _
    refine Jvm.RoadKit.acmp (g := (mkF m 2 #[.val (.ref xs), .val (.ref xs), .unset] [(.ref xs), (.ref xs)])) X0 hx rfl rfl rfl (pc0 := 2) (pc' := 5) (same := true) rfl (hb hby d_jdk_42_method_66_code_2) rfl (decide_eq_true rfl) (by decide) (by decide) ?_
    show Steps p.tables e below (s₁.setTop (mkF m 5 #[.val (.ref xs), .val (.ref xs), .unset] [])) _
    refine XS.iconst X0.here hx rfl (hb hby d_jdk_42_method_66_code_5) ?_
    show Steps p.tables e below (s₁.setTop (mkF m 6 #[.val (.ref xs), .val (.ref xs), .unset] [(.int (1 : Int32))])) _
    exact retN X0 hx (t := .boolean) Bd.returns (by simp) (hb hby d_jdk_42_method_66_code_6) hr
  · show Q_eqS Z xs h0 n0 _ s₁.heap _
    rw [e0]
    exact ⟨rfl, N0, rfl⟩
theorem d_jdk_52_method_6_code_0 : decode jdk_52_method_6_code 0 = .ok (.aload_n 0, 1) := by decide +kernel
theorem d_jdk_52_method_6_code_1 : decode jdk_52_method_6_code 1 = .ok (.arraylength, 1) := by decide +kernel
theorem d_jdk_52_method_6_code_2 : decode jdk_52_method_6_code 2 = .ok (.iconst 1, 1) := by decide +kernel
theorem d_jdk_52_method_6_code_3 : decode jdk_52_method_6_code 3 = .ok (.ishr, 1) := by decide +kernel
theorem d_jdk_52_method_6_code_4 : decode jdk_52_method_6_code 4 = .ok (.ireturn, 1) := by decide +kernel
def Q_ulen (Z : State) (dd : Addr) (kd : ClassId) (n : Nat) (vs : List Value) (h0 : Heap) (n0 : Nat) (v : Option Value) (h : Heap) (L : List Loc) : Prop := (v = some (.int (Int32.ofNat n))) ∧ (Fr n0 L) ∧ (h = h0)
set_option maxRecDepth 65536 in
set_option maxHeartbeats 40000000 in
theorem rm_ulen (l : Launch) (Z : State) (a0 : Array Value) (hw : ∀ d ∈ tables_1, d.before a0 Z = true) (ws : List Jvm.Cond) (dd : Addr) (kd : ClassId) (n : Nat) (vs : List Value) (h0 : Heap) (n0 : Nat) (Z0 : n0 ≤ h0.size) (q0 : Arv Z h0 dd kd .byte (Int32.ofNat (2 * n)) vs (.int (0 : Int32))) (hcap : n ≤ 4000) :
    MetFree l (⟨"java/lang/StringUTF16", "length", "([B)I"⟩ : MethodName) (head1 (Jvm.Cond.code (⟨"java/lang/StringUTF16", "length", "([B)I"⟩ : MethodName) jdk_52_method_6_code 1 (some .int) :: ws) ({ frames := 0, cells := 0, slots := 0, locals := 0 } : Room)) (fun a₁ U₁ => a₁ = #[(.ref dd)] ∧ Z.Warmed39 U₁.vm ∧ U₁.heap = h0) (fun _ _ _ _ _ => True) (fun _ U₁ o₁ U₂ => ∃ v₁ L₁, o₁ = .returned v₁ ∧ Q_ulen Z dd kd n vs h0 n0 v₁ U₂.heap L₁ ∧ FrameEnd U₁ o₁ U₂ L₁ ({ frames := 0, cells := 0, slots := 0, locals := 0 } : Room).cells ({ frames := 0, cells := 0, slots := 0, locals := 0 } : Room).slots) := by
  refine MetFree.of_bodySF (plainFor_of_name pn_0) hisR ?_
  intro p e s m args below meth c s₁ Bd hml0 hP hK
  obtain ⟨rfl, hZ, hh⟩ := hP
  have hx := Bd.exec
  have hby := Bd.bytes
  have hml : c.maxLocals = 1 := hml0
  have hown : s.vm.findClass "java/lang/StringUTF16" = some m.cls := findClass_of_methodNamed Bd.named
  have hnm := (name_of_methodNamed Bd.named Bd.method).1
  have X0 : Stand p l e ({ frames := 0, cells := 0, slots := 0, locals := 0 } : Room) s m #[(.ref dd)] below meth c s₁ [] 0 0 := Stand.of_body Bd
  have e0 : s₁.heap = h0 := by rw [← hh, Bd.state]; rfl
  have N0 := Fr.nil n0
  have pre0 : ∀ t, Steps p.tables e below (s₁.setTop (mkF m 0 #[.val (.ref dd)] [])) t → Steps p.tables e below (s₁.setTop (entryFrame m #[(.ref dd)] 1)) t := fun t k => castTop (ef_12 m dd) k
  obtain ⟨cl301, Ar301, -, S301, M301, -, -⟩ := id q0
  obtain ⟨fs, hr, hrun, hended, hW, hsame⟩ := X0.leave (v := some (.int (Int32.ofNat n))) (fun h => by rw [Bd.returns] at h; cases h)
  refine ⟨_, _, pre0 _ ?_, hrun, hended, _, _, rfl, ?_, ⟨_, rfl⟩, hW, hsame.mono (by decide) (by decide)⟩
  · refine XS.aloadN X0.here hx rfl (hb hby d_jdk_52_method_6_code_0) rfl rfl ?_
    show Steps p.tables e below (s₁.setTop (mkF m 1 #[.val (.ref dd)] [(.ref dd)])) _
    refine X0.arraylength hx (by rw [e0]; exact Ar301.1) (State.isArrayOf_alike hZ.alike Ar301.2.1) (g := (mkF m 1 #[.val (.ref dd)] [(.ref dd)])) rfl rfl (hb hby d_jdk_52_method_6_code_1) _ ?_
    rw [len_of S301 M301]
    show Steps p.tables e below (s₁.setTop (mkF m 2 #[.val (.ref dd)] [(.int (Int32.ofNat (2 * n)))])) _
    refine XS.iconst X0.here hx rfl (hb hby d_jdk_52_method_6_code_2) ?_
    show Steps p.tables e below (s₁.setTop (mkF m 3 #[.val (.ref dd)] [(.int (1 : Int32)), (.int (Int32.ofNat (2 * n)))])) _
    refine XS.ishr X0.here hx rfl (hb hby d_jdk_52_method_6_code_3) rfl ?_
    show Steps p.tables e below (s₁.setTop (mkF m 4 #[.val (.ref dd)] [(.int ((Int32.ofNat (2 * n)) >>> ((1 : Int32) &&& 31)))])) _
    rw [own_shr1 (n := n) (by omega)]
    show Steps p.tables e below (s₁.setTop (mkF m 4 #[.val (.ref dd)] [(.int (Int32.ofNat n))])) _
    exact retI X0 hx Bd.returns (hb hby d_jdk_52_method_6_code_4) hr
  · show Q_ulen Z dd kd n vs h0 n0 _ s₁.heap _
    rw [e0]
    exact ⟨rfl, N0, rfl⟩
theorem d_jdk_41_method_11_code_0 : decode jdk_41_method_11_code 0 = .ok (.iload_n 0, 1) := by decide +kernel
theorem d_jdk_41_method_11_code_1 : decode jdk_41_method_11_code 1 = .ok (.ifCond .lt 8, 3) := by decide +kernel
theorem d_jdk_41_method_11_code_4 : decode jdk_41_method_11_code 4 = .ok (.iload_n 0, 1) := by decide +kernel
theorem d_jdk_41_method_11_code_5 : decode jdk_41_method_11_code 5 = .ok (.iload_n 1, 1) := by decide +kernel
theorem d_jdk_41_method_11_code_6 : decode jdk_41_method_11_code 6 = .ok (.if_icmp .lt 10, 3) := by decide +kernel
theorem d_jdk_41_method_11_code_16 : decode jdk_41_method_11_code 16 = .ok (.iload_n 0, 1) := by decide +kernel
theorem d_jdk_41_method_11_code_17 : decode jdk_41_method_11_code 17 = .ok (.ireturn, 1) := by decide +kernel
theorem ef_17 (m : MethodId) (x0 : Int32) (x1 : Int32) (x2 : Value) (r2 : x2.isRef = true) : entryFrame m #[(.int x0), (.int x1), x2] 3 = mkF m 0 #[.val (.int x0), .val (.int x1), .val x2] [] := by cases x2 <;> first | (simp [Value.isRef] at r2; done) | rfl | (simp [entryFrame, mkF, argsToLocals, Value.category]; done) | rfl
def Q_pchk (Z : State) (ii : Nat) (n : Nat) (fm : Value) (h0 : Heap) (n0 : Nat) (v : Option Value) (h : Heap) (L : List Loc) : Prop := (v = some (.int (Int32.ofNat ii))) ∧ (Fr n0 L) ∧ (h = h0)
set_option maxRecDepth 65536 in
set_option maxHeartbeats 40000000 in
theorem rm_pchk (l : Launch) (Z : State) (a0 : Array Value) (hw : ∀ d ∈ tables_1, d.before a0 Z = true) (ws : List Jvm.Cond) (ii : Nat) (n : Nat) (fm : Value) (h0 : Heap) (n0 : Nat) (Z0 : n0 ≤ h0.size) (hFM : fm.isRef = true) (hii : ii < n) (hcap : n ≤ 4000) :
    MetFree l (⟨"jdk/internal/util/Preconditions", "checkIndex", "(IILjava/util/function/BiFunction;)I"⟩ : MethodName) (head1 (Jvm.Cond.code (⟨"jdk/internal/util/Preconditions", "checkIndex", "(IILjava/util/function/BiFunction;)I"⟩ : MethodName) jdk_41_method_11_code 3 (some .int) :: ws) ({ frames := 0, cells := 0, slots := 0, locals := 0 } : Room)) (fun a₁ U₁ => a₁ = #[(.int (Int32.ofNat ii)), (.int (Int32.ofNat n)), fm] ∧ Z.Warmed39 U₁.vm ∧ U₁.heap = h0) (fun _ _ _ _ _ => True) (fun _ U₁ o₁ U₂ => ∃ v₁ L₁, o₁ = .returned v₁ ∧ Q_pchk Z ii n fm h0 n0 v₁ U₂.heap L₁ ∧ FrameEnd U₁ o₁ U₂ L₁ ({ frames := 0, cells := 0, slots := 0, locals := 0 } : Room).cells ({ frames := 0, cells := 0, slots := 0, locals := 0 } : Room).slots) := by
  refine MetFree.of_bodySF (plainFor_of_name pn_3) hisR ?_
  intro p e s m args below meth c s₁ Bd hml0 hP hK
  obtain ⟨rfl, hZ, hh⟩ := hP
  have hx := Bd.exec
  have hby := Bd.bytes
  have hml : c.maxLocals = 3 := hml0
  have hown : s.vm.findClass "jdk/internal/util/Preconditions" = some m.cls := findClass_of_methodNamed Bd.named
  have hnm := (name_of_methodNamed Bd.named Bd.method).1
  have X0 : Stand p l e ({ frames := 0, cells := 0, slots := 0, locals := 0 } : Room) s m #[(.int (Int32.ofNat ii)), (.int (Int32.ofNat n)), fm] below meth c s₁ [] 0 0 := Stand.of_body Bd
  have e0 : s₁.heap = h0 := by rw [← hh, Bd.state]; rfl
  have N0 := Fr.nil n0
  have pre0 : ∀ t, Steps p.tables e below (s₁.setTop (mkF m 0 #[.val (.int (Int32.ofNat ii)), .val (.int (Int32.ofNat n)), .val fm] [])) t → Steps p.tables e below (s₁.setTop (entryFrame m #[(.int (Int32.ofNat ii)), (.int (Int32.ofNat n)), fm] 3)) t := fun t k => castTop (ef_17 m (Int32.ofNat ii) (Int32.ofNat n) fm hFM) k
  obtain ⟨fs, hr, hrun, hended, hW, hsame⟩ := X0.leave (v := some (.int (Int32.ofNat ii))) (fun h => by rw [Bd.returns] at h; cases h)
  refine ⟨_, _, pre0 _ ?_, hrun, hended, _, _, rfl, ?_, ⟨_, rfl⟩, hW, hsame.mono (by decide) (by decide)⟩
  · refine XS.iloadN X0.here hx rfl (hb hby d_jdk_41_method_11_code_0) rfl ?_
    show Steps p.tables e below (s₁.setTop (mkF m 1 #[.val (.int (Int32.ofNat ii)), .val (.int (Int32.ofNat n)), .val fm] [(.int (Int32.ofNat ii))])) _
    refine XS.ifNo X0.here hx rfl (hb hby d_jdk_41_method_11_code_1) rfl ((if0 _ _).trans (flt ((own_inb hii (by omega)).1 : ¬ ((Int32.ofNat ii) < (0 : Int32)))).1) ?_
    show Steps p.tables e below (s₁.setTop (mkF m 4 #[.val (.int (Int32.ofNat ii)), .val (.int (Int32.ofNat n)), .val fm] [])) _
    refine XS.iloadN X0.here hx rfl (hb hby d_jdk_41_method_11_code_4) rfl ?_
    show Steps p.tables e below (s₁.setTop (mkF m 5 #[.val (.int (Int32.ofNat ii)), .val (.int (Int32.ofNat n)), .val fm] [(.int (Int32.ofNat ii))])) _
    refine XS.iloadN X0.here hx rfl (hb hby d_jdk_41_method_11_code_5) rfl ?_
    show Steps p.tables e below (s₁.setTop (mkF m 6 #[.val (.int (Int32.ofNat ii)), .val (.int (Int32.ofNat n)), .val fm] [(.int (Int32.ofNat n)), (.int (Int32.ofNat ii))])) _
    refine XS.icmpYes X0.here hx rfl (pc0 := 6) (pc' := 16) rfl (hb hby d_jdk_41_method_11_code_6) rfl (tlt ((own_inb hii (by omega)).2 : (Int32.ofNat ii) < (Int32.ofNat n))).1 (by decide) (by decide) ?_
    show Steps p.tables e below (s₁.setTop (mkF m 16 #[.val (.int (Int32.ofNat ii)), .val (.int (Int32.ofNat n)), .val fm] [])) _
    refine XS.iloadN X0.here hx rfl (hb hby d_jdk_41_method_11_code_16) rfl ?_
    show Steps p.tables e below (s₁.setTop (mkF m 17 #[.val (.int (Int32.ofNat ii)), .val (.int (Int32.ofNat n)), .val fm] [(.int (Int32.ofNat ii))])) _
    exact retI X0 hx Bd.returns (hb hby d_jdk_41_method_11_code_17) hr
  · show Q_pchk Z ii n fm h0 n0 _ s₁.heap _
    rw [e0]
    exact ⟨rfl, N0, rfl⟩
theorem d_jdk_42_method_155_code_0 : decode jdk_42_method_155_code 0 = .ok (.iload_n 0, 1) := by decide +kernel
theorem d_jdk_42_method_155_code_1 : decode jdk_42_method_155_code 1 = .ok (.iload_n 1, 1) := by decide +kernel
theorem d_jdk_42_method_155_code_2 : decode jdk_42_method_155_code 2 = .ok (.getstatic 1053, 3) := by decide +kernel
theorem d_jdk_42_method_155_code_5 : decode jdk_42_method_155_code 5 = .ok (.invokestatic 1059, 3) := by decide +kernel
theorem pd_17 : parseMethodDescriptor "(IILjava/util/function/BiFunction;)I" = some ⟨[.int, .int, (.object "java/util/function/BiFunction")], some .int⟩ := by decide +kernel
theorem d_jdk_42_method_155_code_8 : decode jdk_42_method_155_code 8 = .ok (.pop, 1) := by decide +kernel
theorem d_jdk_42_method_155_code_9 : decode jdk_42_method_155_code 9 = .ok (.return_, 1) := by decide +kernel
theorem ef_18 (m : MethodId) (x0 : Int32) (x1 : Int32) : entryFrame m #[(.int x0), (.int x1)] 2 = mkF m 0 #[.val (.int x0), .val (.int x1)] [] := by first | (simp [entryFrame, mkF, argsToLocals, Value.category]; done) | rfl
def Q_schk (Z : State) (ii : Nat) (n : Nat) (fm : Value) (h0 : Heap) (n0 : Nat) (v : Option Value) (h : Heap) (L : List Loc) : Prop := (v = none) ∧ (Fr n0 L) ∧ (h = h0)
set_option maxRecDepth 65536 in
set_option maxHeartbeats 40000000 in
theorem rm_schk (l : Launch) (Z : State) (a0 : Array Value) (hw : ∀ d ∈ tables_1, d.before a0 Z = true) (ws : List Jvm.Cond) (ii : Nat) (n : Nat) (fm : Value) (h0 : Heap) (n0 : Nat) (Z0 : n0 ≤ h0.size) (q0 : Sta Z Z.heap "jdk/internal/util/Preconditions" "SIOOBE_FORMATTER" "Ljava/util/function/BiFunction;" fm) (hFM : fm.isRef = true) (q2 : Old Z n0 h0) (hii : ii < n) (hcap : n ≤ 4000) :
    MetFree l (⟨"java/lang/String", "checkIndex", "(II)V"⟩ : MethodName) (head1 (Jvm.Cond.code (⟨"java/lang/String", "checkIndex", "(II)V"⟩ : MethodName) jdk_42_method_155_code 2 none :: ws) ({ frames := 1, cells := 0, slots := 0, locals := 14 } : Room)) (fun a₁ U₁ => a₁ = #[(.int (Int32.ofNat ii)), (.int (Int32.ofNat n))] ∧ Z.Warmed39 U₁.vm ∧ U₁.heap = h0) (fun _ _ _ _ _ => True) (fun _ U₁ o₁ U₂ => ∃ v₁ L₁, o₁ = .returned v₁ ∧ Q_schk Z ii n fm h0 n0 v₁ U₂.heap L₁ ∧ FrameEnd U₁ o₁ U₂ L₁ ({ frames := 1, cells := 0, slots := 0, locals := 14 } : Room).cells ({ frames := 1, cells := 0, slots := 0, locals := 14 } : Room).slots) := by
  refine MetFree.of_bodySF (plainFor_of_name pn_1) hisR ?_
  intro p e s m args below meth c s₁ Bd hml0 hP hK
  obtain ⟨rfl, hZ, hh⟩ := hP
  have hx := Bd.exec
  have hby := Bd.bytes
  have hml : c.maxLocals = 2 := hml0
  have hown : s.vm.findClass "java/lang/String" = some m.cls := findClass_of_methodNamed Bd.named
  have hnm := (name_of_methodNamed Bd.named Bd.method).1
  have X0 : Stand p l e ({ frames := 1, cells := 0, slots := 0, locals := 14 } : Room) s m #[(.int (Int32.ofNat ii)), (.int (Int32.ofNat n))] below meth c s₁ [] 0 0 := Stand.of_body Bd
  have e0 : s₁.heap = h0 := by rw [← hh, Bd.state]; rfl
  have N0 := Fr.nil n0
  have pre0 : ∀ t, Steps p.tables e below (s₁.setTop (mkF m 0 #[.val (.int (Int32.ofNat ii)), .val (.int (Int32.ofNat n))] [])) t → Steps p.tables e below (s₁.setTop (entryFrame m #[(.int (Int32.ofNat ii)), (.int (Int32.ofNat n))] 2)) t := fun t k => castTop (ef_18 m (Int32.ofNat ii) (Int32.ofNat n)) k
  obtain ⟨T301, X301, e301, st301⟩ := getS2 X0 hx hZ hown (host := "") (Or.inl (hw _ (List.mem_of_getElem? (i := 116) rfl))) Via.refl e0 (q0.ext q2.2) (g := (mkF m 2 #[.val (.int (Int32.ofNat ii)), .val (.int (Int32.ofNat n))] [(.int (Int32.ofNat n)), (.int (Int32.ofNat ii))])) rfl (hb hby d_jdk_42_method_155_code_2)
  obtain ⟨_, _, ⟨T302, L302, k302, n302⟩, -, X302, ⟨Lc302, hQ302, l302, y302, z302⟩, st302⟩ := Jvm.LawKit.callS X301 hx (y := (⟨"jdk/internal/util/Preconditions", "checkIndex", "(IILjava/util/function/BiFunction;)I"⟩ : MethodName)) hown (mvT hZ (hw _ (List.mem_of_getElem? (i := 179) rfl))) (mvT hZ (hw _ (List.mem_of_getElem? (i := 180) rfl))) (mvT hZ (hw _ (List.mem_of_getElem? (i := 117) rfl))) (mvT hZ (hw _ (List.mem_of_getElem? (i := 181) rfl))) (by decide) (backOf (W := 0) (rm_pchk l Z a0 hw [] ii n fm h0 n0 Z0 hFM hii hcap) hZ (hw _ (List.mem_of_getElem? (i := 181) rfl)) (hw _ (List.mem_of_getElem? (i := 117) rfl)) (by decide) (by decide)) (g := (mkF m 5 #[.val (.int (Int32.ofNat ii)), .val (.int (Int32.ofNat n))] [fm, (.int (Int32.ofNat n)), (.int (Int32.ofNat ii))])) rfl (by rw [hml]; rfl) (argsL := [(.int (Int32.ofNat ii)), (.int (Int32.ofNat n)), fm]) (rest := []) (lenOf pd_17 rfl) rfl (by show 2 * 0 + _ ≤ _; exact Nat.le_of_eq rfl) (hb hby d_jdk_42_method_155_code_5) (fun _ _ => ⟨rfl, e301, (by decide : 0 + 0 ≤ _), (by decide : 0 + 0 ≤ _)⟩)
  dsimp only [Pt.U, Pt.locs, Pt.cells, Pt.slots] at X302 l302 y302 z302 st302 hQ302
  replace l302 := l302.symm
  replace y302 := y302.symm
  replace z302 := z302.symm
  subst l302 y302 z302
  obtain ⟨rfl, Nq302, e302⟩ := hQ302
  have N302 := Fr.app N0 Nq302
  obtain ⟨fs, hr, hrun, hended, hW, hsame⟩ := X302.leave (v := none) (fun _ => rfl)
  refine ⟨_, _, pre0 _ ?_, hrun, hended, _, _, rfl, ?_, ⟨_, rfl⟩, hW, hsame.mono (by decide) (by decide)⟩
  · refine XS.iloadN X0.here hx rfl (hb hby d_jdk_42_method_155_code_0) rfl ?_
    show Steps p.tables e below (s₁.setTop (mkF m 1 #[.val (.int (Int32.ofNat ii)), .val (.int (Int32.ofNat n))] [(.int (Int32.ofNat ii))])) _
    refine XS.iloadN X0.here hx rfl (hb hby d_jdk_42_method_155_code_1) rfl ?_
    show Steps p.tables e below (s₁.setTop (mkF m 2 #[.val (.int (Int32.ofNat ii)), .val (.int (Int32.ofNat n))] [(.int (Int32.ofNat n)), (.int (Int32.ofNat ii))])) _
    refine st301 _ ?_
    show Steps p.tables e below (T301.setTop (mkF m 5 #[.val (.int (Int32.ofNat ii)), .val (.int (Int32.ofNat n))] [fm, (.int (Int32.ofNat n)), (.int (Int32.ofNat ii))])) _
    refine st302 _ ?_
    show Steps p.tables e below (T302.setTop (mkF m 8 #[.val (.int (Int32.ofNat ii)), .val (.int (Int32.ofNat n))] [(.int (Int32.ofNat ii))])) _
    refine XS.pop X302.here hx rfl (hb hby d_jdk_42_method_155_code_8) rfl rfl ?_
    show Steps p.tables e below (T302.setTop (mkF m 9 #[.val (.int (Int32.ofNat ii)), .val (.int (Int32.ofNat n))] [])) _
    exact X302.returnOut hx Bd.returns (hb hby d_jdk_42_method_155_code_9) hr
  · show Q_schk Z ii n fm h0 n0 _ T302.heap _
    rw [e302]
    exact ⟨rfl, N302, rfl⟩
theorem d_jdk_52_method_91_code_0 : decode jdk_52_method_91_code 0 = .ok (.iload_n 0, 1) := by decide +kernel
theorem d_jdk_52_method_91_code_1 : decode jdk_52_method_91_code 1 = .ok (.aload_n 1, 1) := by decide +kernel
theorem d_jdk_52_method_91_code_2 : decode jdk_52_method_91_code 2 = .ok (.invokestatic 48, 3) := by decide +kernel
theorem pd_18 : parseMethodDescriptor "([B)I" = some ⟨[(.array .byte)], some .int⟩ := by decide +kernel
theorem d_jdk_52_method_91_code_5 : decode jdk_52_method_91_code 5 = .ok (.invokestatic 414, 3) := by decide +kernel
theorem pd_19 : parseMethodDescriptor "(II)V" = some ⟨[.int, .int], none⟩ := by decide +kernel
theorem d_jdk_52_method_91_code_8 : decode jdk_52_method_91_code 8 = .ok (.return_, 1) := by decide +kernel
theorem ef_19 (m : MethodId) (x0 : Int32) (x1 : Addr) : entryFrame m #[(.int x0), (.ref x1)] 2 = mkF m 0 #[.val (.int x0), .val (.ref x1)] [] := by first | (simp [entryFrame, mkF, argsToLocals, Value.category]; done) | rfl
def Q_uchk (Z : State) (ii : Nat) (dd : Addr) (kd : ClassId) (n : Nat) (vs : List Value) (fm : Value) (h0 : Heap) (n0 : Nat) (v : Option Value) (h : Heap) (L : List Loc) : Prop := (v = none) ∧ (Fr n0 L) ∧ (h = h0)
set_option maxRecDepth 65536 in
set_option maxHeartbeats 40000000 in
theorem rm_uchk (l : Launch) (Z : State) (a0 : Array Value) (hw : ∀ d ∈ tables_1, d.before a0 Z = true) (ws : List Jvm.Cond) (ii : Nat) (dd : Addr) (kd : ClassId) (n : Nat) (vs : List Value) (fm : Value) (h0 : Heap) (n0 : Nat) (Z0 : n0 ≤ h0.size) (q0 : Sta Z Z.heap "jdk/internal/util/Preconditions" "SIOOBE_FORMATTER" "Ljava/util/function/BiFunction;" fm) (hFM : fm.isRef = true) (q2 : Old Z n0 h0) (q3 : Arv Z h0 dd kd .byte (Int32.ofNat (2 * n)) vs (.int (0 : Int32))) (hii : ii < n) (hcap : n ≤ 4000) :
    MetFree l (⟨"java/lang/StringUTF16", "checkIndex", "(I[B)V"⟩ : MethodName) (head1 (Jvm.Cond.code (⟨"java/lang/StringUTF16", "checkIndex", "(I[B)V"⟩ : MethodName) jdk_52_method_91_code 2 none :: ws) ({ frames := 2, cells := 0, slots := 0, locals := 27 } : Room)) (fun a₁ U₁ => a₁ = #[(.int (Int32.ofNat ii)), (.ref dd)] ∧ Z.Warmed39 U₁.vm ∧ U₁.heap = h0) (fun _ _ _ _ _ => True) (fun _ U₁ o₁ U₂ => ∃ v₁ L₁, o₁ = .returned v₁ ∧ Q_uchk Z ii dd kd n vs fm h0 n0 v₁ U₂.heap L₁ ∧ FrameEnd U₁ o₁ U₂ L₁ ({ frames := 2, cells := 0, slots := 0, locals := 27 } : Room).cells ({ frames := 2, cells := 0, slots := 0, locals := 27 } : Room).slots) := by
  refine MetFree.of_bodySF (plainFor_of_name pn_0) hisR ?_
  intro p e s m args below meth c s₁ Bd hml0 hP hK
  obtain ⟨rfl, hZ, hh⟩ := hP
  have hx := Bd.exec
  have hby := Bd.bytes
  have hml : c.maxLocals = 2 := hml0
  have hown : s.vm.findClass "java/lang/StringUTF16" = some m.cls := findClass_of_methodNamed Bd.named
  have hnm := (name_of_methodNamed Bd.named Bd.method).1
  have X0 : Stand p l e ({ frames := 2, cells := 0, slots := 0, locals := 27 } : Room) s m #[(.int (Int32.ofNat ii)), (.ref dd)] below meth c s₁ [] 0 0 := Stand.of_body Bd
  have e0 : s₁.heap = h0 := by rw [← hh, Bd.state]; rfl
  have N0 := Fr.nil n0
  have pre0 : ∀ t, Steps p.tables e below (s₁.setTop (mkF m 0 #[.val (.int (Int32.ofNat ii)), .val (.ref dd)] [])) t → Steps p.tables e below (s₁.setTop (entryFrame m #[(.int (Int32.ofNat ii)), (.ref dd)] 2)) t := fun t k => castTop (ef_19 m (Int32.ofNat ii) dd) k
  obtain ⟨_, _, ⟨T301, L301, k301, n301⟩, -, X301, ⟨Lc301, hQ301, l301, y301, z301⟩, st301⟩ := Jvm.LawKit.callS X0 hx (y := (⟨"java/lang/StringUTF16", "length", "([B)I"⟩ : MethodName)) hown (mvT hZ (hw _ (List.mem_of_getElem? (i := 207) rfl))) (mvT hZ (hw _ (List.mem_of_getElem? (i := 208) rfl))) (mvT hZ (hw _ (List.mem_of_getElem? (i := 37) rfl))) (mvT hZ (hw _ (List.mem_of_getElem? (i := 209) rfl))) (by decide) (backOf (W := 1) (rm_ulen l Z a0 hw [] dd kd n vs h0 n0 Z0 q3 hcap) hZ (hw _ (List.mem_of_getElem? (i := 209) rfl)) (hw _ (List.mem_of_getElem? (i := 37) rfl)) (by decide) (by decide)) (g := (mkF m 2 #[.val (.int (Int32.ofNat ii)), .val (.ref dd)] [(.ref dd), (.int (Int32.ofNat ii))])) rfl (by rw [hml]; rfl) (argsL := [(.ref dd)]) (rest := [(.int (Int32.ofNat ii))]) (lenOf pd_18 rfl) rfl (by show 2 * 0 + _ ≤ _; exact Nat.le_of_eq rfl) (hb hby d_jdk_52_method_91_code_2) (fun _ _ => ⟨rfl, e0, (by decide : 0 + 0 ≤ _), (by decide : 0 + 0 ≤ _)⟩)
  dsimp only [Pt.U, Pt.locs, Pt.cells, Pt.slots] at X301 l301 y301 z301 st301 hQ301
  replace l301 := l301.symm
  replace y301 := y301.symm
  replace z301 := z301.symm
  subst l301 y301 z301
  obtain ⟨rfl, Nq301, e301⟩ := hQ301
  have N301 := Fr.app N0 Nq301
  obtain ⟨_, _, ⟨T302, L302, k302, n302⟩, -, X302, ⟨Lc302, hQ302, l302, y302, z302⟩, st302⟩ := Jvm.LawKit.callS X301 hx (y := (⟨"java/lang/String", "checkIndex", "(II)V"⟩ : MethodName)) hown (mvT hZ (hw _ (List.mem_of_getElem? (i := 210) rfl))) (mvT hZ (hw _ (List.mem_of_getElem? (i := 177) rfl))) (mvT hZ (hw _ (List.mem_of_getElem? (i := 4) rfl))) (mvT hZ (hw _ (List.mem_of_getElem? (i := 178) rfl))) (by decide) (backOf (W := 0) (rm_schk l Z a0 hw [] ii n fm h0 n0 Z0 q0 hFM q2 hii hcap) hZ (hw _ (List.mem_of_getElem? (i := 178) rfl)) (hw _ (List.mem_of_getElem? (i := 4) rfl)) (by decide) (by decide)) (g := (mkF m 5 #[.val (.int (Int32.ofNat ii)), .val (.ref dd)] [(.int (Int32.ofNat n)), (.int (Int32.ofNat ii))])) rfl (by rw [hml]; rfl) (argsL := [(.int (Int32.ofNat ii)), (.int (Int32.ofNat n))]) (rest := []) (lenOf pd_19 rfl) rfl (by show 2 * 0 + _ ≤ _; exact Nat.le_of_eq rfl) (hb hby d_jdk_52_method_91_code_5) (fun _ _ => ⟨rfl, e301, (by decide : 0 + 0 ≤ _), (by decide : 0 + 0 ≤ _)⟩)
  dsimp only [Pt.U, Pt.locs, Pt.cells, Pt.slots] at X302 l302 y302 z302 st302 hQ302
  replace l302 := l302.symm
  replace y302 := y302.symm
  replace z302 := z302.symm
  subst l302 y302 z302
  obtain ⟨rfl, Nq302, e302⟩ := hQ302
  have N302 := Fr.app N301 Nq302
  obtain ⟨fs, hr, hrun, hended, hW, hsame⟩ := X302.leave (v := none) (fun _ => rfl)
  refine ⟨_, _, pre0 _ ?_, hrun, hended, _, _, rfl, ?_, ⟨_, rfl⟩, hW, hsame.mono (by decide) (by decide)⟩
  · refine XS.iloadN X0.here hx rfl (hb hby d_jdk_52_method_91_code_0) rfl ?_
    show Steps p.tables e below (s₁.setTop (mkF m 1 #[.val (.int (Int32.ofNat ii)), .val (.ref dd)] [(.int (Int32.ofNat ii))])) _
    refine XS.aloadN X0.here hx rfl (hb hby d_jdk_52_method_91_code_1) rfl rfl ?_
    show Steps p.tables e below (s₁.setTop (mkF m 2 #[.val (.int (Int32.ofNat ii)), .val (.ref dd)] [(.ref dd), (.int (Int32.ofNat ii))])) _
    refine st301 _ ?_
    show Steps p.tables e below (T301.setTop (mkF m 5 #[.val (.int (Int32.ofNat ii)), .val (.ref dd)] [(.int (Int32.ofNat n)), (.int (Int32.ofNat ii))])) _
    refine st302 _ ?_
    show Steps p.tables e below (T302.setTop (mkF m 8 #[.val (.int (Int32.ofNat ii)), .val (.ref dd)] [])) _
    exact X302.returnOut hx Bd.returns (hb hby d_jdk_52_method_91_code_8) hr
  · show Q_uchk Z ii dd kd n vs fm h0 n0 _ T302.heap _
    rw [e302]
    exact ⟨rfl, N302, rfl⟩
theorem d_jdk_52_method_83_code_0 : decode jdk_52_method_83_code 0 = .ok (.iload_n 1, 1) := by decide +kernel
theorem d_jdk_52_method_83_code_1 : decode jdk_52_method_83_code 1 = .ok (.aload_n 0, 1) := by decide +kernel
theorem d_jdk_52_method_83_code_2 : decode jdk_52_method_83_code 2 = .ok (.invokestatic 67, 3) := by decide +kernel
theorem pd_20 : parseMethodDescriptor "(I[B)V" = some ⟨[.int, (.array .byte)], none⟩ := by decide +kernel
theorem d_jdk_52_method_83_code_5 : decode jdk_52_method_83_code 5 = .ok (.aload_n 0, 1) := by decide +kernel
theorem d_jdk_52_method_83_code_6 : decode jdk_52_method_83_code 6 = .ok (.iload_n 1, 1) := by decide +kernel
theorem d_jdk_52_method_83_code_7 : decode jdk_52_method_83_code 7 = .ok (.invokestatic 71, 3) := by decide +kernel
theorem d_jdk_52_method_83_code_10 : decode jdk_52_method_83_code 10 = .ok (.ireturn, 1) := by decide +kernel
def Q_uchA (Z : State) (dd : Addr) (ii : Nat) (xc : Int32) (kd : ClassId) (n : Nat) (vs : List Value) (fm : Value) (h0 : Heap) (n0 : Nat) (v : Option Value) (h : Heap) (L : List Loc) : Prop := (v = some (.int xc)) ∧ (Fr n0 L) ∧ (h = h0)
set_option maxRecDepth 65536 in
set_option maxHeartbeats 40000000 in
theorem rm_uchA (l : Launch) (Z : State) (a0 : Array Value) (hw : ∀ d ∈ tables_1, d.before a0 Z = true) (ws : List Jvm.Cond) (dd : Addr) (ii : Nat) (xc : Int32) (kd : ClassId) (n : Nat) (vs : List Value) (fm : Value) (h0 : Heap) (n0 : Nat) (Z0 : n0 ≤ h0.size) (q0 : Sta Z Z.heap "jdk/internal/util/Preconditions" "SIOOBE_FORMATTER" "Ljava/util/function/BiFunction;" fm) (hFM : fm.isRef = true) (q2 : Sta Z Z.heap "java/lang/StringUTF16" "$assertionsDisabled" "Z" (.int (1 : Int32))) (q3 : Sta Z Z.heap "java/lang/StringUTF16" "HI_BYTE_SHIFT" "I" (.int (0 : Int32))) (q4 : Sta Z Z.heap "java/lang/StringUTF16" "LO_BYTE_SHIFT" "I" (.int (8 : Int32))) (q5 : Old Z n0 h0) (q6 : Arv Z h0 dd kd .byte (Int32.ofNat (2 * n)) vs (.int (0 : Int32))) (hii : ii < n) (hcap : n ≤ 4000) (hlo_ : vs.getD (2 * ii) (.int (0 : Int32)) = (.int (StrChars.lo8 xc))) (hhi_ : vs.getD (2 * ii + 1) (.int (0 : Int32)) = (.int (StrChars.hi8 xc))) (hc0 : ¬ xc < 0) (hc1 : ¬ (65535 : Int32) < xc) :
    MetFree l (⟨"java/lang/StringUTF16", "charAt", "([BI)C"⟩ : MethodName) (head1 (Jvm.Cond.code (⟨"java/lang/StringUTF16", "charAt", "([BI)C"⟩ : MethodName) jdk_52_method_83_code 2 (some .char) :: ws) ({ frames := 3, cells := 0, slots := 0, locals := 40 } : Room)) (fun a₁ U₁ => a₁ = #[(.ref dd), (.int (Int32.ofNat ii))] ∧ Z.Warmed39 U₁.vm ∧ U₁.heap = h0) (fun _ _ _ _ _ => True) (fun _ U₁ o₁ U₂ => ∃ v₁ L₁, o₁ = .returned v₁ ∧ Q_uchA Z dd ii xc kd n vs fm h0 n0 v₁ U₂.heap L₁ ∧ FrameEnd U₁ o₁ U₂ L₁ ({ frames := 3, cells := 0, slots := 0, locals := 40 } : Room).cells ({ frames := 3, cells := 0, slots := 0, locals := 40 } : Room).slots) := by
  refine MetFree.of_bodySF (plainFor_of_name pn_0) hisR ?_
  intro p e s m args below meth c s₁ Bd hml0 hP hK
  obtain ⟨rfl, hZ, hh⟩ := hP
  have hx := Bd.exec
  have hby := Bd.bytes
  have hml : c.maxLocals = 2 := hml0
  have hown : s.vm.findClass "java/lang/StringUTF16" = some m.cls := findClass_of_methodNamed Bd.named
  have hnm := (name_of_methodNamed Bd.named Bd.method).1
  have X0 : Stand p l e ({ frames := 3, cells := 0, slots := 0, locals := 40 } : Room) s m #[(.ref dd), (.int (Int32.ofNat ii))] below meth c s₁ [] 0 0 := Stand.of_body Bd
  have e0 : s₁.heap = h0 := by rw [← hh, Bd.state]; rfl
  have N0 := Fr.nil n0
  have pre0 : ∀ t, Steps p.tables e below (s₁.setTop (mkF m 0 #[.val (.ref dd), .val (.int (Int32.ofNat ii))] [])) t → Steps p.tables e below (s₁.setTop (entryFrame m #[(.ref dd), (.int (Int32.ofNat ii))] 2)) t := fun t k => castTop (ef_2 m dd (Int32.ofNat ii)) k
  obtain ⟨_, _, ⟨T301, L301, k301, n301⟩, -, X301, ⟨Lc301, hQ301, l301, y301, z301⟩, st301⟩ := Jvm.LawKit.callS X0 hx (y := (⟨"java/lang/StringUTF16", "checkIndex", "(I[B)V"⟩ : MethodName)) hown (mvT hZ (hw _ (List.mem_of_getElem? (i := 204) rfl))) (mvT hZ (hw _ (List.mem_of_getElem? (i := 205) rfl))) (mvT hZ (hw _ (List.mem_of_getElem? (i := 37) rfl))) (mvT hZ (hw _ (List.mem_of_getElem? (i := 206) rfl))) (by decide) (backOf (W := 0) (rm_uchk l Z a0 hw [] ii dd kd n vs fm h0 n0 Z0 q0 hFM q5 q6 hii hcap) hZ (hw _ (List.mem_of_getElem? (i := 206) rfl)) (hw _ (List.mem_of_getElem? (i := 37) rfl)) (by decide) (by decide)) (g := (mkF m 2 #[.val (.ref dd), .val (.int (Int32.ofNat ii))] [(.ref dd), (.int (Int32.ofNat ii))])) rfl (by rw [hml]; rfl) (argsL := [(.int (Int32.ofNat ii)), (.ref dd)]) (rest := []) (lenOf pd_20 rfl) rfl (by show 2 * 0 + _ ≤ _; exact Nat.le_of_eq rfl) (hb hby d_jdk_52_method_83_code_2) (fun _ _ => ⟨rfl, e0, (by decide : 0 + 0 ≤ _), (by decide : 0 + 0 ≤ _)⟩)
  dsimp only [Pt.U, Pt.locs, Pt.cells, Pt.slots] at X301 l301 y301 z301 st301 hQ301
  replace l301 := l301.symm
  replace y301 := y301.symm
  replace z301 := z301.symm
  subst l301 y301 z301
  obtain ⟨rfl, Nq301, e301⟩ := hQ301
  have N301 := Fr.app N0 Nq301
  obtain ⟨_, _, ⟨T302, L302, k302, n302⟩, -, X302, ⟨Lc302, hQ302, l302, y302, z302⟩, st302⟩ := Jvm.LawKit.callS X301 hx (y := (⟨"java/lang/StringUTF16", "getChar", "([BI)C"⟩ : MethodName)) hown (mvT hZ (hw _ (List.mem_of_getElem? (i := 198) rfl))) (mvT hZ (hw _ (List.mem_of_getElem? (i := 199) rfl))) (mvT hZ (hw _ (List.mem_of_getElem? (i := 37) rfl))) (mvT hZ (hw _ (List.mem_of_getElem? (i := 200) rfl))) (by decide) (backOf (W := 0) (rm_getCh l Z a0 hw [] dd ii xc kd (2 * n) vs h0 n0 Z0 q2 q3 q4 q5 q6 (by omega) (by omega) hlo_ hhi_ hc0 hc1) hZ (hw _ (List.mem_of_getElem? (i := 200) rfl)) (hw _ (List.mem_of_getElem? (i := 37) rfl)) (by decide) (by decide)) (g := (mkF m 7 #[.val (.ref dd), .val (.int (Int32.ofNat ii))] [(.int (Int32.ofNat ii)), (.ref dd)])) rfl (by rw [hml]; rfl) (argsL := [(.ref dd), (.int (Int32.ofNat ii))]) (rest := []) (lenOf pd_5 rfl) rfl (by show 2 * 0 + _ ≤ _; exact Nat.le_of_eq rfl) (hb hby d_jdk_52_method_83_code_7) (fun _ _ => ⟨rfl, e301, (by decide : 0 + 0 ≤ _), (by decide : 0 + 0 ≤ _)⟩)
  dsimp only [Pt.U, Pt.locs, Pt.cells, Pt.slots] at X302 l302 y302 z302 st302 hQ302
  replace l302 := l302.symm
  replace y302 := y302.symm
  replace z302 := z302.symm
  subst l302 y302 z302
  obtain ⟨rfl, Nq302, e302⟩ := hQ302
  have N302 := Fr.app N301 Nq302
  obtain ⟨fs, hr, hrun, hended, hW, hsame⟩ := X302.leave (v := some (.int xc)) (fun h => by rw [Bd.returns] at h; cases h)
  refine ⟨_, _, pre0 _ ?_, hrun, hended, _, _, rfl, ?_, ⟨_, rfl⟩, hW, hsame.mono (by decide) (by decide)⟩
  · refine XS.iloadN X0.here hx rfl (hb hby d_jdk_52_method_83_code_0) rfl ?_
    show Steps p.tables e below (s₁.setTop (mkF m 1 #[.val (.ref dd), .val (.int (Int32.ofNat ii))] [(.int (Int32.ofNat ii))])) _
    refine XS.aloadN X0.here hx rfl (hb hby d_jdk_52_method_83_code_1) rfl rfl ?_
    show Steps p.tables e below (s₁.setTop (mkF m 2 #[.val (.ref dd), .val (.int (Int32.ofNat ii))] [(.ref dd), (.int (Int32.ofNat ii))])) _
    refine st301 _ ?_
    show Steps p.tables e below (T301.setTop (mkF m 5 #[.val (.ref dd), .val (.int (Int32.ofNat ii))] [])) _
    refine XS.aloadN X301.here hx rfl (hb hby d_jdk_52_method_83_code_5) rfl rfl ?_
    show Steps p.tables e below (T301.setTop (mkF m 6 #[.val (.ref dd), .val (.int (Int32.ofNat ii))] [(.ref dd)])) _
    refine XS.iloadN X301.here hx rfl (hb hby d_jdk_52_method_83_code_6) rfl ?_
    show Steps p.tables e below (T301.setTop (mkF m 7 #[.val (.ref dd), .val (.int (Int32.ofNat ii))] [(.int (Int32.ofNat ii)), (.ref dd)])) _
    refine st302 _ ?_
    show Steps p.tables e below (T302.setTop (mkF m 10 #[.val (.ref dd), .val (.int (Int32.ofNat ii))] [(.int xc)])) _
    exact retN X302 hx (t := .char) Bd.returns (by simp) (hb hby d_jdk_52_method_83_code_10) (by rw [(show nar .char xc = xc from own_nc hc0 hc1)]; exact hr)
  · show Q_uchA Z dd ii xc kd n vs fm h0 n0 _ T302.heap _
    rw [e302]
    exact ⟨rfl, N302, rfl⟩
theorem d_jdk_42_method_154_code_0 : decode jdk_42_method_154_code 0 = .ok (.getstatic 38, 3) := by decide +kernel
theorem d_jdk_42_method_154_code_3 : decode jdk_42_method_154_code 3 = .ok (.ifCond .eq 14, 3) := by decide +kernel
theorem d_jdk_42_method_154_code_6 : decode jdk_42_method_154_code 6 = .ok (.aload_n 0, 1) := by decide +kernel
theorem d_jdk_42_method_154_code_7 : decode jdk_42_method_154_code 7 = .ok (.getfield 15, 3) := by decide +kernel
theorem d_jdk_42_method_154_code_10 : decode jdk_42_method_154_code 10 = .ok (.ifCond .ne 7, 3) := by decide +kernel
theorem d_jdk_42_method_154_code_17 : decode jdk_42_method_154_code 17 = .ok (.iconst 0, 1) := by decide +kernel
theorem d_jdk_42_method_154_code_18 : decode jdk_42_method_154_code 18 = .ok (.ireturn, 1) := by decide +kernel
def Q_sLatW (Z : State) (xs : Addr) (G : Int32) (h0 : Heap) (n0 : Nat) (v : Option Value) (h : Heap) (L : List Loc) : Prop := (v = some (.int (0 : Int32))) ∧ (Fr n0 L) ∧ (h = h0)
set_option maxRecDepth 65536 in
set_option maxHeartbeats 40000000 in
theorem rm_sLatW (l : Launch) (Z : State) (a0 : Array Value) (hw : ∀ d ∈ tables_1, d.before a0 Z = true) (ws : List Jvm.Cond) (xs : Addr) (G : Int32) (h0 : Heap) (n0 : Nat) (Z0 : n0 ≤ h0.size) (q0 : Sta Z Z.heap "java/lang/String" "COMPACT_STRINGS" "Z" (.int G)) (hCS : ¬ (G = (0 : Int32))) (q2 : Old Z n0 h0) (q3 : Fld Z h0 xs "java/lang/String" "coder" "B" (.int (1 : Int32))) :
    MetFree l (⟨"java/lang/String", "isLatin1", "()Z"⟩ : MethodName) (head1 (Jvm.Cond.code (⟨"java/lang/String", "isLatin1", "()Z"⟩ : MethodName) jdk_42_method_154_code 1 (some .boolean) :: ws) ({ frames := 0, cells := 0, slots := 0, locals := 0 } : Room)) (fun a₁ U₁ => a₁ = #[(.ref xs)] ∧ Z.Warmed39 U₁.vm ∧ U₁.heap = h0) (fun _ _ _ _ _ => True) (fun _ U₁ o₁ U₂ => ∃ v₁ L₁, o₁ = .returned v₁ ∧ Q_sLatW Z xs G h0 n0 v₁ U₂.heap L₁ ∧ FrameEnd U₁ o₁ U₂ L₁ ({ frames := 0, cells := 0, slots := 0, locals := 0 } : Room).cells ({ frames := 0, cells := 0, slots := 0, locals := 0 } : Room).slots) := by
  refine MetFree.of_bodySF (plainFor_of_name pn_1) hisR ?_
  intro p e s m args below meth c s₁ Bd hml0 hP hK
  obtain ⟨rfl, hZ, hh⟩ := hP
  have hx := Bd.exec
  have hby := Bd.bytes
  have hml : c.maxLocals = 1 := hml0
  have hown : s.vm.findClass "java/lang/String" = some m.cls := findClass_of_methodNamed Bd.named
  have hnm := (name_of_methodNamed Bd.named Bd.method).1
  have X0 : Stand p l e ({ frames := 0, cells := 0, slots := 0, locals := 0 } : Room) s m #[(.ref xs)] below meth c s₁ [] 0 0 := Stand.of_body Bd
  have e0 : s₁.heap = h0 := by rw [← hh, Bd.state]; rfl
  have N0 := Fr.nil n0
  have pre0 : ∀ t, Steps p.tables e below (s₁.setTop (mkF m 0 #[.val (.ref xs)] [])) t → Steps p.tables e below (s₁.setTop (entryFrame m #[(.ref xs)] 1)) t := fun t k => castTop (ef_12 m xs) k
  obtain ⟨T301, X301, e301, st301⟩ := getS2 X0 hx hZ hown (host := "") (Or.inl (hw _ (List.mem_of_getElem? (i := 6) rfl))) Via.refl e0 (q0.ext q2.2) (g := (mkF m 0 #[.val (.ref xs)] [])) rfl (hb hby d_jdk_42_method_154_code_0)
  obtain ⟨T302, X302, e302, st302⟩ := getF X301 hx hZ hown (host := "") (Or.inl (hw _ (List.mem_of_getElem? (i := 26) rfl))) Via.refl e301 q3 (g := (mkF m 7 #[.val (.ref xs)] [(.ref xs)])) rfl rfl (hb hby d_jdk_42_method_154_code_7)
  obtain ⟨fs, hr, hrun, hended, hW, hsame⟩ := X302.leave (v := some (.int (0 : Int32))) (fun h => by rw [Bd.returns] at h; cases h)
  refine ⟨_, _, pre0 _ ?_, hrun, hended, _, _, rfl, ?_, ⟨_, rfl⟩, hW, hsame.mono (by decide) (by decide)⟩
  · refine st301 _ ?_
    show Steps p.tables e below (T301.setTop (mkF m 3 #[.val (.ref xs)] [(.int G)])) _
    refine XS.ifNo X301.here hx rfl (hb hby d_jdk_42_method_154_code_3) rfl ((if0 _ _).trans (feq (hCS : ¬ (G = (0 : Int32)))).1) ?_
    show Steps p.tables e below (T301.setTop (mkF m 6 #[.val (.ref xs)] [])) _
    refine XS.aloadN X301.here hx rfl (hb hby d_jdk_42_method_154_code_6) rfl rfl ?_
    show Steps p.tables e below (T301.setTop (mkF m 7 #[.val (.ref xs)] [(.ref xs)])) _
    refine st302 _ ?_
    show Steps p.tables e below (T302.setTop (mkF m 10 #[.val (.ref xs)] [(.int (1 : Int32))])) _
    refine XS.ifYes X302.here hx rfl (pc0 := 10) (pc' := 17) rfl (hb hby d_jdk_42_method_154_code_10) rfl ((if0 _ _).trans (feq ((by decide) : ¬ ((1 : Int32) = (0 : Int32)))).2) (by decide) (by decide) ?_
    show Steps p.tables e below (T302.setTop (mkF m 17 #[.val (.ref xs)] [])) _
    refine XS.iconst X302.here hx rfl (hb hby d_jdk_42_method_154_code_17) ?_
    show Steps p.tables e below (T302.setTop (mkF m 18 #[.val (.ref xs)] [(.int (0 : Int32))])) _
    exact retN X302 hx (t := .boolean) Bd.returns (by simp) (hb hby d_jdk_42_method_154_code_18) hr
  · show Q_sLatW Z xs G h0 n0 _ T302.heap _
    rw [e302]
    exact ⟨rfl, N0, rfl⟩
theorem d_jdk_42_method_56_code_0 : decode jdk_42_method_56_code 0 = .ok (.aload_n 0, 1) := by decide +kernel
theorem d_jdk_42_method_56_code_1 : decode jdk_42_method_56_code 1 = .ok (.invokevirtual 492, 3) := by decide +kernel
theorem pd_21 : parseMethodDescriptor "()Z" = some ⟨[], some .boolean⟩ := by decide +kernel
theorem d_jdk_42_method_56_code_4 : decode jdk_42_method_56_code 4 = .ok (.ifCond .eq 12, 3) := by decide +kernel
theorem d_jdk_42_method_56_code_16 : decode jdk_42_method_56_code 16 = .ok (.aload_n 0, 1) := by decide +kernel
theorem d_jdk_42_method_56_code_17 : decode jdk_42_method_56_code 17 = .ok (.getfield 9, 3) := by decide +kernel
theorem d_jdk_42_method_56_code_20 : decode jdk_42_method_56_code 20 = .ok (.iload_n 1, 1) := by decide +kernel
theorem d_jdk_42_method_56_code_21 : decode jdk_42_method_56_code 21 = .ok (.invokestatic 498, 3) := by decide +kernel
theorem d_jdk_42_method_56_code_24 : decode jdk_42_method_56_code 24 = .ok (.ireturn, 1) := by decide +kernel
def Q_chW (Z : State) (xs : Addr) (ii : Nat) (xc : Int32) (dd : Addr) (kd : ClassId) (n : Nat) (vs : List Value) (G : Int32) (fm : Value) (h0 : Heap) (n0 : Nat) (v : Option Value) (h : Heap) (L : List Loc) : Prop := (v = some (.int xc)) ∧ (Fr n0 L) ∧ (h = h0)
set_option maxRecDepth 65536 in
set_option maxHeartbeats 40000000 in
theorem rm_chW (l : Launch) (Z : State) (a0 : Array Value) (hw : ∀ d ∈ tables_1, d.before a0 Z = true) (ws : List Jvm.Cond) (xs : Addr) (ii : Nat) (xc : Int32) (dd : Addr) (kd : ClassId) (n : Nat) (vs : List Value) (G : Int32) (fm : Value) (h0 : Heap) (n0 : Nat) (Z0 : n0 ≤ h0.size) (q0 : Sta Z Z.heap "java/lang/String" "COMPACT_STRINGS" "Z" (.int G)) (hCS : ¬ (G = (0 : Int32))) (q2 : Sta Z Z.heap "jdk/internal/util/Preconditions" "SIOOBE_FORMATTER" "Ljava/util/function/BiFunction;" fm) (hFM : fm.isRef = true) (q4 : Sta Z Z.heap "java/lang/StringUTF16" "$assertionsDisabled" "Z" (.int (1 : Int32))) (q5 : Sta Z Z.heap "java/lang/StringUTF16" "HI_BYTE_SHIFT" "I" (.int (0 : Int32))) (q6 : Sta Z Z.heap "java/lang/StringUTF16" "LO_BYTE_SHIFT" "I" (.int (8 : Int32))) (q7 : Old Z n0 h0) (q8 : Exa Z h0 xs "java/lang/String") (q9 : Fld Z h0 xs "java/lang/String" "value" "[B" (.ref dd)) (q10 : Fld Z h0 xs "java/lang/String" "coder" "B" (.int (1 : Int32))) (q11 : Arv Z h0 dd kd .byte (Int32.ofNat (2 * n)) vs (.int (0 : Int32))) (hii : ii < n) (hcap : n ≤ 4000) (hlo_ : vs.getD (2 * ii) (.int (0 : Int32)) = (.int (StrChars.lo8 xc))) (hhi_ : vs.getD (2 * ii + 1) (.int (0 : Int32)) = (.int (StrChars.hi8 xc))) (hc0 : ¬ xc < 0) (hc1 : ¬ (65535 : Int32) < xc) :
    MetFree l (⟨"java/lang/String", "charAt", "(I)C"⟩ : MethodName) (head1 (Jvm.Cond.code (⟨"java/lang/String", "charAt", "(I)C"⟩ : MethodName) jdk_42_method_56_code 2 (some .char) :: ws) ({ frames := 4, cells := 0, slots := 0, locals := 53 } : Room)) (fun a₁ U₁ => a₁ = #[(.ref xs), (.int (Int32.ofNat ii))] ∧ Z.Warmed39 U₁.vm ∧ U₁.heap = h0) (fun _ _ _ _ _ => True) (fun _ U₁ o₁ U₂ => ∃ v₁ L₁, o₁ = .returned v₁ ∧ Q_chW Z xs ii xc dd kd n vs G fm h0 n0 v₁ U₂.heap L₁ ∧ FrameEnd U₁ o₁ U₂ L₁ ({ frames := 4, cells := 0, slots := 0, locals := 53 } : Room).cells ({ frames := 4, cells := 0, slots := 0, locals := 53 } : Room).slots) := by
  refine MetFree.of_bodySF (plainFor_of_name pn_1) hisR ?_
  intro p e s m args below meth c s₁ Bd hml0 hP hK
  obtain ⟨rfl, hZ, hh⟩ := hP
  have hx := Bd.exec
  have hby := Bd.bytes
  have hml : c.maxLocals = 2 := hml0
  have hown : s.vm.findClass "java/lang/String" = some m.cls := findClass_of_methodNamed Bd.named
  have hnm := (name_of_methodNamed Bd.named Bd.method).1
  have X0 : Stand p l e ({ frames := 4, cells := 0, slots := 0, locals := 53 } : Room) s m #[(.ref xs), (.int (Int32.ofNat ii))] below meth c s₁ [] 0 0 := Stand.of_body Bd
  have e0 : s₁.heap = h0 := by rw [← hh, Bd.state]; rfl
  have N0 := Fr.nil n0
  have pre0 : ∀ t, Steps p.tables e below (s₁.setTop (mkF m 0 #[.val (.ref xs), .val (.int (Int32.ofNat ii))] [])) t → Steps p.tables e below (s₁.setTop (entryFrame m #[(.ref xs), (.int (Int32.ofNat ii))] 2)) t := fun t k => castTop (ef_2 m xs (Int32.ofNat ii)) k
  obtain ⟨cq301, kq301, q301a, q301b, q301c⟩ := isOf hZ e0 q8
  obtain ⟨_, _, ⟨T301, L301, k301, n301⟩, -, X301, ⟨Lc301, hQ301, l301, y301, z301⟩, st301⟩ := X0.virtualBack hx (y := (⟨"java/lang/String", "isLatin1", "()Z"⟩ : MethodName)) (z := (⟨"java/lang/String", "isLatin1", "()Z"⟩ : MethodName)) hown (mvT hZ (hw _ (List.mem_of_getElem? (i := 168) rfl))) (mvT hZ (hw _ (List.mem_of_getElem? (i := 169) rfl))) (notFace_of_selects (args := #[]) (mvT hZ (hw _ (List.mem_of_getElem? (i := 171) rfl)))) (mvT hZ (hw _ (List.mem_of_getElem? (i := 171) rfl))) (mvT hZ (hw _ (List.mem_of_getElem? (i := 170) rfl))) (by decide) (backOf (W := 0) (rm_sLatW l Z a0 hw [] xs G h0 n0 Z0 q0 hCS q7 q10) hZ (hw _ (List.mem_of_getElem? (i := 172) rfl)) (hw _ (List.mem_of_getElem? (i := 4) rfl)) (by decide) (by decide)) q301a q301c (g := (mkF m 1 #[.val (.ref xs), .val (.int (Int32.ofNat ii))] [(.ref xs)])) rfl (by rw [hml]; rfl) (Steps.refl _) (argsL := []) (rest := []) (lenOf pd_21 rfl) rfl (by show 2 * 0 + _ ≤ _; exact Nat.le_of_eq rfl) (hb hby d_jdk_42_method_56_code_1) (fun _ _ => ⟨rfl, e0, (by decide : 0 + 0 ≤ _), (by decide : 0 + 0 ≤ _)⟩)
  dsimp only [Pt.U, Pt.locs, Pt.cells, Pt.slots] at X301 l301 y301 z301 st301 hQ301
  replace l301 := l301.symm
  replace y301 := y301.symm
  replace z301 := z301.symm
  subst l301 y301 z301
  obtain ⟨rfl, Nq301, e301⟩ := hQ301
  have N301 := Fr.app N0 Nq301
  obtain ⟨T302, X302, e302, st302⟩ := getF X301 hx hZ hown (host := "") (Or.inl (hw _ (List.mem_of_getElem? (i := 24) rfl))) Via.refl e301 q9 (g := (mkF m 17 #[.val (.ref xs), .val (.int (Int32.ofNat ii))] [(.ref xs)])) rfl rfl (hb hby d_jdk_42_method_56_code_17)
  obtain ⟨_, _, ⟨T303, L303, k303, n303⟩, -, X303, ⟨Lc303, hQ303, l303, y303, z303⟩, st303⟩ := Jvm.LawKit.callS X302 hx (y := (⟨"java/lang/StringUTF16", "charAt", "([BI)C"⟩ : MethodName)) hown (mvT hZ (hw _ (List.mem_of_getElem? (i := 201) rfl))) (mvT hZ (hw _ (List.mem_of_getElem? (i := 202) rfl))) (mvT hZ (hw _ (List.mem_of_getElem? (i := 37) rfl))) (mvT hZ (hw _ (List.mem_of_getElem? (i := 203) rfl))) (by decide) (backOf (W := 0) (rm_uchA l Z a0 hw [] dd ii xc kd n vs fm h0 n0 Z0 q2 hFM q4 q5 q6 q7 q11 hii hcap hlo_ hhi_ hc0 hc1) hZ (hw _ (List.mem_of_getElem? (i := 203) rfl)) (hw _ (List.mem_of_getElem? (i := 37) rfl)) (by decide) (by decide)) (g := (mkF m 21 #[.val (.ref xs), .val (.int (Int32.ofNat ii))] [(.int (Int32.ofNat ii)), (.ref dd)])) rfl (by rw [hml]; rfl) (argsL := [(.ref dd), (.int (Int32.ofNat ii))]) (rest := []) (lenOf pd_5 rfl) rfl (by show 2 * 0 + _ ≤ _; exact Nat.le_of_eq rfl) (hb hby d_jdk_42_method_56_code_21) (fun _ _ => ⟨rfl, e302, (by decide : 0 + 0 ≤ _), (by decide : 0 + 0 ≤ _)⟩)
  dsimp only [Pt.U, Pt.locs, Pt.cells, Pt.slots] at X303 l303 y303 z303 st303 hQ303
  replace l303 := l303.symm
  replace y303 := y303.symm
  replace z303 := z303.symm
  subst l303 y303 z303
  obtain ⟨rfl, Nq303, e303⟩ := hQ303
  have N303 := Fr.app N301 Nq303
  obtain ⟨fs, hr, hrun, hended, hW, hsame⟩ := X303.leave (v := some (.int xc)) (fun h => by rw [Bd.returns] at h; cases h)
  refine ⟨_, _, pre0 _ ?_, hrun, hended, _, _, rfl, ?_, ⟨_, rfl⟩, hW, hsame.mono (by decide) (by decide)⟩
  · refine XS.aloadN X0.here hx rfl (hb hby d_jdk_42_method_56_code_0) rfl rfl ?_
    show Steps p.tables e below (s₁.setTop (mkF m 1 #[.val (.ref xs), .val (.int (Int32.ofNat ii))] [(.ref xs)])) _
    refine st301.trans ?_
    show Steps p.tables e below (T301.setTop (mkF m 4 #[.val (.ref xs), .val (.int (Int32.ofNat ii))] [(.int (0 : Int32))])) _
    refine XS.ifYes X301.here hx rfl (pc0 := 4) (pc' := 16) rfl (hb hby d_jdk_42_method_56_code_4) rfl ((if0 _ _).trans (teq ((by decide) : (0 : Int32) = (0 : Int32))).1) (by decide) (by decide) ?_
    show Steps p.tables e below (T301.setTop (mkF m 16 #[.val (.ref xs), .val (.int (Int32.ofNat ii))] [])) _
    refine XS.aloadN X301.here hx rfl (hb hby d_jdk_42_method_56_code_16) rfl rfl ?_
    show Steps p.tables e below (T301.setTop (mkF m 17 #[.val (.ref xs), .val (.int (Int32.ofNat ii))] [(.ref xs)])) _
    refine st302 _ ?_
    show Steps p.tables e below (T302.setTop (mkF m 20 #[.val (.ref xs), .val (.int (Int32.ofNat ii))] [(.ref dd)])) _
    refine XS.iloadN X302.here hx rfl (hb hby d_jdk_42_method_56_code_20) rfl ?_
    show Steps p.tables e below (T302.setTop (mkF m 21 #[.val (.ref xs), .val (.int (Int32.ofNat ii))] [(.int (Int32.ofNat ii)), (.ref dd)])) _
    refine st303 _ ?_
    show Steps p.tables e below (T303.setTop (mkF m 24 #[.val (.ref xs), .val (.int (Int32.ofNat ii))] [(.int xc)])) _
    exact retN X303 hx (t := .char) Bd.returns (by simp) (hb hby d_jdk_42_method_56_code_24) (by rw [(show nar .char xc = xc from own_nc hc0 hc1)]; exact hr)
  · show Q_chW Z xs ii xc dd kd n vs G fm h0 n0 _ T303.heap _
    rw [e303]
    exact ⟨rfl, N303, rfl⟩
theorem d_method_3_code_0 : decode method_3_code 0 = .ok (.iload_n 3, 1) := by decide +kernel
theorem d_method_3_code_1 : decode method_3_code 1 = .ok (.aload_n 0, 1) := by decide +kernel
theorem d_method_3_code_2 : decode method_3_code 2 = .ok (.invokevirtual 56, 3) := by decide +kernel
theorem pd_22 : parseMethodDescriptor "()I" = some ⟨[], some .int⟩ := by decide +kernel
theorem d_method_3_code_5 : decode method_3_code 5 = .ok (.if_icmp .lt 5, 3) := by decide +kernel
theorem d_method_3_code_8 : decode method_3_code 8 = .ok (.iconst 1, 1) := by decide +kernel
theorem d_method_3_code_9 : decode method_3_code 9 = .ok (.ireturn, 1) := by decide +kernel
theorem d_method_3_code_10 : decode method_3_code 10 = .ok (.iload_n 2, 1) := by decide +kernel
theorem d_method_3_code_11 : decode method_3_code 11 = .ok (.iload_n 3, 1) := by decide +kernel
theorem d_method_3_code_12 : decode method_3_code 12 = .ok (.iadd, 1) := by decide +kernel
theorem d_method_3_code_13 : decode method_3_code 13 = .ok (.iconst 3, 1) := by decide +kernel
theorem d_method_3_code_14 : decode method_3_code 14 = .ok (.if_icmp .ge 20, 3) := by decide +kernel
theorem d_method_3_code_17 : decode method_3_code 17 = .ok (.aload_n 0, 1) := by decide +kernel
theorem d_method_3_code_18 : decode method_3_code 18 = .ok (.iload_n 3, 1) := by decide +kernel
theorem d_method_3_code_19 : decode method_3_code 19 = .ok (.invokevirtual 66, 3) := by decide +kernel
theorem pd_23 : parseMethodDescriptor "(I)C" = some ⟨[.int], some .char⟩ := by decide +kernel
theorem d_method_3_code_22 : decode method_3_code 22 = .ok (.aload_n 1, 1) := by decide +kernel
theorem d_method_3_code_23 : decode method_3_code 23 = .ok (.iload_n 2, 1) := by decide +kernel
theorem d_method_3_code_24 : decode method_3_code 24 = .ok (.iload_n 3, 1) := by decide +kernel
theorem d_method_3_code_25 : decode method_3_code 25 = .ok (.iadd, 1) := by decide +kernel
theorem d_method_3_code_26 : decode method_3_code 26 = .ok (.caload, 1) := by decide +kernel
theorem d_method_3_code_27 : decode method_3_code 27 = .ok (.if_icmp .ne 7, 3) := by decide +kernel
theorem d_method_3_code_30 : decode method_3_code 30 = .ok (.iconst 1, 1) := by decide +kernel
theorem d_method_3_code_31 : decode method_3_code 31 = .ok (.goto 4, 3) := by decide +kernel
theorem d_method_3_code_35 : decode method_3_code 35 = .ok (.ireturn, 1) := by decide +kernel
theorem pn_6 : plainName "com/example/strict_markup/strictmarkup/AttributeSpecifyPinLaw" = true := by first | (simp [plainName, overriddenIn]; done) | decide +kernel
def Q_at (Z : State) (xs : Addr) (pa : Addr) (o : Nat) (ii : Nat) (tt : Addr) (kt : ClassId) (nn : Int32) (vs : List Value) (cd : Int32) (ds : List Int32) (kp : ClassId) (ps : List Int32) (G : Int32) (fm : Value) (h0 : Heap) (n0 : Nat) (v : Option Value) (h : Heap) (L : List Loc) : Prop := (v = some (.int (1 : Int32))) ∧ (Fr n0 L) ∧ (h = h0)
set_option maxRecDepth 65536 in
set_option maxHeartbeats 40000000 in
theorem rm_at (l : Launch) (Z : State) (a0 : Array Value) (hw : ∀ d ∈ tables_1, d.before a0 Z = true) (ws : List Jvm.Cond) (xs : Addr) (pa : Addr) (o : Nat) (ii : Nat) (tt : Addr) (kt : ClassId) (nn : Int32) (vs : List Value) (cd : Int32) (ds : List Int32) (kp : ClassId) (ps : List Int32) (G : Int32) (fm : Value) (h0 : Heap) (n0 : Nat) (Z0 : n0 ≤ h0.size) (q0 : Sta Z Z.heap "java/lang/String" "COMPACT_STRINGS" "Z" (.int G)) (hCS : ¬ (G = (0 : Int32))) (q2 : Sta Z Z.heap "jdk/internal/util/Preconditions" "SIOOBE_FORMATTER" "Ljava/util/function/BiFunction;" fm) (hFM : fm.isRef = true) (q4 : Sta Z Z.heap "java/lang/StringUTF16" "$assertionsDisabled" "Z" (.int (1 : Int32))) (q5 : Sta Z Z.heap "java/lang/StringUTF16" "HI_BYTE_SHIFT" "I" (.int (0 : Int32))) (q6 : Sta Z Z.heap "java/lang/StringUTF16" "LO_BYTE_SHIFT" "I" (.int (8 : Int32))) (q7 : Old Z n0 h0) (q8 : Exa Z h0 xs "java/lang/String") (q9 : Fld Z h0 xs "java/lang/String" "value" "[B" (.ref tt)) (q10 : Fld Z h0 xs "java/lang/String" "coder" "B" (.int cd)) (q11 : Arv Z h0 tt kt .byte nn vs (.int 0)) (hcd1 : StrChars.Road.CodA ds cd nn vs) (hbd1 : ∀ c ∈ ds, ¬ c < 0 ∧ ¬ (65535 : Int32) < c) (hle1 : ds.length ≤ 4000) (q15 : Arv Z h0 pa kp .char (3 : Int32) (ps.map Value.int) (.int (0 : Int32))) (hps : ps.length = 3) (hod : o + ds.length ≤ 3) (hdp : ∀ q, q < ds.length → ds.getD q 0 = ps.getD (o + q) 0) (hii : ii < 3) :
    MetFree l (⟨"com/example/strict_markup/strictmarkup/AttributeSpecifyPinLaw", "at", "(Ljava/lang/String;[CII)Z"⟩ : MethodName) (head1 (Jvm.Cond.code (⟨"com/example/strict_markup/strictmarkup/AttributeSpecifyPinLaw", "at", "(Ljava/lang/String;[CII)Z"⟩ : MethodName) method_3_code 4 (some .boolean) :: ws) ({ frames := 5, cells := 0, slots := 0, locals := 66 } : Room)) (fun a₁ U₁ => a₁ = #[(.ref xs), (.ref pa), (.int (Int32.ofNat o)), (.int (Int32.ofNat ii))] ∧ Z.Warmed39 U₁.vm ∧ U₁.heap = h0) (fun _ _ _ _ _ => True) (fun _ U₁ o₁ U₂ => ∃ v₁ L₁, o₁ = .returned v₁ ∧ Q_at Z xs pa o ii tt kt nn vs cd ds kp ps G fm h0 n0 v₁ U₂.heap L₁ ∧ FrameEnd U₁ o₁ U₂ L₁ ({ frames := 5, cells := 0, slots := 0, locals := 66 } : Room).cells ({ frames := 5, cells := 0, slots := 0, locals := 66 } : Room).slots) := by
  refine MetFree.of_bodySF (plainFor_of_name pn_6) hisR ?_
  intro p e s m args below meth c s₁ Bd hml0 hP hK
  obtain ⟨rfl, hZ, hh⟩ := hP
  have hx := Bd.exec
  have hby := Bd.bytes
  have hml : c.maxLocals = 4 := hml0
  have hown : s.vm.findClass "com/example/strict_markup/strictmarkup/AttributeSpecifyPinLaw" = some m.cls := findClass_of_methodNamed Bd.named
  have hnm := (name_of_methodNamed Bd.named Bd.method).1
  have X0 : Stand p l e ({ frames := 5, cells := 0, slots := 0, locals := 66 } : Room) s m #[(.ref xs), (.ref pa), (.int (Int32.ofNat o)), (.int (Int32.ofNat ii))] below meth c s₁ [] 0 0 := Stand.of_body Bd
  have e0 : s₁.heap = h0 := by rw [← hh, Bd.state]; rfl
  have N0 := Fr.nil n0
  have pre0 : ∀ t, Steps p.tables e below (s₁.setTop (mkF m 0 #[.val (.ref xs), .val (.ref pa), .val (.int (Int32.ofNat o)), .val (.int (Int32.ofNat ii))] [])) t → Steps p.tables e below (s₁.setTop (entryFrame m #[(.ref xs), (.ref pa), (.int (Int32.ofNat o)), (.int (Int32.ofNat ii))] 4)) t := fun t k => castTop (ef_11 m xs pa (Int32.ofNat o) (Int32.ofNat ii)) k
  obtain ⟨cq301, kq301, q301a, q301b, q301c⟩ := isOf hZ e0 q8
  obtain ⟨_, _, ⟨T301, L301, k301, n301⟩, -, X301, ⟨Lc301, hQ301, l301, y301, z301⟩, st301⟩ := X0.virtualBack hx (y := (⟨"java/lang/String", "length", "()I"⟩ : MethodName)) (z := (⟨"java/lang/String", "length", "()I"⟩ : MethodName)) hown (mvT hZ (hw _ (List.mem_of_getElem? (i := 149) rfl))) (mvT hZ (hw _ (List.mem_of_getElem? (i := 150) rfl))) (notFace_of_selects (args := #[]) (mvT hZ (hw _ (List.mem_of_getElem? (i := 152) rfl)))) (mvT hZ (hw _ (List.mem_of_getElem? (i := 152) rfl))) (mvT hZ (hw _ (List.mem_of_getElem? (i := 151) rfl))) (by decide) (StrChars.Road.lenW (W := 1) hZ (own_hw_lenW hw) (kI := 4) (hw _ (List.mem_of_getElem? (i := 12) rfl)) q8 q9 q10 q11 hcd1 hbd1 (q0.ext q7.2) hCS hle1 (by decide) (by decide)) q301a q301c (g := (mkF m 2 #[.val (.ref xs), .val (.ref pa), .val (.int (Int32.ofNat o)), .val (.int (Int32.ofNat ii))] [(.ref xs), (.int (Int32.ofNat ii))])) rfl (by rw [hml]; rfl) (Steps.refl _) (argsL := []) (rest := [(.int (Int32.ofNat ii))]) (lenOf pd_22 rfl) rfl (by show 2 * 0 + _ ≤ _; exact Nat.le_of_eq rfl) (hb hby d_method_3_code_2) (fun _ _ => ⟨rfl, e0, (by decide : 0 + 0 ≤ _), (by decide : 0 + 0 ≤ _)⟩)
  dsimp only [Pt.U, Pt.locs, Pt.cells, Pt.slots] at X301 l301 y301 z301 st301 hQ301
  replace l301 := l301.symm
  replace y301 := y301.symm
  replace z301 := z301.symm
  subst l301 y301 z301
  obtain ⟨rfl, rfl, e301⟩ := hQ301
  have N301 := Fr.app N0 (Fr.nil n0)
  have pre302 : ∀ t, Steps p.tables e below (T301.setTop (mkF m 5 #[.val (.ref xs), .val (.ref pa), .val (.int (Int32.ofNat o)), .val (.int (Int32.ofNat ii))] [(.int (Int32.ofNat (ds).length)), (.int (Int32.ofNat ii))])) t → Steps p.tables e below (s₁.setTop (entryFrame m #[(.ref xs), (.ref pa), (.int (Int32.ofNat o)), (.int (Int32.ofNat ii))] 4)) t := fun t kk => pre0 t (by
    refine XS.iloadN X0.here hx rfl (hb hby d_method_3_code_0) rfl ?_
    show Steps p.tables e below (s₁.setTop (mkF m 1 #[.val (.ref xs), .val (.ref pa), .val (.int (Int32.ofNat o)), .val (.int (Int32.ofNat ii))] [(.int (Int32.ofNat ii))])) _
    refine XS.aloadN X0.here hx rfl (hb hby d_method_3_code_1) rfl rfl ?_
    show Steps p.tables e below (s₁.setTop (mkF m 2 #[.val (.ref xs), .val (.ref pa), .val (.int (Int32.ofNat o)), .val (.int (Int32.ofNat ii))] [(.ref xs), (.int (Int32.ofNat ii))])) _
    refine st301.trans ?_
    show Steps p.tables e below (T301.setTop (mkF m 5 #[.val (.ref xs), .val (.ref pa), .val (.int (Int32.ofNat o)), .val (.int (Int32.ofNat ii))] [(.int (Int32.ofNat (ds).length)), (.int (Int32.ofNat ii))])) _
    exact kk)
  by_cases g : ii < ds.length
  · have pre303 : ∀ t, Steps p.tables e below (T301.setTop (mkF m 19 #[.val (.ref xs), .val (.ref pa), .val (.int (Int32.ofNat o)), .val (.int (Int32.ofNat ii))] [(.int (Int32.ofNat ii)), (.ref xs)])) t → Steps p.tables e below (s₁.setTop (entryFrame m #[(.ref xs), (.ref pa), (.int (Int32.ofNat o)), (.int (Int32.ofNat ii))] 4)) t := fun t kk => pre302 t (by
      refine XS.icmpYes X301.here hx rfl (pc0 := 5) (pc' := 10) rfl (hb hby d_method_3_code_5) rfl (tlt ((own_inb g (by omega)).2 : (Int32.ofNat ii) < (Int32.ofNat (ds).length))).1 (by decide) (by decide) ?_
      show Steps p.tables e below (T301.setTop (mkF m 10 #[.val (.ref xs), .val (.ref pa), .val (.int (Int32.ofNat o)), .val (.int (Int32.ofNat ii))] [])) _
      refine XS.iloadN X301.here hx rfl (hb hby d_method_3_code_10) rfl ?_
      show Steps p.tables e below (T301.setTop (mkF m 11 #[.val (.ref xs), .val (.ref pa), .val (.int (Int32.ofNat o)), .val (.int (Int32.ofNat ii))] [(.int (Int32.ofNat o))])) _
      refine XS.iloadN X301.here hx rfl (hb hby d_method_3_code_11) rfl ?_
      show Steps p.tables e below (T301.setTop (mkF m 12 #[.val (.ref xs), .val (.ref pa), .val (.int (Int32.ofNat o)), .val (.int (Int32.ofNat ii))] [(.int (Int32.ofNat ii)), (.int (Int32.ofNat o))])) _
      refine XS.iadd X301.here hx rfl (hb hby d_method_3_code_12) rfl ?_
      show Steps p.tables e below (T301.setTop (mkF m 13 #[.val (.ref xs), .val (.ref pa), .val (.int (Int32.ofNat o)), .val (.int (Int32.ofNat ii))] [(.int ((Int32.ofNat o) + (Int32.ofNat ii)))])) _
      rw [own_addn]
      show Steps p.tables e below (T301.setTop (mkF m 13 #[.val (.ref xs), .val (.ref pa), .val (.int (Int32.ofNat o)), .val (.int (Int32.ofNat ii))] [(.int (Int32.ofNat (o + ii)))])) _
      refine XS.iconst X301.here hx rfl (hb hby d_method_3_code_13) ?_
      show Steps p.tables e below (T301.setTop (mkF m 14 #[.val (.ref xs), .val (.ref pa), .val (.int (Int32.ofNat o)), .val (.int (Int32.ofNat ii))] [(.int (3 : Int32)), (.int (Int32.ofNat (o + ii)))])) _
      refine XS.icmpNo X301.here hx rfl (hb hby d_method_3_code_14) rfl (tlt ((own_inb (n := 3) (by omega) (by omega)).2 : (Int32.ofNat (o + ii)) < (3 : Int32))).2.1 ?_
      show Steps p.tables e below (T301.setTop (mkF m 17 #[.val (.ref xs), .val (.ref pa), .val (.int (Int32.ofNat o)), .val (.int (Int32.ofNat ii))] [])) _
      refine XS.aloadN X301.here hx rfl (hb hby d_method_3_code_17) rfl rfl ?_
      show Steps p.tables e below (T301.setTop (mkF m 18 #[.val (.ref xs), .val (.ref pa), .val (.int (Int32.ofNat o)), .val (.int (Int32.ofNat ii))] [(.ref xs)])) _
      refine XS.iloadN X301.here hx rfl (hb hby d_method_3_code_18) rfl ?_
      show Steps p.tables e below (T301.setTop (mkF m 19 #[.val (.ref xs), .val (.ref pa), .val (.int (Int32.ofNat o)), .val (.int (Int32.ofNat ii))] [(.int (Int32.ofNat ii)), (.ref xs)])) _
      exact kk)
    rcases hcd1 with ⟨hc1, hc2, hc3, hc4⟩ | ⟨hc1, hc2, hc3, hc4⟩
    · subst hc1
      obtain ⟨cq304, kq304, q304a, q304b, q304c⟩ := isOf hZ e301 q8
      obtain ⟨_, _, ⟨T304, L304, k304, n304⟩, -, X304, ⟨Lc304, hQ304, l304, y304, z304⟩, st304⟩ := X301.virtualBack hx (y := (⟨"java/lang/String", "charAt", "(I)C"⟩ : MethodName)) (z := (⟨"java/lang/String", "charAt", "(I)C"⟩ : MethodName)) hown (mvT hZ (hw _ (List.mem_of_getElem? (i := 163) rfl))) (mvT hZ (hw _ (List.mem_of_getElem? (i := 164) rfl))) (notFace_of_selects (args := #[]) (mvT hZ (hw _ (List.mem_of_getElem? (i := 166) rfl)))) (mvT hZ (hw _ (List.mem_of_getElem? (i := 166) rfl))) (mvT hZ (hw _ (List.mem_of_getElem? (i := 165) rfl))) (by decide) (StrChars.Road.chN (W := 0) hZ (own_hw_chN hw) (kI := 4) (hw _ (List.mem_of_getElem? (i := 12) rfl)) q8 q9 q10 q11 (Or.inl ⟨rfl, hc2, hc3, hc4⟩) hbd1 (q0.ext q7.2) hCS (q2.ext q7.2) hFM hle1 (i := ii) g (j := (Int32.ofNat ii)) rfl (by decide) (by decide)) q304a q304c (g := (mkF m 19 #[.val (.ref xs), .val (.ref pa), .val (.int (Int32.ofNat o)), .val (.int (Int32.ofNat ii))] [(.int (Int32.ofNat ii)), (.ref xs)])) rfl (by rw [hml]; rfl) (Steps.refl _) (argsL := [(.int (Int32.ofNat ii))]) (rest := []) (lenOf pd_23 rfl) rfl (by show 2 * 0 + _ ≤ _; exact Nat.le_of_eq rfl) (hb hby d_method_3_code_19) (fun _ _ => ⟨rfl, e301, (by decide : 0 + 0 ≤ _), (by decide : 0 + 0 ≤ _)⟩)
      dsimp only [Pt.U, Pt.locs, Pt.cells, Pt.slots] at X304 l304 y304 z304 st304 hQ304
      replace l304 := l304.symm
      replace y304 := y304.symm
      replace z304 := z304.symm
      subst l304 y304 z304
      obtain ⟨rfl, rfl, e304⟩ := hQ304
      have N304 := Fr.app N301 (Fr.nil n0)
      obtain ⟨cl305, Ar305, qq305, S305, M305, Hh305, U305⟩ := id q15
      have ib305 : ¬ ((Int32.ofNat (o + ii)) < 0 ∨ cl305.slots.size ≤ ((Int32.ofNat (o + ii))).toNatClampNeg) := inb_of S305 (own_inb (n := 3) (by omega) (by omega))
      obtain ⟨fs, hr, hrun, hended, hW, hsame⟩ := X304.leave (v := some (.int (1 : Int32))) (fun h => by rw [Bd.returns] at h; cases h)
      refine ⟨_, _, pre303 _ ?_, hrun, hended, _, _, rfl, ?_, ⟨_, rfl⟩, hW, hsame.mono (by decide) (by decide)⟩
      · refine st304.trans ?_
        show Steps p.tables e below (T304.setTop (mkF m 22 #[.val (.ref xs), .val (.ref pa), .val (.int (Int32.ofNat o)), .val (.int (Int32.ofNat ii))] [(.int ((ds).getD ii 0))])) _
        refine XS.aloadN X304.here hx rfl (hb hby d_method_3_code_22) rfl rfl ?_
        show Steps p.tables e below (T304.setTop (mkF m 23 #[.val (.ref xs), .val (.ref pa), .val (.int (Int32.ofNat o)), .val (.int (Int32.ofNat ii))] [(.ref pa), (.int ((ds).getD ii 0))])) _
        refine XS.iloadN X304.here hx rfl (hb hby d_method_3_code_23) rfl ?_
        show Steps p.tables e below (T304.setTop (mkF m 24 #[.val (.ref xs), .val (.ref pa), .val (.int (Int32.ofNat o)), .val (.int (Int32.ofNat ii))] [(.int (Int32.ofNat o)), (.ref pa), (.int ((ds).getD ii 0))])) _
        refine XS.iloadN X304.here hx rfl (hb hby d_method_3_code_24) rfl ?_
        show Steps p.tables e below (T304.setTop (mkF m 25 #[.val (.ref xs), .val (.ref pa), .val (.int (Int32.ofNat o)), .val (.int (Int32.ofNat ii))] [(.int (Int32.ofNat ii)), (.int (Int32.ofNat o)), (.ref pa), (.int ((ds).getD ii 0))])) _
        refine XS.iadd X304.here hx rfl (hb hby d_method_3_code_25) rfl ?_
        show Steps p.tables e below (T304.setTop (mkF m 26 #[.val (.ref xs), .val (.ref pa), .val (.int (Int32.ofNat o)), .val (.int (Int32.ofNat ii))] [(.int ((Int32.ofNat o) + (Int32.ofNat ii))), (.ref pa), (.int ((ds).getD ii 0))])) _
        rw [own_addn]
        show Steps p.tables e below (T304.setTop (mkF m 26 #[.val (.ref xs), .val (.ref pa), .val (.int (Int32.ofNat o)), .val (.int (Int32.ofNat ii))] [(.int (Int32.ofNat (o + ii))), (.ref pa), (.int ((ds).getD ii 0))])) _
        refine X304.caload hx (j := (Int32.ofNat (o + ii))) (v := (.int (ps.getD (o + ii) 0))) (by rw [e304]; exact Ar305.1) (State.isArrayOf_alike hZ.alike Ar305.2.1) Ar305.2.2 ib305 (Hh305.at ib305 (own_mapat (by omega) (by omega))) (g := (mkF m 26 #[.val (.ref xs), .val (.ref pa), .val (.int (Int32.ofNat o)), .val (.int (Int32.ofNat ii))] [(.int (Int32.ofNat (o + ii))), (.ref pa), (.int ((ds).getD ii 0))])) rfl rfl (hb hby d_method_3_code_26) _ ?_
        show Steps p.tables e below (T304.setTop (mkF m 27 #[.val (.ref xs), .val (.ref pa), .val (.int (Int32.ofNat o)), .val (.int (Int32.ofNat ii))] [(.int (ps.getD (o + ii) 0)), (.int ((ds).getD ii 0))])) _
        refine XS.icmpNo X304.here hx rfl (hb hby d_method_3_code_27) rfl (teq ((hdp ii g) : ((ds).getD ii 0) = (ps.getD (o + ii) 0))).2 ?_
        show Steps p.tables e below (T304.setTop (mkF m 30 #[.val (.ref xs), .val (.ref pa), .val (.int (Int32.ofNat o)), .val (.int (Int32.ofNat ii))] [])) _
        refine XS.iconst X304.here hx rfl (hb hby d_method_3_code_30) ?_
        show Steps p.tables e below (T304.setTop (mkF m 31 #[.val (.ref xs), .val (.ref pa), .val (.int (Int32.ofNat o)), .val (.int (Int32.ofNat ii))] [(.int (1 : Int32))])) _
        refine XS.goto X304.here hx rfl (pc0 := 31) (pc' := 35) rfl (hb hby d_method_3_code_31) (by decide) (by decide) ?_
        show Steps p.tables e below (T304.setTop (mkF m 35 #[.val (.ref xs), .val (.ref pa), .val (.int (Int32.ofNat o)), .val (.int (Int32.ofNat ii))] [(.int (1 : Int32))])) _
        exact retN X304 hx (t := .boolean) Bd.returns (by simp) (hb hby d_method_3_code_35) hr
      · show Q_at Z xs pa o ii tt kt nn vs (0 : Int32) ds kp ps G fm h0 n0 _ T304.heap _
        rw [e304]
        exact ⟨rfl, N304, rfl⟩
    · subst hc1
      subst hc2
      subst hc3
      have hbi := hbd1 _ (own_getmem g)
      obtain ⟨cq306, kq306, q306a, q306b, q306c⟩ := isOf hZ e301 q8
      obtain ⟨_, _, ⟨T306, L306, k306, n306⟩, -, X306, ⟨Lc306, hQ306, l306, y306, z306⟩, st306⟩ := X301.virtualBack hx (y := (⟨"java/lang/String", "charAt", "(I)C"⟩ : MethodName)) (z := (⟨"java/lang/String", "charAt", "(I)C"⟩ : MethodName)) hown (mvT hZ (hw _ (List.mem_of_getElem? (i := 163) rfl))) (mvT hZ (hw _ (List.mem_of_getElem? (i := 164) rfl))) (notFace_of_selects (args := #[]) (mvT hZ (hw _ (List.mem_of_getElem? (i := 166) rfl)))) (mvT hZ (hw _ (List.mem_of_getElem? (i := 166) rfl))) (mvT hZ (hw _ (List.mem_of_getElem? (i := 165) rfl))) (by decide) (backOf (W := 0) (rm_chW l Z a0 hw [] xs ii (ds.getD ii 0) tt kt ds.length (StrChars.Road.wideBytes ds) G fm h0 n0 Z0 q0 hCS q2 hFM q4 q5 q6 q7 q8 q9 q10 q11 (g) (hle1) (StrChars.Road.wide_lo _ _ _ g) (StrChars.Road.wide_hi _ _ _ g) (hbi.1) (hbi.2)) hZ (hw _ (List.mem_of_getElem? (i := 167) rfl)) (hw _ (List.mem_of_getElem? (i := 4) rfl)) (by decide) (by decide)) q306a q306c (g := (mkF m 19 #[.val (.ref xs), .val (.ref pa), .val (.int (Int32.ofNat o)), .val (.int (Int32.ofNat ii))] [(.int (Int32.ofNat ii)), (.ref xs)])) rfl (by rw [hml]; rfl) (Steps.refl _) (argsL := [(.int (Int32.ofNat ii))]) (rest := []) (lenOf pd_23 rfl) rfl (by show 2 * 0 + _ ≤ _; exact Nat.le_of_eq rfl) (hb hby d_method_3_code_19) (fun _ _ => ⟨rfl, e301, (by decide : 0 + 0 ≤ _), (by decide : 0 + 0 ≤ _)⟩)
      dsimp only [Pt.U, Pt.locs, Pt.cells, Pt.slots] at X306 l306 y306 z306 st306 hQ306
      replace l306 := l306.symm
      replace y306 := y306.symm
      replace z306 := z306.symm
      subst l306 y306 z306
      obtain ⟨rfl, Nq306, e306⟩ := hQ306
      have N306 := Fr.app N301 Nq306
      obtain ⟨cl307, Ar307, qq307, S307, M307, Hh307, U307⟩ := id q15
      have ib307 : ¬ ((Int32.ofNat (o + ii)) < 0 ∨ cl307.slots.size ≤ ((Int32.ofNat (o + ii))).toNatClampNeg) := inb_of S307 (own_inb (n := 3) (by omega) (by omega))
      obtain ⟨fs, hr, hrun, hended, hW, hsame⟩ := X306.leave (v := some (.int (1 : Int32))) (fun h => by rw [Bd.returns] at h; cases h)
      refine ⟨_, _, pre303 _ ?_, hrun, hended, _, _, rfl, ?_, ⟨_, rfl⟩, hW, hsame.mono (by decide) (by decide)⟩
      · refine st306.trans ?_
        show Steps p.tables e below (T306.setTop (mkF m 22 #[.val (.ref xs), .val (.ref pa), .val (.int (Int32.ofNat o)), .val (.int (Int32.ofNat ii))] [(.int (ds.getD ii 0))])) _
        refine XS.aloadN X306.here hx rfl (hb hby d_method_3_code_22) rfl rfl ?_
        show Steps p.tables e below (T306.setTop (mkF m 23 #[.val (.ref xs), .val (.ref pa), .val (.int (Int32.ofNat o)), .val (.int (Int32.ofNat ii))] [(.ref pa), (.int (ds.getD ii 0))])) _
        refine XS.iloadN X306.here hx rfl (hb hby d_method_3_code_23) rfl ?_
        show Steps p.tables e below (T306.setTop (mkF m 24 #[.val (.ref xs), .val (.ref pa), .val (.int (Int32.ofNat o)), .val (.int (Int32.ofNat ii))] [(.int (Int32.ofNat o)), (.ref pa), (.int (ds.getD ii 0))])) _
        refine XS.iloadN X306.here hx rfl (hb hby d_method_3_code_24) rfl ?_
        show Steps p.tables e below (T306.setTop (mkF m 25 #[.val (.ref xs), .val (.ref pa), .val (.int (Int32.ofNat o)), .val (.int (Int32.ofNat ii))] [(.int (Int32.ofNat ii)), (.int (Int32.ofNat o)), (.ref pa), (.int (ds.getD ii 0))])) _
        refine XS.iadd X306.here hx rfl (hb hby d_method_3_code_25) rfl ?_
        show Steps p.tables e below (T306.setTop (mkF m 26 #[.val (.ref xs), .val (.ref pa), .val (.int (Int32.ofNat o)), .val (.int (Int32.ofNat ii))] [(.int ((Int32.ofNat o) + (Int32.ofNat ii))), (.ref pa), (.int (ds.getD ii 0))])) _
        rw [own_addn]
        show Steps p.tables e below (T306.setTop (mkF m 26 #[.val (.ref xs), .val (.ref pa), .val (.int (Int32.ofNat o)), .val (.int (Int32.ofNat ii))] [(.int (Int32.ofNat (o + ii))), (.ref pa), (.int (ds.getD ii 0))])) _
        refine X306.caload hx (j := (Int32.ofNat (o + ii))) (v := (.int (ps.getD (o + ii) 0))) (by rw [e306]; exact Ar307.1) (State.isArrayOf_alike hZ.alike Ar307.2.1) Ar307.2.2 ib307 (Hh307.at ib307 (own_mapat (by omega) (by omega))) (g := (mkF m 26 #[.val (.ref xs), .val (.ref pa), .val (.int (Int32.ofNat o)), .val (.int (Int32.ofNat ii))] [(.int (Int32.ofNat (o + ii))), (.ref pa), (.int (ds.getD ii 0))])) rfl rfl (hb hby d_method_3_code_26) _ ?_
        show Steps p.tables e below (T306.setTop (mkF m 27 #[.val (.ref xs), .val (.ref pa), .val (.int (Int32.ofNat o)), .val (.int (Int32.ofNat ii))] [(.int (ps.getD (o + ii) 0)), (.int (ds.getD ii 0))])) _
        refine XS.icmpNo X306.here hx rfl (hb hby d_method_3_code_27) rfl (teq ((hdp ii g) : (ds.getD ii 0) = (ps.getD (o + ii) 0))).2 ?_
        show Steps p.tables e below (T306.setTop (mkF m 30 #[.val (.ref xs), .val (.ref pa), .val (.int (Int32.ofNat o)), .val (.int (Int32.ofNat ii))] [])) _
        refine XS.iconst X306.here hx rfl (hb hby d_method_3_code_30) ?_
        show Steps p.tables e below (T306.setTop (mkF m 31 #[.val (.ref xs), .val (.ref pa), .val (.int (Int32.ofNat o)), .val (.int (Int32.ofNat ii))] [(.int (1 : Int32))])) _
        refine XS.goto X306.here hx rfl (pc0 := 31) (pc' := 35) rfl (hb hby d_method_3_code_31) (by decide) (by decide) ?_
        show Steps p.tables e below (T306.setTop (mkF m 35 #[.val (.ref xs), .val (.ref pa), .val (.int (Int32.ofNat o)), .val (.int (Int32.ofNat ii))] [(.int (1 : Int32))])) _
        exact retN X306 hx (t := .boolean) Bd.returns (by simp) (hb hby d_method_3_code_35) hr
      · show Q_at Z xs pa o ii tt kt (Int32.ofNat (2 * ds.length)) (StrChars.Road.wideBytes ds) (1 : Int32) ds kp ps G fm h0 n0 _ T306.heap _
        rw [e306]
        exact ⟨rfl, N306, rfl⟩
  · obtain ⟨fs, hr, hrun, hended, hW, hsame⟩ := X301.leave (v := some (.int (1 : Int32))) (fun h => by rw [Bd.returns] at h; cases h)
    refine ⟨_, _, pre302 _ ?_, hrun, hended, _, _, rfl, ?_, ⟨_, rfl⟩, hW, hsame.mono (by decide) (by decide)⟩
    · refine XS.icmpNo X301.here hx rfl (hb hby d_method_3_code_5) rfl (flt ((own_nlt (by omega) (by omega)) : ¬ ((Int32.ofNat ii) < (Int32.ofNat (ds).length)))).1 ?_
      show Steps p.tables e below (T301.setTop (mkF m 8 #[.val (.ref xs), .val (.ref pa), .val (.int (Int32.ofNat o)), .val (.int (Int32.ofNat ii))] [])) _
      refine XS.iconst X301.here hx rfl (hb hby d_method_3_code_8) ?_
      show Steps p.tables e below (T301.setTop (mkF m 9 #[.val (.ref xs), .val (.ref pa), .val (.int (Int32.ofNat o)), .val (.int (Int32.ofNat ii))] [(.int (1 : Int32))])) _
      exact retN X301 hx (t := .boolean) Bd.returns (by simp) (hb hby d_method_3_code_9) hr
    · show Q_at Z xs pa o ii tt kt nn vs cd ds kp ps G fm h0 n0 _ T301.heap _
      rw [e301]
      exact ⟨rfl, N301, rfl⟩
theorem pd_24 : parseMethodDescriptor "(C)Ljava/lang/String;" = some ⟨[.char], some (.object "java/lang/String")⟩ := by decide +kernel
theorem pd_25 : parseMethodDescriptor "([C)V" = some ⟨[(.array .char)], none⟩ := by decide +kernel
theorem pd_26 : parseMethodDescriptor "()V" = some ⟨[], none⟩ := by decide +kernel
theorem pd_27 : parseMethodDescriptor "(C)V" = some ⟨[.char], none⟩ := by decide +kernel
theorem pd_28 : parseMethodDescriptor "(Ljava/lang/String;Ljava/lang/String;Ljava/lang/String;)V" = some ⟨[(.object "java/lang/String"), (.object "java/lang/String"), (.object "java/lang/String")], none⟩ := by decide +kernel
theorem pd_29 : parseMethodDescriptor "()Ljava/lang/String;" = some ⟨[], some (.object "java/lang/String")⟩ := by decide +kernel
theorem pd_30 : parseMethodDescriptor "(Ljava/lang/Object;)Z" = some ⟨[(.object "java/lang/Object")], some .boolean⟩ := by decide +kernel
theorem pd_31 : parseMethodDescriptor "(Ljava/lang/String;[CII)Z" = some ⟨[(.object "java/lang/String"), (.array .char), .int, .int], some .boolean⟩ := by decide +kernel
theorem ef_20 (m : MethodId) (x0 : Int32) (x1 : Int32) (x2 : Int32) (x3 : Int32) : entryFrame m #[(.int x0), (.int x1), (.int x2), (.int x3)] maxLocals = mkF m 0 #[.val (.int x0), .val (.int x1), .val (.int x2), .val (.int x3), .unset, .unset, .unset, .unset, .unset, .unset, .unset, .unset, .unset, .unset, .unset, .unset, .unset] [] := by first | (simp [entryFrame, mkF, argsToLocals, Value.category, maxLocals]; done) | rfl
def Q_law (Z : State) (i0 : Int32) (i1 : Int32) (i2 : Int32) (i3 : Int32) (G : Int32) (fm : Value) (h0 : Heap) (n0 : Nat) (v : Option Value) (h : Heap) (L : List Loc) : Prop := (v = some (.int (1 : Int32))) ∧ (Fr n0 L)
set_option maxRecDepth 65536 in
set_option maxHeartbeats 40000000 in
theorem rm_law (l : Launch) (Z : State) (a0 : Array Value) (hw : ∀ d ∈ tables_1, d.before a0 Z = true) (ws : List Jvm.Cond) (i0 : Int32) (i1 : Int32) (i2 : Int32) (i3 : Int32) (G : Int32) (fm : Value) (h0 : Heap) (n0 : Nat) (Z0 : n0 ≤ h0.size) (q0 : Sta Z Z.heap "java/lang/String" "COMPACT_STRINGS" "Z" (.int G)) (hCS : ¬ (G = (0 : Int32))) (q2 : Sta Z Z.heap "jdk/internal/util/Preconditions" "SIOOBE_FORMATTER" "Ljava/util/function/BiFunction;" fm) (hFM : fm.isRef = true) (q4 : Sta Z Z.heap "java/lang/StringUTF16" "$assertionsDisabled" "Z" (.int (1 : Int32))) (q5 : Sta Z Z.heap "java/lang/StringUTF16" "HI_BYTE_SHIFT" "I" (.int (0 : Int32))) (q6 : Sta Z Z.heap "java/lang/StringUTF16" "LO_BYTE_SHIFT" "I" (.int (8 : Int32))) (q7 : Old Z n0 h0) :
    MetFree l x (head1 (Jvm.Cond.code x code maxLocals ret :: ws) room_1) (fun a₁ U₁ => a₁ = #[(.int i0), (.int i1), (.int i2), (.int i3)] ∧ Z.Warmed39 U₁.vm ∧ U₁.heap = h0 ∧ CHv Z [("java/lang/String", 7)] U₁.vm h0) (fun _ _ _ _ _ => True) (fun _ U₁ o₁ U₂ => ∃ v₁ L₁, o₁ = .returned v₁ ∧ Q_law Z i0 i1 i2 i3 G fm h0 n0 v₁ U₂.heap L₁ ∧ ReturnedEndW U₁ o₁ U₂ L₁ room_1.cells room_1.slots) := by
  refine MetFree.of_bodySF (plainFor_of_name pn_6) hisR ?_
  intro p e s m args below meth c s₁ Bd hml0 hP hK
  obtain ⟨rfl, hZ, hh, CH0⟩ := hP
  have hx := Bd.exec
  have hby := Bd.bytes
  have hml : c.maxLocals = 17 := hml0
  have hown : s.vm.findClass "com/example/strict_markup/strictmarkup/AttributeSpecifyPinLaw" = some m.cls := findClass_of_methodNamed Bd.named
  have hnm := (name_of_methodNamed Bd.named Bd.method).1
  have X0 : Stand p l e room_1 (s.setVm s.vm) m #[(.int i0), (.int i1), (.int i2), (.int i3)] below meth c s₁ [] 0 0 := Stand.of_body Bd
  have e0 : s₁.heap = h0 := by rw [← hh, Bd.state]; rfl
  have N0 := Fr.nil n0
  have hZ0 : Z.Warmed39 (s.setVm s.vm).vm := hZ
  have hown0 : (s.setVm s.vm).vm.findClass "com/example/strict_markup/strictmarkup/AttributeSpecifyPinLaw" = some m.cls := hown
  have hS0 : s.Since s.vm h0.size := (State.WarmedH.refl s).since _
  have hk0 : h0.size ≤ h0.size := Nat.le_refl _
  have CR0 : CHr Z [("java/lang/String", 7)] s.vm h0 s.vm h0 := CHr.refl CH0
  have pre0 : ∀ t, Steps p.tables e below (s₁.setTop (mkF m 0 #[.val (.int i0), .val (.int i1), .val (.int i2), .val (.int i3), .unset, .unset, .unset, .unset, .unset, .unset, .unset, .unset, .unset, .unset, .unset, .unset, .unset] [])) t → Steps p.tables e below (s₁.setTop (entryFrame m #[(.int i0), (.int i1), (.int i2), (.int i3)] maxLocals)) t := fun t k => castTop (ef_20 m i0 i1 i2 i3) k
  have pre301 : ∀ t, Steps p.tables e below (s₁.setTop (mkF m 7 #[.val (.int i0), .val (.int i1), .val (.int i2), .val (.int i3), .val (.int ((i0 &&& (65535 : Int32)).toUInt32.toUInt16.toUInt32.toInt32)), .unset, .unset, .unset, .unset, .unset, .unset, .unset, .unset, .unset, .unset, .unset, .unset] [])) t → Steps p.tables e below (s₁.setTop (entryFrame m #[(.int i0), (.int i1), (.int i2), (.int i3)] maxLocals)) t := fun t kk => pre0 t (by
    refine XS.iloadN X0.here hx rfl (hb hby at_0) rfl ?_
    show Steps p.tables e below (s₁.setTop (mkF m 1 #[.val (.int i0), .val (.int i1), .val (.int i2), .val (.int i3), .unset, .unset, .unset, .unset, .unset, .unset, .unset, .unset, .unset, .unset, .unset, .unset, .unset] [(.int i0)])) _
    refine X0.ldcInt hx hown0 (mvT hZ0 (hw _ (List.mem_of_getElem? (i := 0) rfl))) (g := (mkF m 1 #[.val (.int i0), .val (.int i1), .val (.int i2), .val (.int i3), .unset, .unset, .unset, .unset, .unset, .unset, .unset, .unset, .unset, .unset, .unset, .unset, .unset] [(.int i0)])) rfl (hb hby at_1) _ ?_
    show Steps p.tables e below (s₁.setTop (mkF m 3 #[.val (.int i0), .val (.int i1), .val (.int i2), .val (.int i3), .unset, .unset, .unset, .unset, .unset, .unset, .unset, .unset, .unset, .unset, .unset, .unset, .unset] [(.int (65535 : Int32)), (.int i0)])) _
    refine XS.iand X0.here hx rfl (hb hby at_3) rfl ?_
    show Steps p.tables e below (s₁.setTop (mkF m 4 #[.val (.int i0), .val (.int i1), .val (.int i2), .val (.int i3), .unset, .unset, .unset, .unset, .unset, .unset, .unset, .unset, .unset, .unset, .unset, .unset, .unset] [(.int (i0 &&& (65535 : Int32)))])) _
    refine XS.i2c X0.here hx rfl (hb hby at_4) rfl ?_
    show Steps p.tables e below (s₁.setTop (mkF m 5 #[.val (.int i0), .val (.int i1), .val (.int i2), .val (.int i3), .unset, .unset, .unset, .unset, .unset, .unset, .unset, .unset, .unset, .unset, .unset, .unset, .unset] [(.int ((i0 &&& (65535 : Int32)).toUInt32.toUInt16.toUInt32.toInt32))])) _
    refine XS.istore X0.here hx rfl (hb hby at_5) rfl (l' := #[.val (.int i0), .val (.int i1), .val (.int i2), .val (.int i3), .val (.int ((i0 &&& (65535 : Int32)).toUInt32.toUInt16.toUInt32.toInt32)), .unset, .unset, .unset, .unset, .unset, .unset, .unset, .unset, .unset, .unset, .unset, .unset]) rfl ?_
    show Steps p.tables e below (s₁.setTop (mkF m 7 #[.val (.int i0), .val (.int i1), .val (.int i2), .val (.int i3), .val (.int ((i0 &&& (65535 : Int32)).toUInt32.toUInt16.toUInt32.toInt32)), .unset, .unset, .unset, .unset, .unset, .unset, .unset, .unset, .unset, .unset, .unset, .unset] [])) _
    exact kk)
  obtain ⟨ch0, h_ch0⟩ : ∃ z, z = ((i0 &&& (65535 : Int32)).toUInt32.toUInt16.toUInt32.toInt32) := ⟨_, rfl⟩
  rw [← h_ch0] at pre301
  have hw0 : own_W ch0 := by rw [h_ch0]; exact own_i2c _
  have pre302 : ∀ t, Steps p.tables e below (s₁.setTop (mkF m 14 #[.val (.int i0), .val (.int i1), .val (.int i2), .val (.int i3), .val (.int ch0), .val (.int (((i0.toUInt32 >>> ((16 : Int32) &&& 31).toUInt32).toInt32).toUInt32.toUInt16.toUInt32.toInt32)), .unset, .unset, .unset, .unset, .unset, .unset, .unset, .unset, .unset, .unset, .unset] [])) t → Steps p.tables e below (s₁.setTop (entryFrame m #[(.int i0), (.int i1), (.int i2), (.int i3)] maxLocals)) t := fun t kk => pre301 t (by
    refine XS.iloadN X0.here hx rfl (hb hby at_7) rfl ?_
    show Steps p.tables e below (s₁.setTop (mkF m 8 #[.val (.int i0), .val (.int i1), .val (.int i2), .val (.int i3), .val (.int ch0), .unset, .unset, .unset, .unset, .unset, .unset, .unset, .unset, .unset, .unset, .unset, .unset] [(.int i0)])) _
    refine XS.bipush X0.here hx rfl (hb hby at_8) ?_
    show Steps p.tables e below (s₁.setTop (mkF m 10 #[.val (.int i0), .val (.int i1), .val (.int i2), .val (.int i3), .val (.int ch0), .unset, .unset, .unset, .unset, .unset, .unset, .unset, .unset, .unset, .unset, .unset, .unset] [(.int (16 : Int32)), (.int i0)])) _
    refine XS.iushr X0.here hx rfl (hb hby at_10) rfl ?_
    show Steps p.tables e below (s₁.setTop (mkF m 11 #[.val (.int i0), .val (.int i1), .val (.int i2), .val (.int i3), .val (.int ch0), .unset, .unset, .unset, .unset, .unset, .unset, .unset, .unset, .unset, .unset, .unset, .unset] [(.int ((i0.toUInt32 >>> ((16 : Int32) &&& 31).toUInt32).toInt32))])) _
    refine XS.i2c X0.here hx rfl (hb hby at_11) rfl ?_
    show Steps p.tables e below (s₁.setTop (mkF m 12 #[.val (.int i0), .val (.int i1), .val (.int i2), .val (.int i3), .val (.int ch0), .unset, .unset, .unset, .unset, .unset, .unset, .unset, .unset, .unset, .unset, .unset, .unset] [(.int (((i0.toUInt32 >>> ((16 : Int32) &&& 31).toUInt32).toInt32).toUInt32.toUInt16.toUInt32.toInt32))])) _
    refine XS.istore X0.here hx rfl (hb hby at_12) rfl (l' := #[.val (.int i0), .val (.int i1), .val (.int i2), .val (.int i3), .val (.int ch0), .val (.int (((i0.toUInt32 >>> ((16 : Int32) &&& 31).toUInt32).toInt32).toUInt32.toUInt16.toUInt32.toInt32)), .unset, .unset, .unset, .unset, .unset, .unset, .unset, .unset, .unset, .unset, .unset]) rfl ?_
    show Steps p.tables e below (s₁.setTop (mkF m 14 #[.val (.int i0), .val (.int i1), .val (.int i2), .val (.int i3), .val (.int ch0), .val (.int (((i0.toUInt32 >>> ((16 : Int32) &&& 31).toUInt32).toInt32).toUInt32.toUInt16.toUInt32.toInt32)), .unset, .unset, .unset, .unset, .unset, .unset, .unset, .unset, .unset, .unset, .unset] [])) _
    exact kk)
  obtain ⟨ch1, h_ch1⟩ : ∃ z, z = (((i0.toUInt32 >>> ((16 : Int32) &&& 31).toUInt32).toInt32).toUInt32.toUInt16.toUInt32.toInt32) := ⟨_, rfl⟩
  rw [← h_ch1] at pre302
  have hw1 : own_W ch1 := by rw [h_ch1]; exact own_i2c _
  have pre303 : ∀ t, Steps p.tables e below (s₁.setTop (mkF m 21 #[.val (.int i0), .val (.int i1), .val (.int i2), .val (.int i3), .val (.int ch0), .val (.int ch1), .val (.int ((i1 &&& (65535 : Int32)).toUInt32.toUInt16.toUInt32.toInt32)), .unset, .unset, .unset, .unset, .unset, .unset, .unset, .unset, .unset, .unset] [])) t → Steps p.tables e below (s₁.setTop (entryFrame m #[(.int i0), (.int i1), (.int i2), (.int i3)] maxLocals)) t := fun t kk => pre302 t (by
    refine XS.iloadN X0.here hx rfl (hb hby at_14) rfl ?_
    show Steps p.tables e below (s₁.setTop (mkF m 15 #[.val (.int i0), .val (.int i1), .val (.int i2), .val (.int i3), .val (.int ch0), .val (.int ch1), .unset, .unset, .unset, .unset, .unset, .unset, .unset, .unset, .unset, .unset, .unset] [(.int i1)])) _
    refine X0.ldcInt hx hown0 (mvT hZ0 (hw _ (List.mem_of_getElem? (i := 0) rfl))) (g := (mkF m 15 #[.val (.int i0), .val (.int i1), .val (.int i2), .val (.int i3), .val (.int ch0), .val (.int ch1), .unset, .unset, .unset, .unset, .unset, .unset, .unset, .unset, .unset, .unset, .unset] [(.int i1)])) rfl (hb hby at_15) _ ?_
    show Steps p.tables e below (s₁.setTop (mkF m 17 #[.val (.int i0), .val (.int i1), .val (.int i2), .val (.int i3), .val (.int ch0), .val (.int ch1), .unset, .unset, .unset, .unset, .unset, .unset, .unset, .unset, .unset, .unset, .unset] [(.int (65535 : Int32)), (.int i1)])) _
    refine XS.iand X0.here hx rfl (hb hby at_17) rfl ?_
    show Steps p.tables e below (s₁.setTop (mkF m 18 #[.val (.int i0), .val (.int i1), .val (.int i2), .val (.int i3), .val (.int ch0), .val (.int ch1), .unset, .unset, .unset, .unset, .unset, .unset, .unset, .unset, .unset, .unset, .unset] [(.int (i1 &&& (65535 : Int32)))])) _
    refine XS.i2c X0.here hx rfl (hb hby at_18) rfl ?_
    show Steps p.tables e below (s₁.setTop (mkF m 19 #[.val (.int i0), .val (.int i1), .val (.int i2), .val (.int i3), .val (.int ch0), .val (.int ch1), .unset, .unset, .unset, .unset, .unset, .unset, .unset, .unset, .unset, .unset, .unset] [(.int ((i1 &&& (65535 : Int32)).toUInt32.toUInt16.toUInt32.toInt32))])) _
    refine XS.istore X0.here hx rfl (hb hby at_19) rfl (l' := #[.val (.int i0), .val (.int i1), .val (.int i2), .val (.int i3), .val (.int ch0), .val (.int ch1), .val (.int ((i1 &&& (65535 : Int32)).toUInt32.toUInt16.toUInt32.toInt32)), .unset, .unset, .unset, .unset, .unset, .unset, .unset, .unset, .unset, .unset]) rfl ?_
    show Steps p.tables e below (s₁.setTop (mkF m 21 #[.val (.int i0), .val (.int i1), .val (.int i2), .val (.int i3), .val (.int ch0), .val (.int ch1), .val (.int ((i1 &&& (65535 : Int32)).toUInt32.toUInt16.toUInt32.toInt32)), .unset, .unset, .unset, .unset, .unset, .unset, .unset, .unset, .unset, .unset] [])) _
    exact kk)
  obtain ⟨ch2, h_ch2⟩ : ∃ z, z = ((i1 &&& (65535 : Int32)).toUInt32.toUInt16.toUInt32.toInt32) := ⟨_, rfl⟩
  rw [← h_ch2] at pre303
  have hw2 : own_W ch2 := by rw [h_ch2]; exact own_i2c _
  obtain ⟨T304, h304, ky304, X304, e304, E304, A304, st304⟩ := newP X0 hx hZ0 (hw _ (List.mem_of_getElem? (i := 1) rfl)) e0 (g := (mkF m 22 #[.val (.int i0), .val (.int i1), .val (.int i2), .val (.int i3), .val (.int ch0), .val (.int ch1), .val (.int ch2), .unset, .unset, .unset, .unset, .unset, .unset, .unset, .unset, .unset, .unset] [(.int (3 : Int32))])) rfl (hb hby at_22) rfl ((by decide) : ¬ ((3 : Int32) < (0 : Int32))) (cap := 3) ((by decide) : (3 : Int32).toNatClampNeg ≤ 3) (by decide) (by decide) (by decide)
  obtain ⟨b304, g304⟩ : ∃ z, z = h0.size := ⟨_, rfl⟩
  rw [← g304] at A304 st304
  have sf305 : Safe Z [("java/lang/String", 7)] s.vm h0 b304 := Safe.new (Nat.le_of_eq g304.symm)
  have CR306 : CHr Z [("java/lang/String", 7)] s.vm h0 s.vm h304 := CR0.trans (CHr.ext E304 CR0.1)
  have sf307 : Safe Z [("java/lang/String", 7)] s.vm h304 b304 := Safe.ext E304 CR0.1 sf305
  have V304 : Arv Z h304 b304 ky304 .char (3 : Int32) [] (.int (0 : Int32)) := Arv.new A304 (by decide)
  have U304 : Arv Z h304 b304 ky304 .char (3 : Int32) [(.int (0 : Int32)), (.int (0 : Int32)), (.int (0 : Int32))] (.int (0 : Int32)) := V304.pad (pad_rep [] (.int (0 : Int32)) 3)
  have ge309 : n0 ≤ b304 := Nat.le_trans Z0 (Nat.le_trans (Nat.le_refl _) (Nat.le_of_eq g304.symm))
  obtain ⟨cl308, Ar308, qq308, S308, M308, Hh308, U308⟩ := id U304
  obtain ⟨T308, h308, X308, e308, W308, st308⟩ := stC X304 hx hZ0 e304 Ar308 (j := (0 : Int32)) (inb_of S308 ⟨(by decide : ¬ ((0 : Int32) < (0 : Int32))), (by decide : (0 : Int32) < (3 : Int32))⟩) (g := (mkF m 28 #[.val (.int i0), .val (.int i1), .val (.int i2), .val (.int i3), .val (.int ch0), .val (.int ch1), .val (.int ch2), .unset, .unset, .unset, .unset, .unset, .unset, .unset, .unset, .unset, .unset] [(.int ch0), (.int (0 : Int32)), (.ref b304), (.ref b304)])) rfl rfl (hb hby at_28)
  have N308 := Fr.snoc X308 N0 ge309
  have CR310 : CHr Z [("java/lang/String", 7)] s.vm h0 s.vm h308 := CR306.trans (CHr.wr W308 sf307 CR306.1)
  have sf311 : Safe Z [("java/lang/String", 7)] s.vm h308 b304 := Safe.wr W308 sf307 CR306.1 sf307
  have V308 : Arv Z h308 b304 ky304 .char (3 : Int32) [(.int (nar .char ch0)), (.int (0 : Int32)), (.int (0 : Int32))] (.int (0 : Int32)) := Arv.set Ar308 qq308 S308 M308 Hh308 U308 (fits_nar_char _) W308 0 rfl (Nat.le_of_ble_eq_true rfl)
  have VR308 : Arv Z h308 b304 ky304 .char (3 : Int32) [(.int ch0), (.int (0 : Int32)), (.int (0 : Int32))] (.int (0 : Int32)) := by have q := V308; rw [(own_Wn hw0)] at q; exact q
  obtain ⟨cl312, Ar312, qq312, S312, M312, Hh312, U312⟩ := id VR308
  obtain ⟨T312, h312, X312, e312, W312, st312⟩ := stC X308 hx hZ0 e308 Ar312 (j := (1 : Int32)) (inb_of S312 ⟨(by decide : ¬ ((1 : Int32) < (0 : Int32))), (by decide : (1 : Int32) < (3 : Int32))⟩) (g := (mkF m 33 #[.val (.int i0), .val (.int i1), .val (.int i2), .val (.int i3), .val (.int ch0), .val (.int ch1), .val (.int ch2), .unset, .unset, .unset, .unset, .unset, .unset, .unset, .unset, .unset, .unset] [(.int ch1), (.int (1 : Int32)), (.ref b304), (.ref b304)])) rfl rfl (hb hby at_33)
  have N312 := Fr.snoc X312 N308 ge309
  have CR313 : CHr Z [("java/lang/String", 7)] s.vm h0 s.vm h312 := CR310.trans (CHr.wr W312 sf311 CR310.1)
  have sf314 : Safe Z [("java/lang/String", 7)] s.vm h312 b304 := Safe.wr W312 sf311 CR310.1 sf311
  have V312 : Arv Z h312 b304 ky304 .char (3 : Int32) [(.int ch0), (.int (nar .char ch1)), (.int (0 : Int32))] (.int (0 : Int32)) := Arv.set Ar312 qq312 S312 M312 Hh312 U312 (fits_nar_char _) W312 1 rfl (Nat.le_of_ble_eq_true rfl)
  have VR312 : Arv Z h312 b304 ky304 .char (3 : Int32) [(.int ch0), (.int ch1), (.int (0 : Int32))] (.int (0 : Int32)) := by have q := V312; rw [(own_Wn hw1)] at q; exact q
  obtain ⟨cl315, Ar315, qq315, S315, M315, Hh315, U315⟩ := id VR312
  obtain ⟨T315, h315, X315, e315, W315, st315⟩ := stC X312 hx hZ0 e312 Ar315 (j := (2 : Int32)) (inb_of S315 ⟨(by decide : ¬ ((2 : Int32) < (0 : Int32))), (by decide : (2 : Int32) < (3 : Int32))⟩) (g := (mkF m 38 #[.val (.int i0), .val (.int i1), .val (.int i2), .val (.int i3), .val (.int ch0), .val (.int ch1), .val (.int ch2), .unset, .unset, .unset, .unset, .unset, .unset, .unset, .unset, .unset, .unset] [(.int ch2), (.int (2 : Int32)), (.ref b304), (.ref b304)])) rfl rfl (hb hby at_38)
  have N315 := Fr.snoc X315 N312 ge309
  have CR316 : CHr Z [("java/lang/String", 7)] s.vm h0 s.vm h315 := CR313.trans (CHr.wr W315 sf314 CR313.1)
  have sf317 : Safe Z [("java/lang/String", 7)] s.vm h315 b304 := Safe.wr W315 sf314 CR313.1 sf314
  have V315 : Arv Z h315 b304 ky304 .char (3 : Int32) [(.int ch0), (.int ch1), (.int (nar .char ch2))] (.int (0 : Int32)) := Arv.set Ar315 qq315 S315 M315 Hh315 U315 (fits_nar_char _) W315 2 rfl (Nat.le_of_ble_eq_true rfl)
  have VR315 : Arv Z h315 b304 ky304 .char (3 : Int32) [(.int ch0), (.int ch1), (.int ch2)] (.int (0 : Int32)) := by have q := V315; rw [(own_Wn hw2)] at q; exact q
  have pre318 : ∀ t, Steps p.tables e below (T315.setTop (mkF m 50 #[.val (.int i0), .val (.int i1), .val (.int i2), .val (.int i3), .val (.int ch0), .val (.int ch1), .val (.int ch2), .val (.ref b304), .unset, .unset, .unset, .unset, .unset, .unset, .unset, .unset, .unset] [(.int ((((i1.toUInt32 >>> ((16 : Int32) &&& 31).toUInt32).toInt32) &&& (255 : Int32)).toUInt32.toUInt16.toUInt32.toInt32))])) t → Steps p.tables e below (s₁.setTop (entryFrame m #[(.int i0), (.int i1), (.int i2), (.int i3)] maxLocals)) t := fun t kk => pre303 t (by
    refine XS.iconst X0.here hx rfl (hb hby at_21) ?_
    show Steps p.tables e below (s₁.setTop (mkF m 22 #[.val (.int i0), .val (.int i1), .val (.int i2), .val (.int i3), .val (.int ch0), .val (.int ch1), .val (.int ch2), .unset, .unset, .unset, .unset, .unset, .unset, .unset, .unset, .unset, .unset] [(.int (3 : Int32))])) _
    refine st304 _ ?_
    show Steps p.tables e below (T304.setTop (mkF m 24 #[.val (.int i0), .val (.int i1), .val (.int i2), .val (.int i3), .val (.int ch0), .val (.int ch1), .val (.int ch2), .unset, .unset, .unset, .unset, .unset, .unset, .unset, .unset, .unset, .unset] [(.ref b304)])) _
    refine XS.dup X304.here hx rfl (hb hby at_24) rfl rfl ?_
    show Steps p.tables e below (T304.setTop (mkF m 25 #[.val (.int i0), .val (.int i1), .val (.int i2), .val (.int i3), .val (.int ch0), .val (.int ch1), .val (.int ch2), .unset, .unset, .unset, .unset, .unset, .unset, .unset, .unset, .unset, .unset] [(.ref b304), (.ref b304)])) _
    refine XS.iconst X304.here hx rfl (hb hby at_25) ?_
    show Steps p.tables e below (T304.setTop (mkF m 26 #[.val (.int i0), .val (.int i1), .val (.int i2), .val (.int i3), .val (.int ch0), .val (.int ch1), .val (.int ch2), .unset, .unset, .unset, .unset, .unset, .unset, .unset, .unset, .unset, .unset] [(.int (0 : Int32)), (.ref b304), (.ref b304)])) _
    refine XS.iload X304.here hx rfl (hb hby at_26) rfl ?_
    show Steps p.tables e below (T304.setTop (mkF m 28 #[.val (.int i0), .val (.int i1), .val (.int i2), .val (.int i3), .val (.int ch0), .val (.int ch1), .val (.int ch2), .unset, .unset, .unset, .unset, .unset, .unset, .unset, .unset, .unset, .unset] [(.int ch0), (.int (0 : Int32)), (.ref b304), (.ref b304)])) _
    refine st308 _ ?_
    show Steps p.tables e below (T308.setTop (mkF m 29 #[.val (.int i0), .val (.int i1), .val (.int i2), .val (.int i3), .val (.int ch0), .val (.int ch1), .val (.int ch2), .unset, .unset, .unset, .unset, .unset, .unset, .unset, .unset, .unset, .unset] [(.ref b304)])) _
    refine XS.dup X308.here hx rfl (hb hby at_29) rfl rfl ?_
    show Steps p.tables e below (T308.setTop (mkF m 30 #[.val (.int i0), .val (.int i1), .val (.int i2), .val (.int i3), .val (.int ch0), .val (.int ch1), .val (.int ch2), .unset, .unset, .unset, .unset, .unset, .unset, .unset, .unset, .unset, .unset] [(.ref b304), (.ref b304)])) _
    refine XS.iconst X308.here hx rfl (hb hby at_30) ?_
    show Steps p.tables e below (T308.setTop (mkF m 31 #[.val (.int i0), .val (.int i1), .val (.int i2), .val (.int i3), .val (.int ch0), .val (.int ch1), .val (.int ch2), .unset, .unset, .unset, .unset, .unset, .unset, .unset, .unset, .unset, .unset] [(.int (1 : Int32)), (.ref b304), (.ref b304)])) _
    refine XS.iload X308.here hx rfl (hb hby at_31) rfl ?_
    show Steps p.tables e below (T308.setTop (mkF m 33 #[.val (.int i0), .val (.int i1), .val (.int i2), .val (.int i3), .val (.int ch0), .val (.int ch1), .val (.int ch2), .unset, .unset, .unset, .unset, .unset, .unset, .unset, .unset, .unset, .unset] [(.int ch1), (.int (1 : Int32)), (.ref b304), (.ref b304)])) _
    refine st312 _ ?_
    show Steps p.tables e below (T312.setTop (mkF m 34 #[.val (.int i0), .val (.int i1), .val (.int i2), .val (.int i3), .val (.int ch0), .val (.int ch1), .val (.int ch2), .unset, .unset, .unset, .unset, .unset, .unset, .unset, .unset, .unset, .unset] [(.ref b304)])) _
    refine XS.dup X312.here hx rfl (hb hby at_34) rfl rfl ?_
    show Steps p.tables e below (T312.setTop (mkF m 35 #[.val (.int i0), .val (.int i1), .val (.int i2), .val (.int i3), .val (.int ch0), .val (.int ch1), .val (.int ch2), .unset, .unset, .unset, .unset, .unset, .unset, .unset, .unset, .unset, .unset] [(.ref b304), (.ref b304)])) _
    refine XS.iconst X312.here hx rfl (hb hby at_35) ?_
    show Steps p.tables e below (T312.setTop (mkF m 36 #[.val (.int i0), .val (.int i1), .val (.int i2), .val (.int i3), .val (.int ch0), .val (.int ch1), .val (.int ch2), .unset, .unset, .unset, .unset, .unset, .unset, .unset, .unset, .unset, .unset] [(.int (2 : Int32)), (.ref b304), (.ref b304)])) _
    refine XS.iload X312.here hx rfl (hb hby at_36) rfl ?_
    show Steps p.tables e below (T312.setTop (mkF m 38 #[.val (.int i0), .val (.int i1), .val (.int i2), .val (.int i3), .val (.int ch0), .val (.int ch1), .val (.int ch2), .unset, .unset, .unset, .unset, .unset, .unset, .unset, .unset, .unset, .unset] [(.int ch2), (.int (2 : Int32)), (.ref b304), (.ref b304)])) _
    refine st315 _ ?_
    show Steps p.tables e below (T315.setTop (mkF m 39 #[.val (.int i0), .val (.int i1), .val (.int i2), .val (.int i3), .val (.int ch0), .val (.int ch1), .val (.int ch2), .unset, .unset, .unset, .unset, .unset, .unset, .unset, .unset, .unset, .unset] [(.ref b304)])) _
    refine XS.astore X315.here hx rfl (hb hby at_39) rfl rfl (l' := #[.val (.int i0), .val (.int i1), .val (.int i2), .val (.int i3), .val (.int ch0), .val (.int ch1), .val (.int ch2), .val (.ref b304), .unset, .unset, .unset, .unset, .unset, .unset, .unset, .unset, .unset]) rfl ?_
    show Steps p.tables e below (T315.setTop (mkF m 41 #[.val (.int i0), .val (.int i1), .val (.int i2), .val (.int i3), .val (.int ch0), .val (.int ch1), .val (.int ch2), .val (.ref b304), .unset, .unset, .unset, .unset, .unset, .unset, .unset, .unset, .unset] [])) _
    refine XS.iloadN X315.here hx rfl (hb hby at_41) rfl ?_
    show Steps p.tables e below (T315.setTop (mkF m 42 #[.val (.int i0), .val (.int i1), .val (.int i2), .val (.int i3), .val (.int ch0), .val (.int ch1), .val (.int ch2), .val (.ref b304), .unset, .unset, .unset, .unset, .unset, .unset, .unset, .unset, .unset] [(.int i1)])) _
    refine XS.bipush X315.here hx rfl (hb hby at_42) ?_
    show Steps p.tables e below (T315.setTop (mkF m 44 #[.val (.int i0), .val (.int i1), .val (.int i2), .val (.int i3), .val (.int ch0), .val (.int ch1), .val (.int ch2), .val (.ref b304), .unset, .unset, .unset, .unset, .unset, .unset, .unset, .unset, .unset] [(.int (16 : Int32)), (.int i1)])) _
    refine XS.iushr X315.here hx rfl (hb hby at_44) rfl ?_
    show Steps p.tables e below (T315.setTop (mkF m 45 #[.val (.int i0), .val (.int i1), .val (.int i2), .val (.int i3), .val (.int ch0), .val (.int ch1), .val (.int ch2), .val (.ref b304), .unset, .unset, .unset, .unset, .unset, .unset, .unset, .unset, .unset] [(.int ((i1.toUInt32 >>> ((16 : Int32) &&& 31).toUInt32).toInt32))])) _
    refine XS.sipush X315.here hx rfl (hb hby at_45) ?_
    show Steps p.tables e below (T315.setTop (mkF m 48 #[.val (.int i0), .val (.int i1), .val (.int i2), .val (.int i3), .val (.int ch0), .val (.int ch1), .val (.int ch2), .val (.ref b304), .unset, .unset, .unset, .unset, .unset, .unset, .unset, .unset, .unset] [(.int (255 : Int32)), (.int ((i1.toUInt32 >>> ((16 : Int32) &&& 31).toUInt32).toInt32))])) _
    refine XS.iand X315.here hx rfl (hb hby at_48) rfl ?_
    show Steps p.tables e below (T315.setTop (mkF m 49 #[.val (.int i0), .val (.int i1), .val (.int i2), .val (.int i3), .val (.int ch0), .val (.int ch1), .val (.int ch2), .val (.ref b304), .unset, .unset, .unset, .unset, .unset, .unset, .unset, .unset, .unset] [(.int (((i1.toUInt32 >>> ((16 : Int32) &&& 31).toUInt32).toInt32) &&& (255 : Int32)))])) _
    refine XS.i2c X315.here hx rfl (hb hby at_49) rfl ?_
    show Steps p.tables e below (T315.setTop (mkF m 50 #[.val (.int i0), .val (.int i1), .val (.int i2), .val (.int i3), .val (.int ch0), .val (.int ch1), .val (.int ch2), .val (.ref b304), .unset, .unset, .unset, .unset, .unset, .unset, .unset, .unset, .unset] [(.int ((((i1.toUInt32 >>> ((16 : Int32) &&& 31).toUInt32).toInt32) &&& (255 : Int32)).toUInt32.toUInt16.toUInt32.toInt32))])) _
    exact kk)
  obtain ⟨nc, h_nc⟩ : ∃ z, z = ((((i1.toUInt32 >>> ((16 : Int32) &&& 31).toUInt32).toInt32) &&& (255 : Int32)).toUInt32.toUInt16.toUInt32.toInt32) := ⟨_, rfl⟩
  rw [← h_nc] at pre318
  have hnc := own_lat8 ((i1.toUInt32 >>> ((16 : Int32) &&& 31).toUInt32).toInt32)
  rw [← h_nc] at hnc
  have c319 : Old Z n0 h315 := ((((q7.ext E304).wr W308 ge309).wr W312 ge309).wr W315 ge309)
  obtain ⟨_, _, ⟨T320, L320, k320, n320⟩, -, X320, ⟨Lc320, hQ320, l320, y320, z320⟩, st320⟩ := Jvm.LawKit.callS X315 hx (y := (⟨"java/lang/String", "valueOf", "(C)Ljava/lang/String;"⟩ : MethodName)) hown0 (mvT hZ0 (hw _ (List.mem_of_getElem? (i := 2) rfl))) (mvT hZ0 (hw _ (List.mem_of_getElem? (i := 3) rfl))) (mvT hZ0 (hw _ (List.mem_of_getElem? (i := 4) rfl))) (mvT hZ0 (hw _ (List.mem_of_getElem? (i := 5) rfl))) (by decide) (backOf (W := 0) (rm_valC l Z a0 hw [] nc G h315 n0 (Nat.le_trans Z0 (Nat.le_trans (Nat.le_trans (Nat.le_trans E304.1 (Keep.of_wr W308).1) (Keep.of_wr W312).1) (Keep.of_wr W315).1)) q0 hCS c319 (hnc.2.2)) hZ0 (hw _ (List.mem_of_getElem? (i := 5) rfl)) (hw _ (List.mem_of_getElem? (i := 4) rfl)) (by decide) (by decide)) (g := (mkF m 50 #[.val (.int i0), .val (.int i1), .val (.int i2), .val (.int i3), .val (.int ch0), .val (.int ch1), .val (.int ch2), .val (.ref b304), .unset, .unset, .unset, .unset, .unset, .unset, .unset, .unset, .unset] [(.int nc)])) rfl (by rw [hml]; rfl) (argsL := [(.int nc)]) (rest := []) (lenOf pd_24 rfl) rfl (by show 2 * 0 + _ ≤ _; exact Nat.le_of_eq rfl) (hb hby at_50) (fun _ _ => ⟨rfl, e315, (by decide : 1 + 2 ≤ _), (by decide : 3 + 5 ≤ _)⟩)
  dsimp only [Pt.U, Pt.locs, Pt.cells, Pt.slots] at X320 l320 y320 z320 st320 hQ320
  replace l320 := l320.symm
  replace y320 := y320.symm
  replace z320 := z320.symm
  subst l320 y320 z320
  obtain ⟨xr_320, tt_320, kt_320, rfl, Nq320, K320, f320_0, f320_1, f320_2, f320_3, f320_4, f320_5⟩ := hQ320
  have N320 := Fr.app N315 Nq320
  have sf321 : Safe Z [("java/lang/String", 7)] s.vm h315 xr_320 := Safe.new f320_0
  have sf322 : Safe Z [("java/lang/String", 7)] s.vm h315 tt_320 := Safe.new f320_1
  have CR323 : CHr Z [("java/lang/String", 7)] s.vm h0 s.vm T320.heap := CR316.trans (CHr.keep K320 sf0 CR316.1)
  have sf324 : Safe Z [("java/lang/String", 7)] s.vm T320.heap b304 := Safe.keep K320 sf0 CR316.1 sf317
  have sf325 : Safe Z [("java/lang/String", 7)] s.vm T320.heap xr_320 := Safe.keep K320 sf0 CR316.1 sf321
  have sf326 : Safe Z [("java/lang/String", 7)] s.vm T320.heap tt_320 := Safe.keep K320 sf0 CR316.1 sf322
  obtain ⟨T327, h327, X327, e327, E327, A327, D327, -, st327⟩ := newO X320 hx hZ0 hown0 (hw _ (List.mem_of_getElem? (i := 28) rfl)) (hw _ (List.mem_of_getElem? (i := 12) rfl)) (hw _ (List.mem_of_getElem? (i := 4) rfl)) rfl (g := (mkF m 55 #[.val (.int i0), .val (.int i1), .val (.int i2), .val (.int i3), .val (.int ch0), .val (.int ch1), .val (.int ch2), .val (.ref b304), .val (.ref xr_320), .unset, .unset, .unset, .unset, .unset, .unset, .unset, .unset] [])) rfl (hb hby at_55) (by decide) (by decide)
  obtain ⟨b327, g327⟩ : ∃ z, z = T320.heap.size := ⟨_, rfl⟩
  rw [← g327] at A327 D327 st327
  have sf328 : Safe Z [("java/lang/String", 7)] s.vm T320.heap b327 := Safe.new (Nat.le_of_eq g327.symm)
  have CR329 : CHr Z [("java/lang/String", 7)] s.vm h0 s.vm h327 := CR323.trans (CHr.ext E327 CR323.1)
  have sf330 : Safe Z [("java/lang/String", 7)] s.vm h327 b304 := Safe.ext E327 CR323.1 sf324
  have sf331 : Safe Z [("java/lang/String", 7)] s.vm h327 xr_320 := Safe.ext E327 CR323.1 sf325
  have sf332 : Safe Z [("java/lang/String", 7)] s.vm h327 tt_320 := Safe.ext E327 CR323.1 sf326
  have sf333 : Safe Z [("java/lang/String", 7)] s.vm h327 b327 := Safe.ext E327 CR323.1 sf328
  have D327_value : Fld Z h327 b327 "java/lang/String" "value" "[B" .null := D327 (Or.inr (hw _ (List.mem_of_getElem? (i := 25) rfl))) (ty := (.array .byte)) (by decide)
  have D327_coder : Fld Z h327 b327 "java/lang/String" "coder" "B" (.int (0 : Int32)) := D327 (Or.inr (hw _ (List.mem_of_getElem? (i := 27) rfl))) (ty := .byte) (by decide)
  obtain ⟨T334, h334, ky334, X334, e334, E334, A334, st334⟩ := newP X327 hx hZ0 (hw _ (List.mem_of_getElem? (i := 1) rfl)) e327 (g := (mkF m 60 #[.val (.int i0), .val (.int i1), .val (.int i2), .val (.int i3), .val (.int ch0), .val (.int ch1), .val (.int ch2), .val (.ref b304), .val (.ref xr_320), .unset, .unset, .unset, .unset, .unset, .unset, .unset, .unset] [(.int (2 : Int32)), (.ref b327), (.ref b327)])) rfl (hb hby at_60) rfl ((by decide) : ¬ ((2 : Int32) < (0 : Int32))) (cap := 2) ((by decide) : (2 : Int32).toNatClampNeg ≤ 2) (by decide) (by decide) (by decide)
  obtain ⟨b334, g334⟩ : ∃ z, z = h327.size := ⟨_, rfl⟩
  rw [← g334] at A334 st334
  have sf335 : Safe Z [("java/lang/String", 7)] s.vm h327 b334 := Safe.new (Nat.le_of_eq g334.symm)
  have CR336 : CHr Z [("java/lang/String", 7)] s.vm h0 s.vm h334 := CR329.trans (CHr.ext E334 CR329.1)
  have sf337 : Safe Z [("java/lang/String", 7)] s.vm h334 b304 := Safe.ext E334 CR329.1 sf330
  have sf338 : Safe Z [("java/lang/String", 7)] s.vm h334 xr_320 := Safe.ext E334 CR329.1 sf331
  have sf339 : Safe Z [("java/lang/String", 7)] s.vm h334 tt_320 := Safe.ext E334 CR329.1 sf332
  have sf340 : Safe Z [("java/lang/String", 7)] s.vm h334 b327 := Safe.ext E334 CR329.1 sf333
  have sf341 : Safe Z [("java/lang/String", 7)] s.vm h334 b334 := Safe.ext E334 CR329.1 sf335
  have V334 : Arv Z h334 b334 ky334 .char (2 : Int32) [] (.int (0 : Int32)) := Arv.new A334 (by decide)
  have U334 : Arv Z h334 b334 ky334 .char (2 : Int32) [(.int (0 : Int32)), (.int (0 : Int32))] (.int (0 : Int32)) := V334.pad (pad_rep [] (.int (0 : Int32)) 2)
  have pre342 : ∀ t, Steps p.tables e below (T334.setTop (mkF m 70 #[.val (.int i0), .val (.int i1), .val (.int i2), .val (.int i3), .val (.int ch0), .val (.int ch1), .val (.int ch2), .val (.ref b304), .val (.ref xr_320), .unset, .unset, .unset, .unset, .unset, .unset, .unset, .unset] [(.int ((i2 &&& (255 : Int32)).toUInt32.toUInt16.toUInt32.toInt32)), (.int (0 : Int32)), (.ref b334), (.ref b334), (.ref b327), (.ref b327)])) t → Steps p.tables e below (s₁.setTop (entryFrame m #[(.int i0), (.int i1), (.int i2), (.int i3)] maxLocals)) t := fun t kk => pre318 t (by
    refine st320 _ ?_
    show Steps p.tables e below (T320.setTop (mkF m 53 #[.val (.int i0), .val (.int i1), .val (.int i2), .val (.int i3), .val (.int ch0), .val (.int ch1), .val (.int ch2), .val (.ref b304), .unset, .unset, .unset, .unset, .unset, .unset, .unset, .unset, .unset] [(.ref xr_320)])) _
    refine XS.astore X320.here hx rfl (hb hby at_53) rfl rfl (l' := #[.val (.int i0), .val (.int i1), .val (.int i2), .val (.int i3), .val (.int ch0), .val (.int ch1), .val (.int ch2), .val (.ref b304), .val (.ref xr_320), .unset, .unset, .unset, .unset, .unset, .unset, .unset, .unset]) rfl ?_
    show Steps p.tables e below (T320.setTop (mkF m 55 #[.val (.int i0), .val (.int i1), .val (.int i2), .val (.int i3), .val (.int ch0), .val (.int ch1), .val (.int ch2), .val (.ref b304), .val (.ref xr_320), .unset, .unset, .unset, .unset, .unset, .unset, .unset, .unset] [])) _
    refine st327 _ ?_
    show Steps p.tables e below (T327.setTop (mkF m 58 #[.val (.int i0), .val (.int i1), .val (.int i2), .val (.int i3), .val (.int ch0), .val (.int ch1), .val (.int ch2), .val (.ref b304), .val (.ref xr_320), .unset, .unset, .unset, .unset, .unset, .unset, .unset, .unset] [(.ref b327)])) _
    refine XS.dup X327.here hx rfl (hb hby at_58) rfl rfl ?_
    show Steps p.tables e below (T327.setTop (mkF m 59 #[.val (.int i0), .val (.int i1), .val (.int i2), .val (.int i3), .val (.int ch0), .val (.int ch1), .val (.int ch2), .val (.ref b304), .val (.ref xr_320), .unset, .unset, .unset, .unset, .unset, .unset, .unset, .unset] [(.ref b327), (.ref b327)])) _
    refine XS.iconst X327.here hx rfl (hb hby at_59) ?_
    show Steps p.tables e below (T327.setTop (mkF m 60 #[.val (.int i0), .val (.int i1), .val (.int i2), .val (.int i3), .val (.int ch0), .val (.int ch1), .val (.int ch2), .val (.ref b304), .val (.ref xr_320), .unset, .unset, .unset, .unset, .unset, .unset, .unset, .unset] [(.int (2 : Int32)), (.ref b327), (.ref b327)])) _
    refine st334 _ ?_
    show Steps p.tables e below (T334.setTop (mkF m 62 #[.val (.int i0), .val (.int i1), .val (.int i2), .val (.int i3), .val (.int ch0), .val (.int ch1), .val (.int ch2), .val (.ref b304), .val (.ref xr_320), .unset, .unset, .unset, .unset, .unset, .unset, .unset, .unset] [(.ref b334), (.ref b327), (.ref b327)])) _
    refine XS.dup X334.here hx rfl (hb hby at_62) rfl rfl ?_
    show Steps p.tables e below (T334.setTop (mkF m 63 #[.val (.int i0), .val (.int i1), .val (.int i2), .val (.int i3), .val (.int ch0), .val (.int ch1), .val (.int ch2), .val (.ref b304), .val (.ref xr_320), .unset, .unset, .unset, .unset, .unset, .unset, .unset, .unset] [(.ref b334), (.ref b334), (.ref b327), (.ref b327)])) _
    refine XS.iconst X334.here hx rfl (hb hby at_63) ?_
    show Steps p.tables e below (T334.setTop (mkF m 64 #[.val (.int i0), .val (.int i1), .val (.int i2), .val (.int i3), .val (.int ch0), .val (.int ch1), .val (.int ch2), .val (.ref b304), .val (.ref xr_320), .unset, .unset, .unset, .unset, .unset, .unset, .unset, .unset] [(.int (0 : Int32)), (.ref b334), (.ref b334), (.ref b327), (.ref b327)])) _
    refine XS.iloadN X334.here hx rfl (hb hby at_64) rfl ?_
    show Steps p.tables e below (T334.setTop (mkF m 65 #[.val (.int i0), .val (.int i1), .val (.int i2), .val (.int i3), .val (.int ch0), .val (.int ch1), .val (.int ch2), .val (.ref b304), .val (.ref xr_320), .unset, .unset, .unset, .unset, .unset, .unset, .unset, .unset] [(.int i2), (.int (0 : Int32)), (.ref b334), (.ref b334), (.ref b327), (.ref b327)])) _
    refine XS.sipush X334.here hx rfl (hb hby at_65) ?_
    show Steps p.tables e below (T334.setTop (mkF m 68 #[.val (.int i0), .val (.int i1), .val (.int i2), .val (.int i3), .val (.int ch0), .val (.int ch1), .val (.int ch2), .val (.ref b304), .val (.ref xr_320), .unset, .unset, .unset, .unset, .unset, .unset, .unset, .unset] [(.int (255 : Int32)), (.int i2), (.int (0 : Int32)), (.ref b334), (.ref b334), (.ref b327), (.ref b327)])) _
    refine XS.iand X334.here hx rfl (hb hby at_68) rfl ?_
    show Steps p.tables e below (T334.setTop (mkF m 69 #[.val (.int i0), .val (.int i1), .val (.int i2), .val (.int i3), .val (.int ch0), .val (.int ch1), .val (.int ch2), .val (.ref b304), .val (.ref xr_320), .unset, .unset, .unset, .unset, .unset, .unset, .unset, .unset] [(.int (i2 &&& (255 : Int32))), (.int (0 : Int32)), (.ref b334), (.ref b334), (.ref b327), (.ref b327)])) _
    refine XS.i2c X334.here hx rfl (hb hby at_69) rfl ?_
    show Steps p.tables e below (T334.setTop (mkF m 70 #[.val (.int i0), .val (.int i1), .val (.int i2), .val (.int i3), .val (.int ch0), .val (.int ch1), .val (.int ch2), .val (.ref b304), .val (.ref xr_320), .unset, .unset, .unset, .unset, .unset, .unset, .unset, .unset] [(.int ((i2 &&& (255 : Int32)).toUInt32.toUInt16.toUInt32.toInt32)), (.int (0 : Int32)), (.ref b334), (.ref b334), (.ref b327), (.ref b327)])) _
    exact kk)
  obtain ⟨ta, h_ta⟩ : ∃ z, z = ((i2 &&& (255 : Int32)).toUInt32.toUInt16.toUInt32.toInt32) := ⟨_, rfl⟩
  rw [← h_ta] at pre342
  have hta := own_lat8 i2
  rw [← h_ta] at hta
  have ge344 : n0 ≤ b334 := Nat.le_trans Z0 (Nat.le_trans (Nat.le_trans (Nat.le_trans (Nat.le_trans (Nat.le_trans (Nat.le_trans E304.1 (Keep.of_wr W308).1) (Keep.of_wr W312).1) (Keep.of_wr W315).1) K320.1) E327.1) (Nat.le_of_eq g334.symm))
  obtain ⟨cl343, Ar343, qq343, S343, M343, Hh343, U343⟩ := id U334
  obtain ⟨T343, h343, X343, e343, W343, st343⟩ := stC X334 hx hZ0 e334 Ar343 (j := (0 : Int32)) (inb_of S343 ⟨(by decide : ¬ ((0 : Int32) < (0 : Int32))), (by decide : (0 : Int32) < (2 : Int32))⟩) (g := (mkF m 70 #[.val (.int i0), .val (.int i1), .val (.int i2), .val (.int i3), .val (.int ch0), .val (.int ch1), .val (.int ch2), .val (.ref b304), .val (.ref xr_320), .unset, .unset, .unset, .unset, .unset, .unset, .unset, .unset] [(.int ta), (.int (0 : Int32)), (.ref b334), (.ref b334), (.ref b327), (.ref b327)])) rfl rfl (hb hby at_70)
  have N343 := Fr.snoc X343 N320 ge344
  have CR345 : CHr Z [("java/lang/String", 7)] s.vm h0 s.vm h343 := CR336.trans (CHr.wr W343 sf341 CR336.1)
  have sf346 : Safe Z [("java/lang/String", 7)] s.vm h343 b304 := Safe.wr W343 sf341 CR336.1 sf337
  have sf347 : Safe Z [("java/lang/String", 7)] s.vm h343 xr_320 := Safe.wr W343 sf341 CR336.1 sf338
  have sf348 : Safe Z [("java/lang/String", 7)] s.vm h343 tt_320 := Safe.wr W343 sf341 CR336.1 sf339
  have sf349 : Safe Z [("java/lang/String", 7)] s.vm h343 b327 := Safe.wr W343 sf341 CR336.1 sf340
  have sf350 : Safe Z [("java/lang/String", 7)] s.vm h343 b334 := Safe.wr W343 sf341 CR336.1 sf341
  have V343 : Arv Z h343 b334 ky334 .char (2 : Int32) [(.int (nar .char ta)), (.int (0 : Int32))] (.int (0 : Int32)) := Arv.set Ar343 qq343 S343 M343 Hh343 U343 (fits_nar_char _) W343 0 rfl (Nat.le_of_ble_eq_true rfl)
  have VR343 : Arv Z h343 b334 ky334 .char (2 : Int32) [(.int ta), (.int (0 : Int32))] (.int (0 : Int32)) := by have q := V343; rw [hta.1] at q; exact q
  have pre351 : ∀ t, Steps p.tables e below (T343.setTop (mkF m 82 #[.val (.int i0), .val (.int i1), .val (.int i2), .val (.int i3), .val (.int ch0), .val (.int ch1), .val (.int ch2), .val (.ref b304), .val (.ref xr_320), .unset, .unset, .unset, .unset, .unset, .unset, .unset, .unset] [(.int ((((i2.toUInt32 >>> ((8 : Int32) &&& 31).toUInt32).toInt32) &&& (255 : Int32)).toUInt32.toUInt16.toUInt32.toInt32)), (.int (1 : Int32)), (.ref b334), (.ref b334), (.ref b327), (.ref b327)])) t → Steps p.tables e below (s₁.setTop (entryFrame m #[(.int i0), (.int i1), (.int i2), (.int i3)] maxLocals)) t := fun t kk => pre342 t (by
    refine st343 _ ?_
    show Steps p.tables e below (T343.setTop (mkF m 71 #[.val (.int i0), .val (.int i1), .val (.int i2), .val (.int i3), .val (.int ch0), .val (.int ch1), .val (.int ch2), .val (.ref b304), .val (.ref xr_320), .unset, .unset, .unset, .unset, .unset, .unset, .unset, .unset] [(.ref b334), (.ref b327), (.ref b327)])) _
    refine XS.dup X343.here hx rfl (hb hby at_71) rfl rfl ?_
    show Steps p.tables e below (T343.setTop (mkF m 72 #[.val (.int i0), .val (.int i1), .val (.int i2), .val (.int i3), .val (.int ch0), .val (.int ch1), .val (.int ch2), .val (.ref b304), .val (.ref xr_320), .unset, .unset, .unset, .unset, .unset, .unset, .unset, .unset] [(.ref b334), (.ref b334), (.ref b327), (.ref b327)])) _
    refine XS.iconst X343.here hx rfl (hb hby at_72) ?_
    show Steps p.tables e below (T343.setTop (mkF m 73 #[.val (.int i0), .val (.int i1), .val (.int i2), .val (.int i3), .val (.int ch0), .val (.int ch1), .val (.int ch2), .val (.ref b304), .val (.ref xr_320), .unset, .unset, .unset, .unset, .unset, .unset, .unset, .unset] [(.int (1 : Int32)), (.ref b334), (.ref b334), (.ref b327), (.ref b327)])) _
    refine XS.iloadN X343.here hx rfl (hb hby at_73) rfl ?_
    show Steps p.tables e below (T343.setTop (mkF m 74 #[.val (.int i0), .val (.int i1), .val (.int i2), .val (.int i3), .val (.int ch0), .val (.int ch1), .val (.int ch2), .val (.ref b304), .val (.ref xr_320), .unset, .unset, .unset, .unset, .unset, .unset, .unset, .unset] [(.int i2), (.int (1 : Int32)), (.ref b334), (.ref b334), (.ref b327), (.ref b327)])) _
    refine XS.bipush X343.here hx rfl (hb hby at_74) ?_
    show Steps p.tables e below (T343.setTop (mkF m 76 #[.val (.int i0), .val (.int i1), .val (.int i2), .val (.int i3), .val (.int ch0), .val (.int ch1), .val (.int ch2), .val (.ref b304), .val (.ref xr_320), .unset, .unset, .unset, .unset, .unset, .unset, .unset, .unset] [(.int (8 : Int32)), (.int i2), (.int (1 : Int32)), (.ref b334), (.ref b334), (.ref b327), (.ref b327)])) _
    refine XS.iushr X343.here hx rfl (hb hby at_76) rfl ?_
    show Steps p.tables e below (T343.setTop (mkF m 77 #[.val (.int i0), .val (.int i1), .val (.int i2), .val (.int i3), .val (.int ch0), .val (.int ch1), .val (.int ch2), .val (.ref b304), .val (.ref xr_320), .unset, .unset, .unset, .unset, .unset, .unset, .unset, .unset] [(.int ((i2.toUInt32 >>> ((8 : Int32) &&& 31).toUInt32).toInt32)), (.int (1 : Int32)), (.ref b334), (.ref b334), (.ref b327), (.ref b327)])) _
    refine XS.sipush X343.here hx rfl (hb hby at_77) ?_
    show Steps p.tables e below (T343.setTop (mkF m 80 #[.val (.int i0), .val (.int i1), .val (.int i2), .val (.int i3), .val (.int ch0), .val (.int ch1), .val (.int ch2), .val (.ref b304), .val (.ref xr_320), .unset, .unset, .unset, .unset, .unset, .unset, .unset, .unset] [(.int (255 : Int32)), (.int ((i2.toUInt32 >>> ((8 : Int32) &&& 31).toUInt32).toInt32)), (.int (1 : Int32)), (.ref b334), (.ref b334), (.ref b327), (.ref b327)])) _
    refine XS.iand X343.here hx rfl (hb hby at_80) rfl ?_
    show Steps p.tables e below (T343.setTop (mkF m 81 #[.val (.int i0), .val (.int i1), .val (.int i2), .val (.int i3), .val (.int ch0), .val (.int ch1), .val (.int ch2), .val (.ref b304), .val (.ref xr_320), .unset, .unset, .unset, .unset, .unset, .unset, .unset, .unset] [(.int (((i2.toUInt32 >>> ((8 : Int32) &&& 31).toUInt32).toInt32) &&& (255 : Int32))), (.int (1 : Int32)), (.ref b334), (.ref b334), (.ref b327), (.ref b327)])) _
    refine XS.i2c X343.here hx rfl (hb hby at_81) rfl ?_
    show Steps p.tables e below (T343.setTop (mkF m 82 #[.val (.int i0), .val (.int i1), .val (.int i2), .val (.int i3), .val (.int ch0), .val (.int ch1), .val (.int ch2), .val (.ref b304), .val (.ref xr_320), .unset, .unset, .unset, .unset, .unset, .unset, .unset, .unset] [(.int ((((i2.toUInt32 >>> ((8 : Int32) &&& 31).toUInt32).toInt32) &&& (255 : Int32)).toUInt32.toUInt16.toUInt32.toInt32)), (.int (1 : Int32)), (.ref b334), (.ref b334), (.ref b327), (.ref b327)])) _
    exact kk)
  obtain ⟨tb, h_tb⟩ : ∃ z, z = ((((i2.toUInt32 >>> ((8 : Int32) &&& 31).toUInt32).toInt32) &&& (255 : Int32)).toUInt32.toUInt16.toUInt32.toInt32) := ⟨_, rfl⟩
  rw [← h_tb] at pre351
  have htb := own_lat8 ((i2.toUInt32 >>> ((8 : Int32) &&& 31).toUInt32).toInt32)
  rw [← h_tb] at htb
  obtain ⟨cl352, Ar352, qq352, S352, M352, Hh352, U352⟩ := id VR343
  obtain ⟨T352, h352, X352, e352, W352, st352⟩ := stC X343 hx hZ0 e343 Ar352 (j := (1 : Int32)) (inb_of S352 ⟨(by decide : ¬ ((1 : Int32) < (0 : Int32))), (by decide : (1 : Int32) < (2 : Int32))⟩) (g := (mkF m 82 #[.val (.int i0), .val (.int i1), .val (.int i2), .val (.int i3), .val (.int ch0), .val (.int ch1), .val (.int ch2), .val (.ref b304), .val (.ref xr_320), .unset, .unset, .unset, .unset, .unset, .unset, .unset, .unset] [(.int tb), (.int (1 : Int32)), (.ref b334), (.ref b334), (.ref b327), (.ref b327)])) rfl rfl (hb hby at_82)
  have N352 := Fr.snoc X352 N343 ge344
  have CR353 : CHr Z [("java/lang/String", 7)] s.vm h0 s.vm h352 := CR345.trans (CHr.wr W352 sf350 CR345.1)
  have sf354 : Safe Z [("java/lang/String", 7)] s.vm h352 b304 := Safe.wr W352 sf350 CR345.1 sf346
  have sf355 : Safe Z [("java/lang/String", 7)] s.vm h352 xr_320 := Safe.wr W352 sf350 CR345.1 sf347
  have sf356 : Safe Z [("java/lang/String", 7)] s.vm h352 tt_320 := Safe.wr W352 sf350 CR345.1 sf348
  have sf357 : Safe Z [("java/lang/String", 7)] s.vm h352 b327 := Safe.wr W352 sf350 CR345.1 sf349
  have sf358 : Safe Z [("java/lang/String", 7)] s.vm h352 b334 := Safe.wr W352 sf350 CR345.1 sf350
  have V352 : Arv Z h352 b334 ky334 .char (2 : Int32) [(.int ta), (.int (nar .char tb))] (.int (0 : Int32)) := Arv.set Ar352 qq352 S352 M352 Hh352 U352 (fits_nar_char _) W352 1 rfl (Nat.le_of_ble_eq_true rfl)
  have VR352 : Arv Z h352 b334 ky334 .char (2 : Int32) [(.int ta), (.int tb)] (.int (0 : Int32)) := by have q := V352; rw [htb.1] at q; exact q
  have c360 : Old Z n0 h352 := (((((c319.keep K320 all0).ext E327).ext E334).wr W343 ge344).wr W352 ge344)
  have hp361 : ∀ c ∈ ([ta, tb] : List Int32), ¬ c < 0 ∧ ¬ (255 : Int32) < c := by
    intro c hc
    simp only [List.mem_cons, List.not_mem_nil, or_false] at hc
    rcases hc with rfl | rfl
    · exact hta.2
    · exact htb.2
  have c362 : Exa Z h352 b327 "java/lang/String" := (((A327.ext E334).wr W343).wr W352)
  have ne363 : b327 ≠ b334 := Nat.ne_of_lt (Nat.lt_of_lt_of_le D327_value.lt (Nat.le_of_eq g334.symm))
  have c364 : Fld Z h352 b327 "java/lang/String" "value" "[B" .null := (((D327_value.ext E334).other W343 (Or.inl ne363)).other W352 (Or.inl ne363))
  have c365 : Fld Z h352 b327 "java/lang/String" "coder" "B" (.int (0 : Int32)) := (((D327_coder.ext E334).other W343 (Or.inl ne363)).other W352 (Or.inl ne363))
  have ge366 : n0 ≤ b327 := Nat.le_trans Z0 (Nat.le_trans (Nat.le_trans (Nat.le_trans (Nat.le_trans (Nat.le_trans E304.1 (Keep.of_wr W308).1) (Keep.of_wr W312).1) (Keep.of_wr W315).1) K320.1) (Nat.le_of_eq g327.symm))
  obtain ⟨_, _, ⟨T359, L359, k359, n359⟩, -, X359, ⟨Lc359, hQ359, l359, y359, z359⟩, st359⟩ := X352.specialBack hx (y := (⟨"java/lang/String", "<init>", "([C)V"⟩ : MethodName)) rfl hown0 (mvT hZ0 (hw _ (List.mem_of_getElem? (i := 29) rfl))) (mvT hZ0 (hw _ (List.mem_of_getElem? (i := 30) rfl))) (mvT hZ0 (hw _ (List.mem_of_getElem? (i := 31) rfl))) (by decide) (StrChars.Road.backV (W := 1) hZ0 (own_hw_backV hw) (kI := 4) (hw _ (List.mem_of_getElem? (i := 12) rfl)) (cs := ([ta, tb] : List Int32)) (bs := (([ta, tb] : List Int32)).map (fun c => c.toInt8.toInt32)) (n := 2) ge366 (Nat.le_trans Z0 (Nat.le_trans (Nat.le_trans (Nat.le_trans (Nat.le_trans (Nat.le_trans (Nat.le_trans (Nat.le_trans (Nat.le_trans E304.1 (Keep.of_wr W308).1) (Keep.of_wr W312).1) (Keep.of_wr W315).1) K320.1) E327.1) E334.1) (Keep.of_wr W343).1) (Keep.of_wr W352).1)) c362 c364 c365 VR352 (q0.ext c360.2) hCS rfl rfl (by decide) (by decide) hp361 rfl (by decide) (by decide)) (g := (mkF m 83 #[.val (.int i0), .val (.int i1), .val (.int i2), .val (.int i3), .val (.int ch0), .val (.int ch1), .val (.int ch2), .val (.ref b304), .val (.ref xr_320), .unset, .unset, .unset, .unset, .unset, .unset, .unset, .unset] [(.ref b334), (.ref b327), (.ref b327)])) rfl (by rw [hml]; rfl) (Steps.refl _) (a := b327) (argsL := [(.ref b334)]) (rest := [(.ref b327)]) (lenOf pd_25 rfl) rfl (by show 2 * 0 + _ ≤ _; exact Nat.le_of_eq rfl) (hb hby at_83) (fun _ _ => ⟨rfl, e352, (by decide : 5 + 1 ≤ _), (by decide : 14 + 2 ≤ _)⟩)
  dsimp only [Pt.U, Pt.locs, Pt.cells, Pt.slots] at X359 l359 y359 z359 st359 hQ359
  replace l359 := l359.symm
  replace y359 := y359.symm
  replace z359 := z359.symm
  subst l359 y359 z359
  obtain ⟨rfl, Nq359, K359, fE359, fC359, t359, kb359, gt359, sz359, nt359, fV359, fA359⟩ := hQ359
  have N359 := Fr.app N352 Nq359
  have sf367 : Safe Z [("java/lang/String", 7)] s.vm h352 t359 := Safe.new sz359
  have CR368 : CHr Z [("java/lang/String", 7)] s.vm h0 s.vm T359.heap := CR353.trans (CHr.keep K359 (sfS sf357 sf0) CR353.1)
  have sf369 : Safe Z [("java/lang/String", 7)] s.vm T359.heap b304 := Safe.keep K359 (sfS sf357 sf0) CR353.1 sf354
  have sf370 : Safe Z [("java/lang/String", 7)] s.vm T359.heap xr_320 := Safe.keep K359 (sfS sf357 sf0) CR353.1 sf355
  have sf371 : Safe Z [("java/lang/String", 7)] s.vm T359.heap tt_320 := Safe.keep K359 (sfS sf357 sf0) CR353.1 sf356
  have sf372 : Safe Z [("java/lang/String", 7)] s.vm T359.heap b327 := Safe.keep K359 (sfS sf357 sf0) CR353.1 sf357
  have sf373 : Safe Z [("java/lang/String", 7)] s.vm T359.heap b334 := Safe.keep K359 (sfS sf357 sf0) CR353.1 sf358
  have sf374 : Safe Z [("java/lang/String", 7)] s.vm T359.heap t359 := Safe.keep K359 (sfS sf357 sf0) CR353.1 sf367
  have hcd359 : StrChars.Road.CodA ([ta, tb] : List Int32) 0 (2 : Int32) (((([ta, tb] : List Int32)).map (fun c => c.toInt8.toInt32)).map Value.int) := StrChars.Road.codOf (n := 2) rfl (fun c hc => (hp361 c hc).2)
  have pre375 : ∀ t, Steps p.tables e below (T359.setTop (mkF m 97 #[.val (.int i0), .val (.int i1), .val (.int i2), .val (.int i3), .val (.int ch0), .val (.int ch1), .val (.int ch2), .val (.ref b304), .val (.ref xr_320), .val (.ref b327), .unset, .unset, .unset, .unset, .unset, .unset, .unset] [(.int ((((i2.toUInt32 >>> ((16 : Int32) &&& 31).toUInt32).toInt32) &&& (255 : Int32)).toUInt32.toUInt16.toUInt32.toInt32))])) t → Steps p.tables e below (s₁.setTop (entryFrame m #[(.int i0), (.int i1), (.int i2), (.int i3)] maxLocals)) t := fun t kk => pre351 t (by
    refine st352 _ ?_
    show Steps p.tables e below (T352.setTop (mkF m 83 #[.val (.int i0), .val (.int i1), .val (.int i2), .val (.int i3), .val (.int ch0), .val (.int ch1), .val (.int ch2), .val (.ref b304), .val (.ref xr_320), .unset, .unset, .unset, .unset, .unset, .unset, .unset, .unset] [(.ref b334), (.ref b327), (.ref b327)])) _
    refine st359.trans ?_
    show Steps p.tables e below (T359.setTop (mkF m 86 #[.val (.int i0), .val (.int i1), .val (.int i2), .val (.int i3), .val (.int ch0), .val (.int ch1), .val (.int ch2), .val (.ref b304), .val (.ref xr_320), .unset, .unset, .unset, .unset, .unset, .unset, .unset, .unset] [(.ref b327)])) _
    refine XS.astore X359.here hx rfl (hb hby at_86) rfl rfl (l' := #[.val (.int i0), .val (.int i1), .val (.int i2), .val (.int i3), .val (.int ch0), .val (.int ch1), .val (.int ch2), .val (.ref b304), .val (.ref xr_320), .val (.ref b327), .unset, .unset, .unset, .unset, .unset, .unset, .unset]) rfl ?_
    show Steps p.tables e below (T359.setTop (mkF m 88 #[.val (.int i0), .val (.int i1), .val (.int i2), .val (.int i3), .val (.int ch0), .val (.int ch1), .val (.int ch2), .val (.ref b304), .val (.ref xr_320), .val (.ref b327), .unset, .unset, .unset, .unset, .unset, .unset, .unset] [])) _
    refine XS.iloadN X359.here hx rfl (hb hby at_88) rfl ?_
    show Steps p.tables e below (T359.setTop (mkF m 89 #[.val (.int i0), .val (.int i1), .val (.int i2), .val (.int i3), .val (.int ch0), .val (.int ch1), .val (.int ch2), .val (.ref b304), .val (.ref xr_320), .val (.ref b327), .unset, .unset, .unset, .unset, .unset, .unset, .unset] [(.int i2)])) _
    refine XS.bipush X359.here hx rfl (hb hby at_89) ?_
    show Steps p.tables e below (T359.setTop (mkF m 91 #[.val (.int i0), .val (.int i1), .val (.int i2), .val (.int i3), .val (.int ch0), .val (.int ch1), .val (.int ch2), .val (.ref b304), .val (.ref xr_320), .val (.ref b327), .unset, .unset, .unset, .unset, .unset, .unset, .unset] [(.int (16 : Int32)), (.int i2)])) _
    refine XS.iushr X359.here hx rfl (hb hby at_91) rfl ?_
    show Steps p.tables e below (T359.setTop (mkF m 92 #[.val (.int i0), .val (.int i1), .val (.int i2), .val (.int i3), .val (.int ch0), .val (.int ch1), .val (.int ch2), .val (.ref b304), .val (.ref xr_320), .val (.ref b327), .unset, .unset, .unset, .unset, .unset, .unset, .unset] [(.int ((i2.toUInt32 >>> ((16 : Int32) &&& 31).toUInt32).toInt32))])) _
    refine XS.sipush X359.here hx rfl (hb hby at_92) ?_
    show Steps p.tables e below (T359.setTop (mkF m 95 #[.val (.int i0), .val (.int i1), .val (.int i2), .val (.int i3), .val (.int ch0), .val (.int ch1), .val (.int ch2), .val (.ref b304), .val (.ref xr_320), .val (.ref b327), .unset, .unset, .unset, .unset, .unset, .unset, .unset] [(.int (255 : Int32)), (.int ((i2.toUInt32 >>> ((16 : Int32) &&& 31).toUInt32).toInt32))])) _
    refine XS.iand X359.here hx rfl (hb hby at_95) rfl ?_
    show Steps p.tables e below (T359.setTop (mkF m 96 #[.val (.int i0), .val (.int i1), .val (.int i2), .val (.int i3), .val (.int ch0), .val (.int ch1), .val (.int ch2), .val (.ref b304), .val (.ref xr_320), .val (.ref b327), .unset, .unset, .unset, .unset, .unset, .unset, .unset] [(.int (((i2.toUInt32 >>> ((16 : Int32) &&& 31).toUInt32).toInt32) &&& (255 : Int32)))])) _
    refine XS.i2c X359.here hx rfl (hb hby at_96) rfl ?_
    show Steps p.tables e below (T359.setTop (mkF m 97 #[.val (.int i0), .val (.int i1), .val (.int i2), .val (.int i3), .val (.int ch0), .val (.int ch1), .val (.int ch2), .val (.ref b304), .val (.ref xr_320), .val (.ref b327), .unset, .unset, .unset, .unset, .unset, .unset, .unset] [(.int ((((i2.toUInt32 >>> ((16 : Int32) &&& 31).toUInt32).toInt32) &&& (255 : Int32)).toUInt32.toUInt16.toUInt32.toInt32))])) _
    exact kk)
  obtain ⟨oc, h_oc⟩ : ∃ z, z = ((((i2.toUInt32 >>> ((16 : Int32) &&& 31).toUInt32).toInt32) &&& (255 : Int32)).toUInt32.toUInt16.toUInt32.toInt32) := ⟨_, rfl⟩
  rw [← h_oc] at pre375
  have hoc := own_lat8 ((i2.toUInt32 >>> ((16 : Int32) &&& 31).toUInt32).toInt32)
  rw [← h_oc] at hoc
  have c376 : Old Z n0 T359.heap := (c360.keep K359 (allS ge366 all0))
  obtain ⟨_, _, ⟨T377, L377, k377, n377⟩, -, X377, ⟨Lc377, hQ377, l377, y377, z377⟩, st377⟩ := Jvm.LawKit.callS X359 hx (y := (⟨"java/lang/String", "valueOf", "(C)Ljava/lang/String;"⟩ : MethodName)) hown0 (mvT hZ0 (hw _ (List.mem_of_getElem? (i := 2) rfl))) (mvT hZ0 (hw _ (List.mem_of_getElem? (i := 3) rfl))) (mvT hZ0 (hw _ (List.mem_of_getElem? (i := 4) rfl))) (mvT hZ0 (hw _ (List.mem_of_getElem? (i := 5) rfl))) (by decide) (backOf (W := 0) (rm_valC l Z a0 hw [] oc G T359.heap n0 (Nat.le_trans Z0 (Nat.le_trans (Nat.le_trans (Nat.le_trans (Nat.le_trans (Nat.le_trans (Nat.le_trans (Nat.le_trans (Nat.le_trans (Nat.le_trans E304.1 (Keep.of_wr W308).1) (Keep.of_wr W312).1) (Keep.of_wr W315).1) K320.1) E327.1) E334.1) (Keep.of_wr W343).1) (Keep.of_wr W352).1) K359.1)) q0 hCS c376 (hoc.2.2)) hZ0 (hw _ (List.mem_of_getElem? (i := 5) rfl)) (hw _ (List.mem_of_getElem? (i := 4) rfl)) (by decide) (by decide)) (g := (mkF m 97 #[.val (.int i0), .val (.int i1), .val (.int i2), .val (.int i3), .val (.int ch0), .val (.int ch1), .val (.int ch2), .val (.ref b304), .val (.ref xr_320), .val (.ref b327), .unset, .unset, .unset, .unset, .unset, .unset, .unset] [(.int oc)])) rfl (by rw [hml]; rfl) (argsL := [(.int oc)]) (rest := []) (lenOf pd_24 rfl) rfl (by show 2 * 0 + _ ≤ _; exact Nat.le_of_eq rfl) (hb hby at_97) (fun _ _ => ⟨rfl, rfl, (by decide : 6 + 2 ≤ _), (by decide : 16 + 5 ≤ _)⟩)
  dsimp only [Pt.U, Pt.locs, Pt.cells, Pt.slots] at X377 l377 y377 z377 st377 hQ377
  replace l377 := l377.symm
  replace y377 := y377.symm
  replace z377 := z377.symm
  subst l377 y377 z377
  obtain ⟨xr_377, tt_377, kt_377, rfl, Nq377, K377, f377_0, f377_1, f377_2, f377_3, f377_4, f377_5⟩ := hQ377
  have N377 := Fr.app N359 Nq377
  have sf378 : Safe Z [("java/lang/String", 7)] s.vm T359.heap xr_377 := Safe.new f377_0
  have sf379 : Safe Z [("java/lang/String", 7)] s.vm T359.heap tt_377 := Safe.new f377_1
  have CR380 : CHr Z [("java/lang/String", 7)] s.vm h0 s.vm T377.heap := CR368.trans (CHr.keep K377 sf0 CR368.1)
  have sf381 : Safe Z [("java/lang/String", 7)] s.vm T377.heap b304 := Safe.keep K377 sf0 CR368.1 sf369
  have sf382 : Safe Z [("java/lang/String", 7)] s.vm T377.heap xr_320 := Safe.keep K377 sf0 CR368.1 sf370
  have sf383 : Safe Z [("java/lang/String", 7)] s.vm T377.heap tt_320 := Safe.keep K377 sf0 CR368.1 sf371
  have sf384 : Safe Z [("java/lang/String", 7)] s.vm T377.heap b327 := Safe.keep K377 sf0 CR368.1 sf372
  have sf385 : Safe Z [("java/lang/String", 7)] s.vm T377.heap b334 := Safe.keep K377 sf0 CR368.1 sf373
  have sf386 : Safe Z [("java/lang/String", 7)] s.vm T377.heap t359 := Safe.keep K377 sf0 CR368.1 sf374
  have sf387 : Safe Z [("java/lang/String", 7)] s.vm T377.heap xr_377 := Safe.keep K377 sf0 CR368.1 sf378
  have sf388 : Safe Z [("java/lang/String", 7)] s.vm T377.heap tt_377 := Safe.keep K377 sf0 CR368.1 sf379
  have pre389 : ∀ t, Steps p.tables e below (T377.setTop (mkF m 108 #[.val (.int i0), .val (.int i1), .val (.int i2), .val (.int i3), .val (.int ch0), .val (.int ch1), .val (.int ch2), .val (.ref b304), .val (.ref xr_320), .val (.ref b327), .val (.ref xr_377), .unset, .unset, .unset, .unset, .unset, .unset] [(.int (((i2.toUInt32 >>> ((24 : Int32) &&& 31).toUInt32).toInt32) &&& (1 : Int32)))])) t → Steps p.tables e below (s₁.setTop (entryFrame m #[(.int i0), (.int i1), (.int i2), (.int i3)] maxLocals)) t := fun t kk => pre375 t (by
    refine st377 _ ?_
    show Steps p.tables e below (T377.setTop (mkF m 100 #[.val (.int i0), .val (.int i1), .val (.int i2), .val (.int i3), .val (.int ch0), .val (.int ch1), .val (.int ch2), .val (.ref b304), .val (.ref xr_320), .val (.ref b327), .unset, .unset, .unset, .unset, .unset, .unset, .unset] [(.ref xr_377)])) _
    refine XS.astore X377.here hx rfl (hb hby at_100) rfl rfl (l' := #[.val (.int i0), .val (.int i1), .val (.int i2), .val (.int i3), .val (.int ch0), .val (.int ch1), .val (.int ch2), .val (.ref b304), .val (.ref xr_320), .val (.ref b327), .val (.ref xr_377), .unset, .unset, .unset, .unset, .unset, .unset]) rfl ?_
    show Steps p.tables e below (T377.setTop (mkF m 102 #[.val (.int i0), .val (.int i1), .val (.int i2), .val (.int i3), .val (.int ch0), .val (.int ch1), .val (.int ch2), .val (.ref b304), .val (.ref xr_320), .val (.ref b327), .val (.ref xr_377), .unset, .unset, .unset, .unset, .unset, .unset] [])) _
    refine XS.iloadN X377.here hx rfl (hb hby at_102) rfl ?_
    show Steps p.tables e below (T377.setTop (mkF m 103 #[.val (.int i0), .val (.int i1), .val (.int i2), .val (.int i3), .val (.int ch0), .val (.int ch1), .val (.int ch2), .val (.ref b304), .val (.ref xr_320), .val (.ref b327), .val (.ref xr_377), .unset, .unset, .unset, .unset, .unset, .unset] [(.int i2)])) _
    refine XS.bipush X377.here hx rfl (hb hby at_103) ?_
    show Steps p.tables e below (T377.setTop (mkF m 105 #[.val (.int i0), .val (.int i1), .val (.int i2), .val (.int i3), .val (.int ch0), .val (.int ch1), .val (.int ch2), .val (.ref b304), .val (.ref xr_320), .val (.ref b327), .val (.ref xr_377), .unset, .unset, .unset, .unset, .unset, .unset] [(.int (24 : Int32)), (.int i2)])) _
    refine XS.iushr X377.here hx rfl (hb hby at_105) rfl ?_
    show Steps p.tables e below (T377.setTop (mkF m 106 #[.val (.int i0), .val (.int i1), .val (.int i2), .val (.int i3), .val (.int ch0), .val (.int ch1), .val (.int ch2), .val (.ref b304), .val (.ref xr_320), .val (.ref b327), .val (.ref xr_377), .unset, .unset, .unset, .unset, .unset, .unset] [(.int ((i2.toUInt32 >>> ((24 : Int32) &&& 31).toUInt32).toInt32))])) _
    refine XS.iconst X377.here hx rfl (hb hby at_106) ?_
    show Steps p.tables e below (T377.setTop (mkF m 107 #[.val (.int i0), .val (.int i1), .val (.int i2), .val (.int i3), .val (.int ch0), .val (.int ch1), .val (.int ch2), .val (.ref b304), .val (.ref xr_320), .val (.ref b327), .val (.ref xr_377), .unset, .unset, .unset, .unset, .unset, .unset] [(.int (1 : Int32)), (.int ((i2.toUInt32 >>> ((24 : Int32) &&& 31).toUInt32).toInt32))])) _
    refine XS.iand X377.here hx rfl (hb hby at_107) rfl ?_
    show Steps p.tables e below (T377.setTop (mkF m 108 #[.val (.int i0), .val (.int i1), .val (.int i2), .val (.int i3), .val (.int ch0), .val (.int ch1), .val (.int ch2), .val (.ref b304), .val (.ref xr_320), .val (.ref b327), .val (.ref xr_377), .unset, .unset, .unset, .unset, .unset, .unset] [(.int (((i2.toUInt32 >>> ((24 : Int32) &&& 31).toUInt32).toInt32) &&& (1 : Int32)))])) _
    exact kk)
  obtain ⟨bt, h_bt⟩ : ∃ z, z = (((i2.toUInt32 >>> ((24 : Int32) &&& 31).toUInt32).toInt32) &&& (1 : Int32)) := ⟨_, rfl⟩
  rw [← h_bt] at pre389
  obtain ⟨dcl, hdcl, pre390⟩ : ∃ dcl : Int32, (nar .boolean dcl = dcl) ∧ ∀ t, Steps p.tables e below (T377.setTop (mkF m 116 #[.val (.int i0), .val (.int i1), .val (.int i2), .val (.int i3), .val (.int ch0), .val (.int ch1), .val (.int ch2), .val (.ref b304), .val (.ref xr_320), .val (.ref b327), .val (.ref xr_377), .unset, .unset, .unset, .unset, .unset, .unset] [(.int dcl)])) t → Steps p.tables e below (s₁.setTop (entryFrame m #[(.int i0), (.int i1), (.int i2), (.int i3)] maxLocals)) t := by
    by_cases hbt : bt = (0 : Int32)
    · have pre391 : ∀ t, Steps p.tables e below (T377.setTop (mkF m 116 #[.val (.int i0), .val (.int i1), .val (.int i2), .val (.int i3), .val (.int ch0), .val (.int ch1), .val (.int ch2), .val (.ref b304), .val (.ref xr_320), .val (.ref b327), .val (.ref xr_377), .unset, .unset, .unset, .unset, .unset, .unset] [(.int (0 : Int32))])) t → Steps p.tables e below (s₁.setTop (entryFrame m #[(.int i0), (.int i1), (.int i2), (.int i3)] maxLocals)) t := fun t kk => pre389 t (by
        refine XS.ifYes X377.here hx rfl (pc0 := 108) (pc' := 115) rfl (hb hby at_108) rfl ((if0 _ _).trans (teq (hbt : bt = (0 : Int32))).1) (by decide) (by decide) ?_
        show Steps p.tables e below (T377.setTop (mkF m 115 #[.val (.int i0), .val (.int i1), .val (.int i2), .val (.int i3), .val (.int ch0), .val (.int ch1), .val (.int ch2), .val (.ref b304), .val (.ref xr_320), .val (.ref b327), .val (.ref xr_377), .unset, .unset, .unset, .unset, .unset, .unset] [])) _
        refine XS.iconst X377.here hx rfl (hb hby at_115) ?_
        show Steps p.tables e below (T377.setTop (mkF m 116 #[.val (.int i0), .val (.int i1), .val (.int i2), .val (.int i3), .val (.int ch0), .val (.int ch1), .val (.int ch2), .val (.ref b304), .val (.ref xr_320), .val (.ref b327), .val (.ref xr_377), .unset, .unset, .unset, .unset, .unset, .unset] [(.int (0 : Int32))])) _
        exact kk)
      exact ⟨(0 : Int32), rfl, pre391⟩
    · have pre392 : ∀ t, Steps p.tables e below (T377.setTop (mkF m 116 #[.val (.int i0), .val (.int i1), .val (.int i2), .val (.int i3), .val (.int ch0), .val (.int ch1), .val (.int ch2), .val (.ref b304), .val (.ref xr_320), .val (.ref b327), .val (.ref xr_377), .unset, .unset, .unset, .unset, .unset, .unset] [(.int (1 : Int32))])) t → Steps p.tables e below (s₁.setTop (entryFrame m #[(.int i0), (.int i1), (.int i2), (.int i3)] maxLocals)) t := fun t kk => pre389 t (by
        refine XS.ifNo X377.here hx rfl (hb hby at_108) rfl ((if0 _ _).trans (feq (hbt : ¬ (bt = (0 : Int32)))).1) ?_
        show Steps p.tables e below (T377.setTop (mkF m 111 #[.val (.int i0), .val (.int i1), .val (.int i2), .val (.int i3), .val (.int ch0), .val (.int ch1), .val (.int ch2), .val (.ref b304), .val (.ref xr_320), .val (.ref b327), .val (.ref xr_377), .unset, .unset, .unset, .unset, .unset, .unset] [])) _
        refine XS.iconst X377.here hx rfl (hb hby at_111) ?_
        show Steps p.tables e below (T377.setTop (mkF m 112 #[.val (.int i0), .val (.int i1), .val (.int i2), .val (.int i3), .val (.int ch0), .val (.int ch1), .val (.int ch2), .val (.ref b304), .val (.ref xr_320), .val (.ref b327), .val (.ref xr_377), .unset, .unset, .unset, .unset, .unset, .unset] [(.int (1 : Int32))])) _
        refine XS.goto X377.here hx rfl (pc0 := 112) (pc' := 116) rfl (hb hby at_112) (by decide) (by decide) ?_
        show Steps p.tables e below (T377.setTop (mkF m 116 #[.val (.int i0), .val (.int i1), .val (.int i2), .val (.int i3), .val (.int ch0), .val (.int ch1), .val (.int ch2), .val (.ref b304), .val (.ref xr_320), .val (.ref b327), .val (.ref xr_377), .unset, .unset, .unset, .unset, .unset, .unset] [(.int (1 : Int32))])) _
        exact kk)
      exact ⟨(1 : Int32), rfl, pre392⟩
  have pre393 : ∀ t, Steps p.tables e below (T377.setTop (mkF m 126 #[.val (.int i0), .val (.int i1), .val (.int i2), .val (.int i3), .val (.int ch0), .val (.int ch1), .val (.int ch2), .val (.ref b304), .val (.ref xr_320), .val (.ref b327), .val (.ref xr_377), .val (.int dcl), .val (.int ((i3 &&& (2147483647 : Int32)) % (4 : Int32))), .unset, .unset, .unset, .unset] [])) t → Steps p.tables e below (s₁.setTop (entryFrame m #[(.int i0), (.int i1), (.int i2), (.int i3)] maxLocals)) t := fun t kk => pre390 t (by
    refine XS.istore X377.here hx rfl (hb hby at_116) rfl (l' := #[.val (.int i0), .val (.int i1), .val (.int i2), .val (.int i3), .val (.int ch0), .val (.int ch1), .val (.int ch2), .val (.ref b304), .val (.ref xr_320), .val (.ref b327), .val (.ref xr_377), .val (.int dcl), .unset, .unset, .unset, .unset, .unset]) rfl ?_
    show Steps p.tables e below (T377.setTop (mkF m 118 #[.val (.int i0), .val (.int i1), .val (.int i2), .val (.int i3), .val (.int ch0), .val (.int ch1), .val (.int ch2), .val (.ref b304), .val (.ref xr_320), .val (.ref b327), .val (.ref xr_377), .val (.int dcl), .unset, .unset, .unset, .unset, .unset] [])) _
    refine XS.iloadN X377.here hx rfl (hb hby at_118) rfl ?_
    show Steps p.tables e below (T377.setTop (mkF m 119 #[.val (.int i0), .val (.int i1), .val (.int i2), .val (.int i3), .val (.int ch0), .val (.int ch1), .val (.int ch2), .val (.ref b304), .val (.ref xr_320), .val (.ref b327), .val (.ref xr_377), .val (.int dcl), .unset, .unset, .unset, .unset, .unset] [(.int i3)])) _
    refine X377.ldcInt hx hown0 (mvT hZ0 (hw _ (List.mem_of_getElem? (i := 45) rfl))) (g := (mkF m 119 #[.val (.int i0), .val (.int i1), .val (.int i2), .val (.int i3), .val (.int ch0), .val (.int ch1), .val (.int ch2), .val (.ref b304), .val (.ref xr_320), .val (.ref b327), .val (.ref xr_377), .val (.int dcl), .unset, .unset, .unset, .unset, .unset] [(.int i3)])) rfl (hb hby at_119) _ ?_
    show Steps p.tables e below (T377.setTop (mkF m 121 #[.val (.int i0), .val (.int i1), .val (.int i2), .val (.int i3), .val (.int ch0), .val (.int ch1), .val (.int ch2), .val (.ref b304), .val (.ref xr_320), .val (.ref b327), .val (.ref xr_377), .val (.int dcl), .unset, .unset, .unset, .unset, .unset] [(.int (2147483647 : Int32)), (.int i3)])) _
    refine XS.iand X377.here hx rfl (hb hby at_121) rfl ?_
    show Steps p.tables e below (T377.setTop (mkF m 122 #[.val (.int i0), .val (.int i1), .val (.int i2), .val (.int i3), .val (.int ch0), .val (.int ch1), .val (.int ch2), .val (.ref b304), .val (.ref xr_320), .val (.ref b327), .val (.ref xr_377), .val (.int dcl), .unset, .unset, .unset, .unset, .unset] [(.int (i3 &&& (2147483647 : Int32)))])) _
    refine XS.iconst X377.here hx rfl (hb hby at_122) ?_
    show Steps p.tables e below (T377.setTop (mkF m 123 #[.val (.int i0), .val (.int i1), .val (.int i2), .val (.int i3), .val (.int ch0), .val (.int ch1), .val (.int ch2), .val (.ref b304), .val (.ref xr_320), .val (.ref b327), .val (.ref xr_377), .val (.int dcl), .unset, .unset, .unset, .unset, .unset] [(.int (4 : Int32)), (.int (i3 &&& (2147483647 : Int32)))])) _
    refine iremM X377 hx rfl (hb hby at_123) rfl (by decide) ?_
    show Steps p.tables e below (T377.setTop (mkF m 124 #[.val (.int i0), .val (.int i1), .val (.int i2), .val (.int i3), .val (.int ch0), .val (.int ch1), .val (.int ch2), .val (.ref b304), .val (.ref xr_320), .val (.ref b327), .val (.ref xr_377), .val (.int dcl), .unset, .unset, .unset, .unset, .unset] [(.int ((i3 &&& (2147483647 : Int32)) % (4 : Int32)))])) _
    refine XS.istore X377.here hx rfl (hb hby at_124) rfl (l' := #[.val (.int i0), .val (.int i1), .val (.int i2), .val (.int i3), .val (.int ch0), .val (.int ch1), .val (.int ch2), .val (.ref b304), .val (.ref xr_320), .val (.ref b327), .val (.ref xr_377), .val (.int dcl), .val (.int ((i3 &&& (2147483647 : Int32)) % (4 : Int32))), .unset, .unset, .unset, .unset]) rfl ?_
    show Steps p.tables e below (T377.setTop (mkF m 126 #[.val (.int i0), .val (.int i1), .val (.int i2), .val (.int i3), .val (.int ch0), .val (.int ch1), .val (.int ch2), .val (.ref b304), .val (.ref xr_320), .val (.ref b327), .val (.ref xr_377), .val (.int dcl), .val (.int ((i3 &&& (2147483647 : Int32)) % (4 : Int32))), .unset, .unset, .unset, .unset] [])) _
    exact kk)
  obtain ⟨sta, h_sta, hb_sta⟩ : ∃ sta : Nat, ((i3 &&& (2147483647 : Int32)) % (4 : Int32)) = Int32.ofNat sta ∧ (sta ≤ 3) := own_mod4 _
  rw [h_sta] at pre393
  have pre395 : ∀ t, Steps p.tables e below (T377.setTop (mkF m 139 #[.val (.int i0), .val (.int i1), .val (.int i2), .val (.int i3), .val (.int ch0), .val (.int ch1), .val (.int ch2), .val (.ref b304), .val (.ref xr_320), .val (.ref b327), .val (.ref xr_377), .val (.int dcl), .val (.int (Int32.ofNat sta)), .val (.int ((((i3.toUInt32 >>> ((2 : Int32) &&& 31).toUInt32).toInt32) &&& (2147483647 : Int32)) % (Int32.ofNat (4 - sta)))), .unset, .unset, .unset] [])) t → Steps p.tables e below (s₁.setTop (entryFrame m #[(.int i0), (.int i1), (.int i2), (.int i3)] maxLocals)) t := fun t kk => pre393 t (by
    refine XS.iloadN X377.here hx rfl (hb hby at_126) rfl ?_
    show Steps p.tables e below (T377.setTop (mkF m 127 #[.val (.int i0), .val (.int i1), .val (.int i2), .val (.int i3), .val (.int ch0), .val (.int ch1), .val (.int ch2), .val (.ref b304), .val (.ref xr_320), .val (.ref b327), .val (.ref xr_377), .val (.int dcl), .val (.int (Int32.ofNat sta)), .unset, .unset, .unset, .unset] [(.int i3)])) _
    refine XS.iconst X377.here hx rfl (hb hby at_127) ?_
    show Steps p.tables e below (T377.setTop (mkF m 128 #[.val (.int i0), .val (.int i1), .val (.int i2), .val (.int i3), .val (.int ch0), .val (.int ch1), .val (.int ch2), .val (.ref b304), .val (.ref xr_320), .val (.ref b327), .val (.ref xr_377), .val (.int dcl), .val (.int (Int32.ofNat sta)), .unset, .unset, .unset, .unset] [(.int (2 : Int32)), (.int i3)])) _
    refine XS.iushr X377.here hx rfl (hb hby at_128) rfl ?_
    show Steps p.tables e below (T377.setTop (mkF m 129 #[.val (.int i0), .val (.int i1), .val (.int i2), .val (.int i3), .val (.int ch0), .val (.int ch1), .val (.int ch2), .val (.ref b304), .val (.ref xr_320), .val (.ref b327), .val (.ref xr_377), .val (.int dcl), .val (.int (Int32.ofNat sta)), .unset, .unset, .unset, .unset] [(.int ((i3.toUInt32 >>> ((2 : Int32) &&& 31).toUInt32).toInt32))])) _
    refine X377.ldcInt hx hown0 (mvT hZ0 (hw _ (List.mem_of_getElem? (i := 45) rfl))) (g := (mkF m 129 #[.val (.int i0), .val (.int i1), .val (.int i2), .val (.int i3), .val (.int ch0), .val (.int ch1), .val (.int ch2), .val (.ref b304), .val (.ref xr_320), .val (.ref b327), .val (.ref xr_377), .val (.int dcl), .val (.int (Int32.ofNat sta)), .unset, .unset, .unset, .unset] [(.int ((i3.toUInt32 >>> ((2 : Int32) &&& 31).toUInt32).toInt32))])) rfl (hb hby at_129) _ ?_
    show Steps p.tables e below (T377.setTop (mkF m 131 #[.val (.int i0), .val (.int i1), .val (.int i2), .val (.int i3), .val (.int ch0), .val (.int ch1), .val (.int ch2), .val (.ref b304), .val (.ref xr_320), .val (.ref b327), .val (.ref xr_377), .val (.int dcl), .val (.int (Int32.ofNat sta)), .unset, .unset, .unset, .unset] [(.int (2147483647 : Int32)), (.int ((i3.toUInt32 >>> ((2 : Int32) &&& 31).toUInt32).toInt32))])) _
    refine XS.iand X377.here hx rfl (hb hby at_131) rfl ?_
    show Steps p.tables e below (T377.setTop (mkF m 132 #[.val (.int i0), .val (.int i1), .val (.int i2), .val (.int i3), .val (.int ch0), .val (.int ch1), .val (.int ch2), .val (.ref b304), .val (.ref xr_320), .val (.ref b327), .val (.ref xr_377), .val (.int dcl), .val (.int (Int32.ofNat sta)), .unset, .unset, .unset, .unset] [(.int (((i3.toUInt32 >>> ((2 : Int32) &&& 31).toUInt32).toInt32) &&& (2147483647 : Int32)))])) _
    refine XS.iconst X377.here hx rfl (hb hby at_132) ?_
    show Steps p.tables e below (T377.setTop (mkF m 133 #[.val (.int i0), .val (.int i1), .val (.int i2), .val (.int i3), .val (.int ch0), .val (.int ch1), .val (.int ch2), .val (.ref b304), .val (.ref xr_320), .val (.ref b327), .val (.ref xr_377), .val (.int dcl), .val (.int (Int32.ofNat sta)), .unset, .unset, .unset, .unset] [(.int (4 : Int32)), (.int (((i3.toUInt32 >>> ((2 : Int32) &&& 31).toUInt32).toInt32) &&& (2147483647 : Int32)))])) _
    refine XS.iload X377.here hx rfl (hb hby at_133) rfl ?_
    show Steps p.tables e below (T377.setTop (mkF m 135 #[.val (.int i0), .val (.int i1), .val (.int i2), .val (.int i3), .val (.int ch0), .val (.int ch1), .val (.int ch2), .val (.ref b304), .val (.ref xr_320), .val (.ref b327), .val (.ref xr_377), .val (.int dcl), .val (.int (Int32.ofNat sta)), .unset, .unset, .unset, .unset] [(.int (Int32.ofNat sta)), (.int (4 : Int32)), (.int (((i3.toUInt32 >>> ((2 : Int32) &&& 31).toUInt32).toInt32) &&& (2147483647 : Int32)))])) _
    refine XS.isub X377.here hx rfl (hb hby at_135) rfl ?_
    show Steps p.tables e below (T377.setTop (mkF m 136 #[.val (.int i0), .val (.int i1), .val (.int i2), .val (.int i3), .val (.int ch0), .val (.int ch1), .val (.int ch2), .val (.ref b304), .val (.ref xr_320), .val (.ref b327), .val (.ref xr_377), .val (.int dcl), .val (.int (Int32.ofNat sta)), .unset, .unset, .unset, .unset] [(.int ((4 : Int32) - (Int32.ofNat sta))), (.int (((i3.toUInt32 >>> ((2 : Int32) &&& 31).toUInt32).toInt32) &&& (2147483647 : Int32)))])) _
    rw [own_sub4 hb_sta]
    show Steps p.tables e below (T377.setTop (mkF m 136 #[.val (.int i0), .val (.int i1), .val (.int i2), .val (.int i3), .val (.int ch0), .val (.int ch1), .val (.int ch2), .val (.ref b304), .val (.ref xr_320), .val (.ref b327), .val (.ref xr_377), .val (.int dcl), .val (.int (Int32.ofNat sta)), .unset, .unset, .unset, .unset] [(.int (Int32.ofNat (4 - sta))), (.int (((i3.toUInt32 >>> ((2 : Int32) &&& 31).toUInt32).toInt32) &&& (2147483647 : Int32)))])) _
    refine iremM X377 hx rfl (hb hby at_136) rfl (own_nz (by omega) (by omega)) ?_
    show Steps p.tables e below (T377.setTop (mkF m 137 #[.val (.int i0), .val (.int i1), .val (.int i2), .val (.int i3), .val (.int ch0), .val (.int ch1), .val (.int ch2), .val (.ref b304), .val (.ref xr_320), .val (.ref b327), .val (.ref xr_377), .val (.int dcl), .val (.int (Int32.ofNat sta)), .unset, .unset, .unset, .unset] [(.int ((((i3.toUInt32 >>> ((2 : Int32) &&& 31).toUInt32).toInt32) &&& (2147483647 : Int32)) % (Int32.ofNat (4 - sta))))])) _
    refine XS.istore X377.here hx rfl (hb hby at_137) rfl (l' := #[.val (.int i0), .val (.int i1), .val (.int i2), .val (.int i3), .val (.int ch0), .val (.int ch1), .val (.int ch2), .val (.ref b304), .val (.ref xr_320), .val (.ref b327), .val (.ref xr_377), .val (.int dcl), .val (.int (Int32.ofNat sta)), .val (.int ((((i3.toUInt32 >>> ((2 : Int32) &&& 31).toUInt32).toInt32) &&& (2147483647 : Int32)) % (Int32.ofNat (4 - sta)))), .unset, .unset, .unset]) rfl ?_
    show Steps p.tables e below (T377.setTop (mkF m 139 #[.val (.int i0), .val (.int i1), .val (.int i2), .val (.int i3), .val (.int ch0), .val (.int ch1), .val (.int ch2), .val (.ref b304), .val (.ref xr_320), .val (.ref b327), .val (.ref xr_377), .val (.int dcl), .val (.int (Int32.ofNat sta)), .val (.int ((((i3.toUInt32 >>> ((2 : Int32) &&& 31).toUInt32).toInt32) &&& (2147483647 : Int32)) % (Int32.ofNat (4 - sta)))), .unset, .unset, .unset] [])) _
    exact kk)
  obtain ⟨ln, h_ln, hb_ln⟩ : ∃ ln : Nat, ((((i3.toUInt32 >>> ((2 : Int32) &&& 31).toUInt32).toInt32) &&& (2147483647 : Int32)) % (Int32.ofNat (4 - sta))) = Int32.ofNat ln ∧ (ln < 4 - sta) := own_modn _ (by omega) (by omega)
  rw [h_ln] at pre395
  obtain ⟨T397, h397, X397, e397, E397, A397, D397, -, st397⟩ := newO X377 hx hZ0 hown0 (hw _ (List.mem_of_getElem? (i := 46) rfl)) (hw _ (List.mem_of_getElem? (i := 47) rfl)) (hw _ (List.mem_of_getElem? (i := 48) rfl)) rfl (g := (mkF m 139 #[.val (.int i0), .val (.int i1), .val (.int i2), .val (.int i3), .val (.int ch0), .val (.int ch1), .val (.int ch2), .val (.ref b304), .val (.ref xr_320), .val (.ref b327), .val (.ref xr_377), .val (.int dcl), .val (.int (Int32.ofNat sta)), .val (.int (Int32.ofNat ln)), .unset, .unset, .unset] [])) rfl (hb hby at_139) (by decide) (by decide)
  obtain ⟨b397, g397⟩ : ∃ z, z = T377.heap.size := ⟨_, rfl⟩
  rw [← g397] at A397 D397 st397
  have sf398 : Safe Z [("java/lang/String", 7)] s.vm T377.heap b397 := Safe.new (Nat.le_of_eq g397.symm)
  have CR399 : CHr Z [("java/lang/String", 7)] s.vm h0 s.vm h397 := CR380.trans (CHr.ext E397 CR380.1)
  have sf400 : Safe Z [("java/lang/String", 7)] s.vm h397 b304 := Safe.ext E397 CR380.1 sf381
  have sf401 : Safe Z [("java/lang/String", 7)] s.vm h397 xr_320 := Safe.ext E397 CR380.1 sf382
  have sf402 : Safe Z [("java/lang/String", 7)] s.vm h397 tt_320 := Safe.ext E397 CR380.1 sf383
  have sf403 : Safe Z [("java/lang/String", 7)] s.vm h397 b327 := Safe.ext E397 CR380.1 sf384
  have sf404 : Safe Z [("java/lang/String", 7)] s.vm h397 b334 := Safe.ext E397 CR380.1 sf385
  have sf405 : Safe Z [("java/lang/String", 7)] s.vm h397 t359 := Safe.ext E397 CR380.1 sf386
  have sf406 : Safe Z [("java/lang/String", 7)] s.vm h397 xr_377 := Safe.ext E397 CR380.1 sf387
  have sf407 : Safe Z [("java/lang/String", 7)] s.vm h397 tt_377 := Safe.ext E397 CR380.1 sf388
  have sf408 : Safe Z [("java/lang/String", 7)] s.vm h397 b397 := Safe.ext E397 CR380.1 sf398
  have D397_chars : Fld Z h397 b397 "com/example/strict_markup/strictmarkup/Text" "chars" "[C" .null := D397 (Or.inl (hw _ (List.mem_of_getElem? (i := 54) rfl))) (ty := (.array .char)) (by decide)
  have D397_length : Fld Z h397 b397 "com/example/strict_markup/strictmarkup/Text" "length" "I" (.int (0 : Int32)) := D397 (Or.inl (hw _ (List.mem_of_getElem? (i := 61) rfl))) (ty := .int) (by decide)
  have ge409 : n0 ≤ b397 := Nat.le_trans Z0 (Nat.le_trans (Nat.le_trans (Nat.le_trans (Nat.le_trans (Nat.le_trans (Nat.le_trans (Nat.le_trans (Nat.le_trans (Nat.le_trans (Nat.le_trans (Nat.le_trans E304.1 (Keep.of_wr W308).1) (Keep.of_wr W312).1) (Keep.of_wr W315).1) K320.1) E327.1) E334.1) (Keep.of_wr W343).1) (Keep.of_wr W352).1) K359.1) K377.1) (Nat.le_of_eq g397.symm))
  obtain ⟨_, _, ⟨T410, L410, k410, n410⟩, -, X410, ⟨Lc410, hQ410, l410, y410, z410⟩, st410⟩ := X397.specialBack hx (y := (⟨"com/example/strict_markup/strictmarkup/Text", "<init>", "()V"⟩ : MethodName)) rfl hown0 (mvT hZ0 (hw _ (List.mem_of_getElem? (i := 49) rfl))) (mvT hZ0 (hw _ (List.mem_of_getElem? (i := 50) rfl))) (mvT hZ0 (hw _ (List.mem_of_getElem? (i := 51) rfl))) (by decide) (backOf (W := 1) (rm_txI l Z a0 hw [] b397 h397 n0 (Nat.le_trans Z0 (Nat.le_trans (Nat.le_trans (Nat.le_trans (Nat.le_trans (Nat.le_trans (Nat.le_trans (Nat.le_trans (Nat.le_trans (Nat.le_trans (Nat.le_trans (Nat.le_trans E304.1 (Keep.of_wr W308).1) (Keep.of_wr W312).1) (Keep.of_wr W315).1) K320.1) E327.1) E334.1) (Keep.of_wr W343).1) (Keep.of_wr W352).1) K359.1) K377.1) E397.1)) A397 D397_chars ge409 D397_length) hZ0 (hw _ (List.mem_of_getElem? (i := 51) rfl)) (hw _ (List.mem_of_getElem? (i := 48) rfl)) (by decide) (by decide)) (g := (mkF m 143 #[.val (.int i0), .val (.int i1), .val (.int i2), .val (.int i3), .val (.int ch0), .val (.int ch1), .val (.int ch2), .val (.ref b304), .val (.ref xr_320), .val (.ref b327), .val (.ref xr_377), .val (.int dcl), .val (.int (Int32.ofNat sta)), .val (.int (Int32.ofNat ln)), .unset, .unset, .unset] [(.ref b397), (.ref b397)])) rfl (by rw [hml]; rfl) (Steps.refl _) (a := b397) (argsL := []) (rest := [(.ref b397)]) (lenOf pd_26 rfl) rfl (by show 2 * 0 + _ ≤ _; exact Nat.le_of_eq rfl) (hb hby at_143) (fun _ _ => ⟨rfl, e397, (by decide : 9 + 1 ≤ _), (by decide : 23 + 64 ≤ _)⟩)
  dsimp only [Pt.U, Pt.locs, Pt.cells, Pt.slots] at X410 l410 y410 z410 st410 hQ410
  replace l410 := l410.symm
  replace y410 := y410.symm
  replace z410 := z410.symm
  subst l410 y410 z410
  obtain ⟨ca_410, kc_410, rfl, Nq410, K410, f410_0, f410_1, f410_2, f410_3⟩ := hQ410
  have N410 := Fr.app N377 Nq410
  have sf411 : Safe Z [("java/lang/String", 7)] s.vm h397 ca_410 := Safe.new f410_1
  have CR412 : CHr Z [("java/lang/String", 7)] s.vm h0 s.vm T410.heap := CR399.trans (CHr.keep K410 (sfS sf408 sf0) CR399.1)
  have sf413 : Safe Z [("java/lang/String", 7)] s.vm T410.heap b304 := Safe.keep K410 (sfS sf408 sf0) CR399.1 sf400
  have sf414 : Safe Z [("java/lang/String", 7)] s.vm T410.heap xr_320 := Safe.keep K410 (sfS sf408 sf0) CR399.1 sf401
  have sf415 : Safe Z [("java/lang/String", 7)] s.vm T410.heap tt_320 := Safe.keep K410 (sfS sf408 sf0) CR399.1 sf402
  have sf416 : Safe Z [("java/lang/String", 7)] s.vm T410.heap b327 := Safe.keep K410 (sfS sf408 sf0) CR399.1 sf403
  have sf417 : Safe Z [("java/lang/String", 7)] s.vm T410.heap b334 := Safe.keep K410 (sfS sf408 sf0) CR399.1 sf404
  have sf418 : Safe Z [("java/lang/String", 7)] s.vm T410.heap t359 := Safe.keep K410 (sfS sf408 sf0) CR399.1 sf405
  have sf419 : Safe Z [("java/lang/String", 7)] s.vm T410.heap xr_377 := Safe.keep K410 (sfS sf408 sf0) CR399.1 sf406
  have sf420 : Safe Z [("java/lang/String", 7)] s.vm T410.heap tt_377 := Safe.keep K410 (sfS sf408 sf0) CR399.1 sf407
  have sf421 : Safe Z [("java/lang/String", 7)] s.vm T410.heap b397 := Safe.keep K410 (sfS sf408 sf0) CR399.1 sf408
  have sf422 : Safe Z [("java/lang/String", 7)] s.vm T410.heap ca_410 := Safe.keep K410 (sfS sf408 sf0) CR399.1 sf411
  have hL0 : own_t0.length = 64 := by decide
  have c423 : Exa Z T410.heap b397 "com/example/strict_markup/strictmarkup/Text" := (A397.keep K410)
  have ge424 : n0 ≤ ca_410 := Nat.le_trans Z0 (Nat.le_trans (Nat.le_trans (Nat.le_trans (Nat.le_trans (Nat.le_trans (Nat.le_trans (Nat.le_trans (Nat.le_trans (Nat.le_trans (Nat.le_trans (Nat.le_trans (Nat.le_trans E304.1 (Keep.of_wr W308).1) (Keep.of_wr W312).1) (Keep.of_wr W315).1) K320.1) E327.1) E334.1) (Keep.of_wr W343).1) (Keep.of_wr W352).1) K359.1) K377.1) E397.1) f410_1)
  have ne425 : b397 ≠ ca_410 := Nat.ne_of_lt (Nat.lt_of_lt_of_le A397.lt f410_1)
  obtain ⟨cq426, kq426, q426a, q426b, q426c⟩ := isOf hZ0 rfl c423
  obtain ⟨_, _, ⟨T426, L426, k426, n426⟩, -, X426, ⟨Lc426, hQ426, l426, y426, z426⟩, st426⟩ := X410.virtualBack hx (y := (⟨"com/example/strict_markup/strictmarkup/Text", "append", "(C)V"⟩ : MethodName)) (z := (⟨"com/example/strict_markup/strictmarkup/Text", "append", "(C)V"⟩ : MethodName)) hown0 (mvT hZ0 (hw _ (List.mem_of_getElem? (i := 55) rfl))) (mvT hZ0 (hw _ (List.mem_of_getElem? (i := 56) rfl))) (notFace_of_selects (args := #[]) (mvT hZ0 (hw _ (List.mem_of_getElem? (i := 58) rfl)))) (mvT hZ0 (hw _ (List.mem_of_getElem? (i := 58) rfl))) (mvT hZ0 (hw _ (List.mem_of_getElem? (i := 57) rfl))) (by decide) (backOf (W := 0) (rm_txA l Z a0 hw [] b397 ch0 ca_410 kc_410 own_t0 0 T410.heap n0 (Nat.le_trans Z0 (Nat.le_trans (Nat.le_trans (Nat.le_trans (Nat.le_trans (Nat.le_trans (Nat.le_trans (Nat.le_trans (Nat.le_trans (Nat.le_trans (Nat.le_trans (Nat.le_trans (Nat.le_trans E304.1 (Keep.of_wr W308).1) (Keep.of_wr W312).1) (Keep.of_wr W315).1) K320.1) E327.1) E334.1) (Keep.of_wr W343).1) (Keep.of_wr W352).1) K359.1) K377.1) E397.1) K410.1)) c423 f410_3 f410_0 f410_2 ge409 ge424 ne425 (by rw [hL0]; decide) (by rw [hL0]; decide) (own_Wn hw0)) hZ0 (hw _ (List.mem_of_getElem? (i := 59) rfl)) (hw _ (List.mem_of_getElem? (i := 48) rfl)) (by decide) (by decide)) q426a q426c (g := (mkF m 152 #[.val (.int i0), .val (.int i1), .val (.int i2), .val (.int i3), .val (.int ch0), .val (.int ch1), .val (.int ch2), .val (.ref b304), .val (.ref xr_320), .val (.ref b327), .val (.ref xr_377), .val (.int dcl), .val (.int (Int32.ofNat sta)), .val (.int (Int32.ofNat ln)), .val (.ref b397), .unset, .unset] [(.int ch0), (.ref b397)])) rfl (by rw [hml]; rfl) (Steps.refl _) (argsL := [(.int ch0)]) (rest := []) (lenOf pd_27 rfl) rfl (by show 2 * 0 + _ ≤ _; exact Nat.le_of_eq rfl) (hb hby at_152) (fun _ _ => ⟨rfl, rfl, (by decide : 10 + 0 ≤ _), (by decide : 87 + 0 ≤ _)⟩)
  dsimp only [Pt.U, Pt.locs, Pt.cells, Pt.slots] at X426 l426 y426 z426 st426 hQ426
  replace l426 := l426.symm
  replace y426 := y426.symm
  replace z426 := z426.symm
  subst l426 y426 z426
  obtain ⟨rfl, Nq426, K426, f426_0, f426_1, f426_2⟩ := hQ426
  have N426 := Fr.app N410 Nq426
  have CR427 : CHr Z [("java/lang/String", 7)] s.vm h0 s.vm T426.heap := CR412.trans (CHr.keep K426 (sfS sf421 (sfS sf422 sf0)) CR412.1)
  have sf428 : Safe Z [("java/lang/String", 7)] s.vm T426.heap b304 := Safe.keep K426 (sfS sf421 (sfS sf422 sf0)) CR412.1 sf413
  have sf429 : Safe Z [("java/lang/String", 7)] s.vm T426.heap xr_320 := Safe.keep K426 (sfS sf421 (sfS sf422 sf0)) CR412.1 sf414
  have sf430 : Safe Z [("java/lang/String", 7)] s.vm T426.heap tt_320 := Safe.keep K426 (sfS sf421 (sfS sf422 sf0)) CR412.1 sf415
  have sf431 : Safe Z [("java/lang/String", 7)] s.vm T426.heap b327 := Safe.keep K426 (sfS sf421 (sfS sf422 sf0)) CR412.1 sf416
  have sf432 : Safe Z [("java/lang/String", 7)] s.vm T426.heap b334 := Safe.keep K426 (sfS sf421 (sfS sf422 sf0)) CR412.1 sf417
  have sf433 : Safe Z [("java/lang/String", 7)] s.vm T426.heap t359 := Safe.keep K426 (sfS sf421 (sfS sf422 sf0)) CR412.1 sf418
  have sf434 : Safe Z [("java/lang/String", 7)] s.vm T426.heap xr_377 := Safe.keep K426 (sfS sf421 (sfS sf422 sf0)) CR412.1 sf419
  have sf435 : Safe Z [("java/lang/String", 7)] s.vm T426.heap tt_377 := Safe.keep K426 (sfS sf421 (sfS sf422 sf0)) CR412.1 sf420
  have sf436 : Safe Z [("java/lang/String", 7)] s.vm T426.heap b397 := Safe.keep K426 (sfS sf421 (sfS sf422 sf0)) CR412.1 sf421
  have sf437 : Safe Z [("java/lang/String", 7)] s.vm T426.heap ca_410 := Safe.keep K426 (sfS sf421 (sfS sf422 sf0)) CR412.1 sf422
  obtain ⟨t1_, ht1_⟩ : ∃ z : List Int32, z = own_t0.set 0 ch0 := ⟨_, rfl⟩
  have hL1 : t1_.length = 64 := by rw [ht1_, List.length_set]; exact hL0
  have R438 : Arv Z T426.heap ca_410 kc_410 .char (Int32.ofNat t1_.length) (t1_.map Value.int) (.int (0 : Int32)) := by have q := f426_2; rw [ht1_]; exact q
  have c439 : Exa Z T426.heap b397 "com/example/strict_markup/strictmarkup/Text" := (c423.keep K426)
  obtain ⟨cq440, kq440, q440a, q440b, q440c⟩ := isOf hZ0 rfl c439
  obtain ⟨_, _, ⟨T440, L440, k440, n440⟩, -, X440, ⟨Lc440, hQ440, l440, y440, z440⟩, st440⟩ := X426.virtualBack hx (y := (⟨"com/example/strict_markup/strictmarkup/Text", "append", "(C)V"⟩ : MethodName)) (z := (⟨"com/example/strict_markup/strictmarkup/Text", "append", "(C)V"⟩ : MethodName)) hown0 (mvT hZ0 (hw _ (List.mem_of_getElem? (i := 55) rfl))) (mvT hZ0 (hw _ (List.mem_of_getElem? (i := 56) rfl))) (notFace_of_selects (args := #[]) (mvT hZ0 (hw _ (List.mem_of_getElem? (i := 58) rfl)))) (mvT hZ0 (hw _ (List.mem_of_getElem? (i := 58) rfl))) (mvT hZ0 (hw _ (List.mem_of_getElem? (i := 57) rfl))) (by decide) (backOf (W := 0) (rm_txA l Z a0 hw [] b397 ch1 ca_410 kc_410 t1_ 1 T426.heap n0 (Nat.le_trans Z0 (Nat.le_trans (Nat.le_trans (Nat.le_trans (Nat.le_trans (Nat.le_trans (Nat.le_trans (Nat.le_trans (Nat.le_trans (Nat.le_trans (Nat.le_trans (Nat.le_trans (Nat.le_trans (Nat.le_trans E304.1 (Keep.of_wr W308).1) (Keep.of_wr W312).1) (Keep.of_wr W315).1) K320.1) E327.1) E334.1) (Keep.of_wr W343).1) (Keep.of_wr W352).1) K359.1) K377.1) E397.1) K410.1) K426.1)) c439 f426_0 f426_1 R438 ge409 ge424 ne425 (by rw [hL1]; decide) (by rw [hL1]; decide) (own_Wn hw1)) hZ0 (hw _ (List.mem_of_getElem? (i := 59) rfl)) (hw _ (List.mem_of_getElem? (i := 48) rfl)) (by decide) (by decide)) q440a q440c (g := (mkF m 159 #[.val (.int i0), .val (.int i1), .val (.int i2), .val (.int i3), .val (.int ch0), .val (.int ch1), .val (.int ch2), .val (.ref b304), .val (.ref xr_320), .val (.ref b327), .val (.ref xr_377), .val (.int dcl), .val (.int (Int32.ofNat sta)), .val (.int (Int32.ofNat ln)), .val (.ref b397), .unset, .unset] [(.int ch1), (.ref b397)])) rfl (by rw [hml]; rfl) (Steps.refl _) (argsL := [(.int ch1)]) (rest := []) (lenOf pd_27 rfl) rfl (by show 2 * 0 + _ ≤ _; exact Nat.le_of_eq rfl) (hb hby at_159) (fun _ _ => ⟨rfl, rfl, (by decide : 10 + 0 ≤ _), (by decide : 87 + 0 ≤ _)⟩)
  dsimp only [Pt.U, Pt.locs, Pt.cells, Pt.slots] at X440 l440 y440 z440 st440 hQ440
  replace l440 := l440.symm
  replace y440 := y440.symm
  replace z440 := z440.symm
  subst l440 y440 z440
  obtain ⟨rfl, Nq440, K440, f440_0, f440_1, f440_2⟩ := hQ440
  have N440 := Fr.app N426 Nq440
  have CR441 : CHr Z [("java/lang/String", 7)] s.vm h0 s.vm T440.heap := CR427.trans (CHr.keep K440 (sfS sf436 (sfS sf437 sf0)) CR427.1)
  have sf442 : Safe Z [("java/lang/String", 7)] s.vm T440.heap b304 := Safe.keep K440 (sfS sf436 (sfS sf437 sf0)) CR427.1 sf428
  have sf443 : Safe Z [("java/lang/String", 7)] s.vm T440.heap xr_320 := Safe.keep K440 (sfS sf436 (sfS sf437 sf0)) CR427.1 sf429
  have sf444 : Safe Z [("java/lang/String", 7)] s.vm T440.heap tt_320 := Safe.keep K440 (sfS sf436 (sfS sf437 sf0)) CR427.1 sf430
  have sf445 : Safe Z [("java/lang/String", 7)] s.vm T440.heap b327 := Safe.keep K440 (sfS sf436 (sfS sf437 sf0)) CR427.1 sf431
  have sf446 : Safe Z [("java/lang/String", 7)] s.vm T440.heap b334 := Safe.keep K440 (sfS sf436 (sfS sf437 sf0)) CR427.1 sf432
  have sf447 : Safe Z [("java/lang/String", 7)] s.vm T440.heap t359 := Safe.keep K440 (sfS sf436 (sfS sf437 sf0)) CR427.1 sf433
  have sf448 : Safe Z [("java/lang/String", 7)] s.vm T440.heap xr_377 := Safe.keep K440 (sfS sf436 (sfS sf437 sf0)) CR427.1 sf434
  have sf449 : Safe Z [("java/lang/String", 7)] s.vm T440.heap tt_377 := Safe.keep K440 (sfS sf436 (sfS sf437 sf0)) CR427.1 sf435
  have sf450 : Safe Z [("java/lang/String", 7)] s.vm T440.heap b397 := Safe.keep K440 (sfS sf436 (sfS sf437 sf0)) CR427.1 sf436
  have sf451 : Safe Z [("java/lang/String", 7)] s.vm T440.heap ca_410 := Safe.keep K440 (sfS sf436 (sfS sf437 sf0)) CR427.1 sf437
  obtain ⟨t2_, ht2_⟩ : ∃ z : List Int32, z = t1_.set 1 ch1 := ⟨_, rfl⟩
  have hL2 : t2_.length = 64 := by rw [ht2_, List.length_set]; exact hL1
  have R452 : Arv Z T440.heap ca_410 kc_410 .char (Int32.ofNat t2_.length) (t2_.map Value.int) (.int (0 : Int32)) := by have q := f440_2; rw [ht2_]; exact q
  have c453 : Exa Z T440.heap b397 "com/example/strict_markup/strictmarkup/Text" := (c439.keep K440)
  obtain ⟨cq454, kq454, q454a, q454b, q454c⟩ := isOf hZ0 rfl c453
  obtain ⟨_, _, ⟨T454, L454, k454, n454⟩, -, X454, ⟨Lc454, hQ454, l454, y454, z454⟩, st454⟩ := X440.virtualBack hx (y := (⟨"com/example/strict_markup/strictmarkup/Text", "append", "(C)V"⟩ : MethodName)) (z := (⟨"com/example/strict_markup/strictmarkup/Text", "append", "(C)V"⟩ : MethodName)) hown0 (mvT hZ0 (hw _ (List.mem_of_getElem? (i := 55) rfl))) (mvT hZ0 (hw _ (List.mem_of_getElem? (i := 56) rfl))) (notFace_of_selects (args := #[]) (mvT hZ0 (hw _ (List.mem_of_getElem? (i := 58) rfl)))) (mvT hZ0 (hw _ (List.mem_of_getElem? (i := 58) rfl))) (mvT hZ0 (hw _ (List.mem_of_getElem? (i := 57) rfl))) (by decide) (backOf (W := 0) (rm_txA l Z a0 hw [] b397 ch2 ca_410 kc_410 t2_ 2 T440.heap n0 (Nat.le_trans Z0 (Nat.le_trans (Nat.le_trans (Nat.le_trans (Nat.le_trans (Nat.le_trans (Nat.le_trans (Nat.le_trans (Nat.le_trans (Nat.le_trans (Nat.le_trans (Nat.le_trans (Nat.le_trans (Nat.le_trans (Nat.le_trans E304.1 (Keep.of_wr W308).1) (Keep.of_wr W312).1) (Keep.of_wr W315).1) K320.1) E327.1) E334.1) (Keep.of_wr W343).1) (Keep.of_wr W352).1) K359.1) K377.1) E397.1) K410.1) K426.1) K440.1)) c453 f440_0 f440_1 R452 ge409 ge424 ne425 (by rw [hL2]; decide) (by rw [hL2]; decide) (own_Wn hw2)) hZ0 (hw _ (List.mem_of_getElem? (i := 59) rfl)) (hw _ (List.mem_of_getElem? (i := 48) rfl)) (by decide) (by decide)) q454a q454c (g := (mkF m 166 #[.val (.int i0), .val (.int i1), .val (.int i2), .val (.int i3), .val (.int ch0), .val (.int ch1), .val (.int ch2), .val (.ref b304), .val (.ref xr_320), .val (.ref b327), .val (.ref xr_377), .val (.int dcl), .val (.int (Int32.ofNat sta)), .val (.int (Int32.ofNat ln)), .val (.ref b397), .unset, .unset] [(.int ch2), (.ref b397)])) rfl (by rw [hml]; rfl) (Steps.refl _) (argsL := [(.int ch2)]) (rest := []) (lenOf pd_27 rfl) rfl (by show 2 * 0 + _ ≤ _; exact Nat.le_of_eq rfl) (hb hby at_166) (fun _ _ => ⟨rfl, rfl, (by decide : 10 + 0 ≤ _), (by decide : 87 + 0 ≤ _)⟩)
  dsimp only [Pt.U, Pt.locs, Pt.cells, Pt.slots] at X454 l454 y454 z454 st454 hQ454
  replace l454 := l454.symm
  replace y454 := y454.symm
  replace z454 := z454.symm
  subst l454 y454 z454
  obtain ⟨rfl, Nq454, K454, f454_0, f454_1, f454_2⟩ := hQ454
  have N454 := Fr.app N440 Nq454
  have CR455 : CHr Z [("java/lang/String", 7)] s.vm h0 s.vm T454.heap := CR441.trans (CHr.keep K454 (sfS sf450 (sfS sf451 sf0)) CR441.1)
  have sf456 : Safe Z [("java/lang/String", 7)] s.vm T454.heap b304 := Safe.keep K454 (sfS sf450 (sfS sf451 sf0)) CR441.1 sf442
  have sf457 : Safe Z [("java/lang/String", 7)] s.vm T454.heap xr_320 := Safe.keep K454 (sfS sf450 (sfS sf451 sf0)) CR441.1 sf443
  have sf458 : Safe Z [("java/lang/String", 7)] s.vm T454.heap tt_320 := Safe.keep K454 (sfS sf450 (sfS sf451 sf0)) CR441.1 sf444
  have sf459 : Safe Z [("java/lang/String", 7)] s.vm T454.heap b327 := Safe.keep K454 (sfS sf450 (sfS sf451 sf0)) CR441.1 sf445
  have sf460 : Safe Z [("java/lang/String", 7)] s.vm T454.heap b334 := Safe.keep K454 (sfS sf450 (sfS sf451 sf0)) CR441.1 sf446
  have sf461 : Safe Z [("java/lang/String", 7)] s.vm T454.heap t359 := Safe.keep K454 (sfS sf450 (sfS sf451 sf0)) CR441.1 sf447
  have sf462 : Safe Z [("java/lang/String", 7)] s.vm T454.heap xr_377 := Safe.keep K454 (sfS sf450 (sfS sf451 sf0)) CR441.1 sf448
  have sf463 : Safe Z [("java/lang/String", 7)] s.vm T454.heap tt_377 := Safe.keep K454 (sfS sf450 (sfS sf451 sf0)) CR441.1 sf449
  have sf464 : Safe Z [("java/lang/String", 7)] s.vm T454.heap b397 := Safe.keep K454 (sfS sf450 (sfS sf451 sf0)) CR441.1 sf450
  have sf465 : Safe Z [("java/lang/String", 7)] s.vm T454.heap ca_410 := Safe.keep K454 (sfS sf450 (sfS sf451 sf0)) CR441.1 sf451
  obtain ⟨t3_, ht3_⟩ : ∃ z : List Int32, z = t2_.set 2 ch2 := ⟨_, rfl⟩
  have hL3 : t3_.length = 64 := by rw [ht3_, List.length_set]; exact hL2
  have R466 : Arv Z T454.heap ca_410 kc_410 .char (Int32.ofNat t3_.length) (t3_.map Value.int) (.int (0 : Int32)) := by have q := f454_2; rw [ht3_]; exact q
  have hT : t3_ = ((own_t0.set 0 ch0).set 1 ch1).set 2 ch2 := by rw [ht3_, ht2_, ht1_]
  have hW3 : ∀ c ∈ t3_, own_W c := by rw [hT]; exact own_t3W hw0 hw1 hw2
  have hG3 : ∀ q, q < 3 → t3_.getD q 0 = ([ch0, ch1, ch2] : List Int32).getD q 0 := by rw [hT]; exact own_t3get ch0 ch1 ch2
  obtain ⟨T467, h467, X467, e467, E467, A467, D467, -, st467⟩ := newO X454 hx hZ0 hown0 (hw _ (List.mem_of_getElem? (i := 62) rfl)) (hw _ (List.mem_of_getElem? (i := 63) rfl)) (hw _ (List.mem_of_getElem? (i := 64) rfl)) rfl (g := (mkF m 169 #[.val (.int i0), .val (.int i1), .val (.int i2), .val (.int i3), .val (.int ch0), .val (.int ch1), .val (.int ch2), .val (.ref b304), .val (.ref xr_320), .val (.ref b327), .val (.ref xr_377), .val (.int dcl), .val (.int (Int32.ofNat sta)), .val (.int (Int32.ofNat ln)), .val (.ref b397), .unset, .unset] [])) rfl (hb hby at_169) (by decide) (by decide)
  obtain ⟨b467, g467⟩ : ∃ z, z = T454.heap.size := ⟨_, rfl⟩
  rw [← g467] at A467 D467 st467
  have sf468 : Safe Z [("java/lang/String", 7)] s.vm T454.heap b467 := Safe.new (Nat.le_of_eq g467.symm)
  have CR469 : CHr Z [("java/lang/String", 7)] s.vm h0 s.vm h467 := CR455.trans (CHr.ext E467 CR455.1)
  have sf470 : Safe Z [("java/lang/String", 7)] s.vm h467 b304 := Safe.ext E467 CR455.1 sf456
  have sf471 : Safe Z [("java/lang/String", 7)] s.vm h467 xr_320 := Safe.ext E467 CR455.1 sf457
  have sf472 : Safe Z [("java/lang/String", 7)] s.vm h467 tt_320 := Safe.ext E467 CR455.1 sf458
  have sf473 : Safe Z [("java/lang/String", 7)] s.vm h467 b327 := Safe.ext E467 CR455.1 sf459
  have sf474 : Safe Z [("java/lang/String", 7)] s.vm h467 b334 := Safe.ext E467 CR455.1 sf460
  have sf475 : Safe Z [("java/lang/String", 7)] s.vm h467 t359 := Safe.ext E467 CR455.1 sf461
  have sf476 : Safe Z [("java/lang/String", 7)] s.vm h467 xr_377 := Safe.ext E467 CR455.1 sf462
  have sf477 : Safe Z [("java/lang/String", 7)] s.vm h467 tt_377 := Safe.ext E467 CR455.1 sf463
  have sf478 : Safe Z [("java/lang/String", 7)] s.vm h467 b397 := Safe.ext E467 CR455.1 sf464
  have sf479 : Safe Z [("java/lang/String", 7)] s.vm h467 ca_410 := Safe.ext E467 CR455.1 sf465
  have sf480 : Safe Z [("java/lang/String", 7)] s.vm h467 b467 := Safe.ext E467 CR455.1 sf468
  have D467_name : Fld Z h467 b467 "com/example/strict_markup/strictmarkup/Attribute" "name" "Ljava/lang/String;" .null := D467 (Or.inl (hw _ (List.mem_of_getElem? (i := 80) rfl))) (ty := (.object "java/lang/String")) (by decide)
  have D467_type : Fld Z h467 b467 "com/example/strict_markup/strictmarkup/Attribute" "type" "Ljava/lang/String;" .null := D467 (Or.inl (hw _ (List.mem_of_getElem? (i := 82) rfl))) (ty := (.object "java/lang/String")) (by decide)
  have D467_declared : Fld Z h467 b467 "com/example/strict_markup/strictmarkup/Attribute" "declared" "Z" (.int (0 : Int32)) := D467 (Or.inl (hw _ (List.mem_of_getElem? (i := 84) rfl))) (ty := .boolean) (by decide)
  have D467_specified : Fld Z h467 b467 "com/example/strict_markup/strictmarkup/Attribute" "specified" "Z" (.int (0 : Int32)) := D467 (Or.inl (hw _ (List.mem_of_getElem? (i := 86) rfl))) (ty := .boolean) (by decide)
  have D467_value : Fld Z h467 b467 "com/example/strict_markup/strictmarkup/Attribute" "value" "Ljava/lang/String;" .null := D467 (Or.inl (hw _ (List.mem_of_getElem? (i := 88) rfl))) (ty := (.object "java/lang/String")) (by decide)
  have D467_text : Fld Z h467 b467 "com/example/strict_markup/strictmarkup/Attribute" "text" "Lcom/example/strict_markup/strictmarkup/Text;" .null := D467 (Or.inl (hw _ (List.mem_of_getElem? (i := 90) rfl))) (ty := (.object "com/example/strict_markup/strictmarkup/Text")) (by decide)
  have D467_start : Fld Z h467 b467 "com/example/strict_markup/strictmarkup/Attribute" "start" "I" (.int (0 : Int32)) := D467 (Or.inl (hw _ (List.mem_of_getElem? (i := 92) rfl))) (ty := .int) (by decide)
  have D467_length : Fld Z h467 b467 "com/example/strict_markup/strictmarkup/Attribute" "length" "I" (.int (0 : Int32)) := D467 (Or.inl (hw _ (List.mem_of_getElem? (i := 94) rfl))) (ty := .int) (by decide)
  obtain ⟨_, _, ⟨T481, L481, k481, n481⟩, -, X481, ⟨Lc481, hQ481, l481, y481, z481⟩, st481⟩ := X467.specialBack hx (y := (⟨"com/example/strict_markup/strictmarkup/Attribute", "<init>", "()V"⟩ : MethodName)) rfl hown0 (mvT hZ0 (hw _ (List.mem_of_getElem? (i := 65) rfl))) (mvT hZ0 (hw _ (List.mem_of_getElem? (i := 66) rfl))) (mvT hZ0 (hw _ (List.mem_of_getElem? (i := 67) rfl))) (by decide) (backOf (W := 1) (rm_atI l Z a0 hw [] b467 h467 n0 (Nat.le_trans Z0 (Nat.le_trans (Nat.le_trans (Nat.le_trans (Nat.le_trans (Nat.le_trans (Nat.le_trans (Nat.le_trans (Nat.le_trans (Nat.le_trans (Nat.le_trans (Nat.le_trans (Nat.le_trans (Nat.le_trans (Nat.le_trans (Nat.le_trans (Nat.le_trans E304.1 (Keep.of_wr W308).1) (Keep.of_wr W312).1) (Keep.of_wr W315).1) K320.1) E327.1) E334.1) (Keep.of_wr W343).1) (Keep.of_wr W352).1) K359.1) K377.1) E397.1) K410.1) K426.1) K440.1) K454.1) E467.1)) A467) hZ0 (hw _ (List.mem_of_getElem? (i := 67) rfl)) (hw _ (List.mem_of_getElem? (i := 64) rfl)) (by decide) (by decide)) (g := (mkF m 173 #[.val (.int i0), .val (.int i1), .val (.int i2), .val (.int i3), .val (.int ch0), .val (.int ch1), .val (.int ch2), .val (.ref b304), .val (.ref xr_320), .val (.ref b327), .val (.ref xr_377), .val (.int dcl), .val (.int (Int32.ofNat sta)), .val (.int (Int32.ofNat ln)), .val (.ref b397), .unset, .unset] [(.ref b467), (.ref b467)])) rfl (by rw [hml]; rfl) (Steps.refl _) (a := b467) (argsL := []) (rest := [(.ref b467)]) (lenOf pd_26 rfl) rfl (by show 2 * 0 + _ ≤ _; exact Nat.le_of_eq rfl) (hb hby at_173) (fun _ _ => ⟨rfl, e467, (by decide : 11 + 0 ≤ _), (by decide : 97 + 0 ≤ _)⟩)
  dsimp only [Pt.U, Pt.locs, Pt.cells, Pt.slots] at X481 l481 y481 z481 st481 hQ481
  replace l481 := l481.symm
  replace y481 := y481.symm
  replace z481 := z481.symm
  subst l481 y481 z481
  obtain ⟨rfl, Nq481, e481⟩ := hQ481
  have N481 := Fr.app N454 Nq481
  have ge482 : n0 ≤ b467 := Nat.le_trans Z0 (Nat.le_trans (Nat.le_trans (Nat.le_trans (Nat.le_trans (Nat.le_trans (Nat.le_trans (Nat.le_trans (Nat.le_trans (Nat.le_trans (Nat.le_trans (Nat.le_trans (Nat.le_trans (Nat.le_trans (Nat.le_trans (Nat.le_trans (Nat.le_trans E304.1 (Keep.of_wr W308).1) (Keep.of_wr W312).1) (Keep.of_wr W315).1) K320.1) E327.1) E334.1) (Keep.of_wr W343).1) (Keep.of_wr W352).1) K359.1) K377.1) E397.1) K410.1) K426.1) K440.1) K454.1) (Nat.le_of_eq g467.symm))
  obtain ⟨cq483, kq483, q483a, q483b, q483c⟩ := isOf hZ0 e481 A467
  obtain ⟨_, _, ⟨T483, L483, k483, n483⟩, -, X483, ⟨Lc483, hQ483, l483, y483, z483⟩, st483⟩ := X481.virtualBack hx (y := (⟨"com/example/strict_markup/strictmarkup/Attribute", "specify", "(Ljava/lang/String;Ljava/lang/String;Ljava/lang/String;)V"⟩ : MethodName)) (z := (⟨"com/example/strict_markup/strictmarkup/Attribute", "specify", "(Ljava/lang/String;Ljava/lang/String;Ljava/lang/String;)V"⟩ : MethodName)) hown0 (mvT hZ0 (hw _ (List.mem_of_getElem? (i := 69) rfl))) (mvT hZ0 (hw _ (List.mem_of_getElem? (i := 70) rfl))) (notFace_of_selects (args := #[]) (mvT hZ0 (hw _ (List.mem_of_getElem? (i := 72) rfl)))) (mvT hZ0 (hw _ (List.mem_of_getElem? (i := 72) rfl))) (mvT hZ0 (hw _ (List.mem_of_getElem? (i := 71) rfl))) (by decide) (backOf (W := 0) (rm_sp4 l Z a0 hw [] b467 xr_377 xr_377 xr_377 h467 n0 (Nat.le_trans Z0 (Nat.le_trans (Nat.le_trans (Nat.le_trans (Nat.le_trans (Nat.le_trans (Nat.le_trans (Nat.le_trans (Nat.le_trans (Nat.le_trans (Nat.le_trans (Nat.le_trans (Nat.le_trans (Nat.le_trans (Nat.le_trans (Nat.le_trans (Nat.le_trans E304.1 (Keep.of_wr W308).1) (Keep.of_wr W312).1) (Keep.of_wr W315).1) K320.1) E327.1) E334.1) (Keep.of_wr W343).1) (Keep.of_wr W352).1) K359.1) K377.1) E397.1) K410.1) K426.1) K440.1) K454.1) E467.1)) A467 ge482 D467_name D467_type D467_declared D467_specified D467_value D467_text D467_start D467_length) hZ0 (hw _ (List.mem_of_getElem? (i := 73) rfl)) (hw _ (List.mem_of_getElem? (i := 64) rfl)) (by decide) (by decide)) q483a q483c (g := (mkF m 186 #[.val (.int i0), .val (.int i1), .val (.int i2), .val (.int i3), .val (.int ch0), .val (.int ch1), .val (.int ch2), .val (.ref b304), .val (.ref xr_320), .val (.ref b327), .val (.ref xr_377), .val (.int dcl), .val (.int (Int32.ofNat sta)), .val (.int (Int32.ofNat ln)), .val (.ref b397), .val (.ref b467), .unset] [(.ref xr_377), (.ref xr_377), (.ref xr_377), (.ref b467)])) rfl (by rw [hml]; rfl) (Steps.refl _) (argsL := [(.ref xr_377), (.ref xr_377), (.ref xr_377)]) (rest := []) (lenOf pd_28 rfl) rfl (by show 2 * 0 + _ ≤ _; exact Nat.le_of_eq rfl) (hb hby at_186) (fun _ _ => ⟨rfl, e481, (by decide : 11 + 0 ≤ _), (by decide : 97 + 0 ≤ _)⟩)
  dsimp only [Pt.U, Pt.locs, Pt.cells, Pt.slots] at X483 l483 y483 z483 st483 hQ483
  replace l483 := l483.symm
  replace y483 := y483.symm
  replace z483 := z483.symm
  subst l483 y483 z483
  obtain ⟨rfl, Nq483, K483, f483_0, f483_1, f483_2, f483_3, f483_4, f483_5, f483_6, f483_7⟩ := hQ483
  have N483 := Fr.app N481 Nq483
  have CR484 : CHr Z [("java/lang/String", 7)] s.vm h0 s.vm T483.heap := CR469.trans (CHr.keep K483 (sfS sf480 sf0) CR469.1)
  have sf485 : Safe Z [("java/lang/String", 7)] s.vm T483.heap b304 := Safe.keep K483 (sfS sf480 sf0) CR469.1 sf470
  have sf486 : Safe Z [("java/lang/String", 7)] s.vm T483.heap xr_320 := Safe.keep K483 (sfS sf480 sf0) CR469.1 sf471
  have sf487 : Safe Z [("java/lang/String", 7)] s.vm T483.heap tt_320 := Safe.keep K483 (sfS sf480 sf0) CR469.1 sf472
  have sf488 : Safe Z [("java/lang/String", 7)] s.vm T483.heap b327 := Safe.keep K483 (sfS sf480 sf0) CR469.1 sf473
  have sf489 : Safe Z [("java/lang/String", 7)] s.vm T483.heap b334 := Safe.keep K483 (sfS sf480 sf0) CR469.1 sf474
  have sf490 : Safe Z [("java/lang/String", 7)] s.vm T483.heap t359 := Safe.keep K483 (sfS sf480 sf0) CR469.1 sf475
  have sf491 : Safe Z [("java/lang/String", 7)] s.vm T483.heap xr_377 := Safe.keep K483 (sfS sf480 sf0) CR469.1 sf476
  have sf492 : Safe Z [("java/lang/String", 7)] s.vm T483.heap tt_377 := Safe.keep K483 (sfS sf480 sf0) CR469.1 sf477
  have sf493 : Safe Z [("java/lang/String", 7)] s.vm T483.heap b397 := Safe.keep K483 (sfS sf480 sf0) CR469.1 sf478
  have sf494 : Safe Z [("java/lang/String", 7)] s.vm T483.heap ca_410 := Safe.keep K483 (sfS sf480 sf0) CR469.1 sf479
  have sf495 : Safe Z [("java/lang/String", 7)] s.vm T483.heap b467 := Safe.keep K483 (sfS sf480 sf0) CR469.1 sf480
  have c496 : Exa Z T483.heap b467 "com/example/strict_markup/strictmarkup/Attribute" := (A467.keep K483)
  obtain ⟨cq497, kq497, q497a, q497b, q497c⟩ := isOf hZ0 rfl c496
  obtain ⟨_, _, ⟨T497, L497, k497, n497⟩, -, X497, ⟨Lc497, hQ497, l497, y497, z497⟩, st497⟩ := X483.virtualBack hx (y := (⟨"com/example/strict_markup/strictmarkup/Attribute", "specify", "(Ljava/lang/String;Ljava/lang/String;ZLcom/example/strict_markup/strictmarkup/Text;II)V"⟩ : MethodName)) (z := (⟨"com/example/strict_markup/strictmarkup/Attribute", "specify", "(Ljava/lang/String;Ljava/lang/String;ZLcom/example/strict_markup/strictmarkup/Text;II)V"⟩ : MethodName)) hown0 (mvT hZ0 (hw _ (List.mem_of_getElem? (i := 95) rfl))) (mvT hZ0 (hw _ (List.mem_of_getElem? (i := 75) rfl))) (notFace_of_selects (args := #[]) (mvT hZ0 (hw _ (List.mem_of_getElem? (i := 77) rfl)))) (mvT hZ0 (hw _ (List.mem_of_getElem? (i := 77) rfl))) (mvT hZ0 (hw _ (List.mem_of_getElem? (i := 76) rfl))) (by decide) (backOf (W := 0) (rm_spT l Z a0 hw [] b467 xr_320 b327 dcl b397 (Int32.ofNat sta) (Int32.ofNat ln) (.ref xr_377) (.ref xr_377) (1 : Int32) (1 : Int32) (.ref xr_377) .null (0 : Int32) (0 : Int32) T483.heap n0 (Nat.le_trans Z0 (Nat.le_trans (Nat.le_trans (Nat.le_trans (Nat.le_trans (Nat.le_trans (Nat.le_trans (Nat.le_trans (Nat.le_trans (Nat.le_trans (Nat.le_trans (Nat.le_trans (Nat.le_trans (Nat.le_trans (Nat.le_trans (Nat.le_trans (Nat.le_trans (Nat.le_trans E304.1 (Keep.of_wr W308).1) (Keep.of_wr W312).1) (Keep.of_wr W315).1) K320.1) E327.1) E334.1) (Keep.of_wr W343).1) (Keep.of_wr W352).1) K359.1) K377.1) E397.1) K410.1) K426.1) K440.1) K454.1) E467.1) K483.1)) c496 ge482 (hdcl) f483_0 f483_1 f483_2 f483_3 f483_4 f483_5 f483_6 f483_7) hZ0 (hw _ (List.mem_of_getElem? (i := 78) rfl)) (hw _ (List.mem_of_getElem? (i := 64) rfl)) (by decide) (by decide)) q497a q497c (g := (mkF m 203 #[.val (.int i0), .val (.int i1), .val (.int i2), .val (.int i3), .val (.int ch0), .val (.int ch1), .val (.int ch2), .val (.ref b304), .val (.ref xr_320), .val (.ref b327), .val (.ref xr_377), .val (.int dcl), .val (.int (Int32.ofNat sta)), .val (.int (Int32.ofNat ln)), .val (.ref b397), .val (.ref b467), .unset] [(.int (Int32.ofNat ln)), (.int (Int32.ofNat sta)), (.ref b397), (.int dcl), (.ref b327), (.ref xr_320), (.ref b467)])) rfl (by rw [hml]; rfl) (Steps.refl _) (argsL := [(.ref xr_320), (.ref b327), (.int dcl), (.ref b397), (.int (Int32.ofNat sta)), (.int (Int32.ofNat ln))]) (rest := []) (lenOf pd_14 rfl) rfl (by show 2 * 0 + _ ≤ _; exact Nat.le_of_eq rfl) (hb hby at_203) (fun _ _ => ⟨rfl, rfl, (by decide : 11 + 0 ≤ _), (by decide : 97 + 0 ≤ _)⟩)
  dsimp only [Pt.U, Pt.locs, Pt.cells, Pt.slots] at X497 l497 y497 z497 st497 hQ497
  replace l497 := l497.symm
  replace y497 := y497.symm
  replace z497 := z497.symm
  subst l497 y497 z497
  obtain ⟨rfl, Nq497, K497, f497_0, f497_1, f497_2, f497_3, f497_4, f497_5, f497_6, f497_7⟩ := hQ497
  have N497 := Fr.app N483 Nq497
  have CR498 : CHr Z [("java/lang/String", 7)] s.vm h0 s.vm T497.heap := CR484.trans (CHr.keep K497 (sfS sf495 sf0) CR484.1)
  have sf499 : Safe Z [("java/lang/String", 7)] s.vm T497.heap b304 := Safe.keep K497 (sfS sf495 sf0) CR484.1 sf485
  have sf500 : Safe Z [("java/lang/String", 7)] s.vm T497.heap xr_320 := Safe.keep K497 (sfS sf495 sf0) CR484.1 sf486
  have sf501 : Safe Z [("java/lang/String", 7)] s.vm T497.heap tt_320 := Safe.keep K497 (sfS sf495 sf0) CR484.1 sf487
  have sf502 : Safe Z [("java/lang/String", 7)] s.vm T497.heap b327 := Safe.keep K497 (sfS sf495 sf0) CR484.1 sf488
  have sf503 : Safe Z [("java/lang/String", 7)] s.vm T497.heap b334 := Safe.keep K497 (sfS sf495 sf0) CR484.1 sf489
  have sf504 : Safe Z [("java/lang/String", 7)] s.vm T497.heap t359 := Safe.keep K497 (sfS sf495 sf0) CR484.1 sf490
  have sf505 : Safe Z [("java/lang/String", 7)] s.vm T497.heap xr_377 := Safe.keep K497 (sfS sf495 sf0) CR484.1 sf491
  have sf506 : Safe Z [("java/lang/String", 7)] s.vm T497.heap tt_377 := Safe.keep K497 (sfS sf495 sf0) CR484.1 sf492
  have sf507 : Safe Z [("java/lang/String", 7)] s.vm T497.heap b397 := Safe.keep K497 (sfS sf495 sf0) CR484.1 sf493
  have sf508 : Safe Z [("java/lang/String", 7)] s.vm T497.heap ca_410 := Safe.keep K497 (sfS sf495 sf0) CR484.1 sf494
  have sf509 : Safe Z [("java/lang/String", 7)] s.vm T497.heap b467 := Safe.keep K497 (sfS sf495 sf0) CR484.1 sf495
  have c510 : Exa Z T497.heap b467 "com/example/strict_markup/strictmarkup/Attribute" := (c496.keep K497)
  have c511 : Old Z n0 T497.heap := (((((((((c376.keep K377 all0).ext E397).keep K410 (allS ge409 all0)).keep K426 (allS ge409 (allS ge424 all0))).keep K440 (allS ge409 (allS ge424 all0))).keep K454 (allS ge409 (allS ge424 all0))).ext E467).keep K483 (allS ge482 all0)).keep K497 (allS ge482 all0))
  have c512 : Exa Z T497.heap b397 "com/example/strict_markup/strictmarkup/Text" := ((((c453.keep K454).ext E467).keep K483).keep K497)
  have ne513 : b397 ≠ b467 := Nat.ne_of_lt (Nat.lt_of_lt_of_le f454_1.lt (Nat.le_of_eq g467.symm))
  have c514 : Fld Z T497.heap b397 "com/example/strict_markup/strictmarkup/Text" "chars" "[C" (.ref ca_410) := (((f454_1.ext E467).keep K483 (ninS ne513 nin0)).keep K497 (ninS ne513 nin0))
  have ne515 : ca_410 ≠ b467 := Nat.ne_of_lt (Nat.lt_of_lt_of_le R466.lt (Nat.le_of_eq g467.symm))
  have c516 : Arv Z T497.heap ca_410 kc_410 .char (Int32.ofNat t3_.length) (t3_.map Value.int) (.int (0 : Int32)) := (((R466.ext E467).keep K483 (ninS ne515 nin0)).keep K497 (ninS ne515 nin0))
  obtain ⟨cq517, kq517, q517a, q517b, q517c⟩ := isOf hZ0 rfl c510
  obtain ⟨_, _, ⟨T517, L517, k517, n517⟩, -, X517', hS517', hz517', ⟨Lc517, hQ517, l517, y517, z517, ch517⟩, st517⟩ := X497.virtualBackS hx (y := (⟨"com/example/strict_markup/strictmarkup/Attribute", "value", "()Ljava/lang/String;"⟩ : MethodName)) (z := (⟨"com/example/strict_markup/strictmarkup/Attribute", "value", "()Ljava/lang/String;"⟩ : MethodName)) hown0 (mvT hZ0 (hw _ (List.mem_of_getElem? (i := 96) rfl))) (mvT hZ0 (hw _ (List.mem_of_getElem? (i := 97) rfl))) (notFace_of_selects (args := #[]) (mvT hZ0 (hw _ (List.mem_of_getElem? (i := 99) rfl)))) (mvT hZ0 (hw _ (List.mem_of_getElem? (i := 99) rfl))) (mvT hZ0 (hw _ (List.mem_of_getElem? (i := 98) rfl))) (by decide) (backOfSH (W := 0) (rm_aval l Z a0 hw [] b467 xr_320 b327 dcl b397 ca_410 kc_410 t3_ (.int (0 : Int32)) sta ln G fm T497.heap n0 (Nat.le_trans Z0 (Nat.le_trans (Nat.le_trans (Nat.le_trans (Nat.le_trans (Nat.le_trans (Nat.le_trans (Nat.le_trans (Nat.le_trans (Nat.le_trans (Nat.le_trans (Nat.le_trans (Nat.le_trans (Nat.le_trans (Nat.le_trans (Nat.le_trans (Nat.le_trans (Nat.le_trans (Nat.le_trans E304.1 (Keep.of_wr W308).1) (Keep.of_wr W312).1) (Keep.of_wr W315).1) K320.1) E327.1) E334.1) (Keep.of_wr W343).1) (Keep.of_wr W352).1) K359.1) K377.1) E397.1) K410.1) K426.1) K440.1) K454.1) E467.1) K483.1) K497.1)) q0 hCS q4 q5 q6 q2 hFM c511 c510 ge482 f497_0 f497_1 f497_2 f497_3 f497_4 f497_5 f497_6 f497_7 c512 ne513 c514 c516 (by rw [hL3]; decide) (by rw [hL3]; omega) (by omega) (hW3)) hZ0 (hw _ (List.mem_of_getElem? (i := 100) rfl)) (hw _ (List.mem_of_getElem? (i := 64) rfl)) (by decide) (by decide) (own_EW hw) CR498.1) q517a q517c (g := (mkF m 208 #[.val (.int i0), .val (.int i1), .val (.int i2), .val (.int i3), .val (.int ch0), .val (.int ch1), .val (.int ch2), .val (.ref b304), .val (.ref xr_320), .val (.ref b327), .val (.ref xr_377), .val (.int dcl), .val (.int (Int32.ofNat sta)), .val (.int (Int32.ofNat ln)), .val (.ref b397), .val (.ref b467), .unset] [(.ref b467)])) rfl (by rw [hml]; rfl) (Steps.refl _) (argsL := []) (rest := []) (lenOf pd_29 rfl) rfl (by show 2 * 0 + _ ≤ _; exact Nat.le_of_eq rfl) (hb hby at_208) (fun _ _ => ⟨rfl, rfl, (by decide : 11 + 5 ≤ _), (by decide : 97 + 13 ≤ _)⟩)
  dsimp only [Pt.U, Pt.locs, Pt.cells, Pt.slots] at X517' l517 y517 z517 st517 hQ517 hS517' hz517' ch517
  replace l517 := l517.symm
  replace y517 := y517.symm
  replace z517 := z517.symm
  subst l517 y517 z517
  obtain ⟨xr_517, tt_517, kt_517, cd_517, nn_517, vs_517, rfl, Nq517, K517, f517_0, f517_1, f517_2, f517_3, f517_4, f517_5, f517_6, f517_7, f517_8, f517_9⟩ := hQ517
  have N517 := Fr.app N497 Nq517
  obtain ⟨X517, hS517, hZ517, hown517⟩ := rebS hS0 (Nat.le_trans hk0 (Nat.le_trans (Nat.le_trans (Nat.le_trans (Nat.le_trans (Nat.le_trans (Nat.le_trans (Nat.le_trans (Nat.le_trans (Nat.le_trans (Nat.le_trans (Nat.le_trans (Nat.le_trans (Nat.le_trans (Nat.le_trans (Nat.le_trans (Nat.le_trans (Nat.le_trans (Nat.le_trans E304.1 (Keep.of_wr W308).1) (Keep.of_wr W312).1) (Keep.of_wr W315).1) K320.1) E327.1) E334.1) (Keep.of_wr W343).1) (Keep.of_wr W352).1) K359.1) K377.1) E397.1) K410.1) K426.1) K440.1) K454.1) E467.1) K483.1) K497.1)) X517' hS517' hz517' hZ0 hown0
  have CR518 : CHr Z [("java/lang/String", 7)] s.vm h0 T517.vm T517.heap := CR498.trans ch517
  have sf519 : Safe Z [("java/lang/String", 7)] T517.vm T517.heap b304 := ch517.safe (Nat.lt_of_lt_of_le VR315.lt (Nat.le_trans (Nat.le_trans (Nat.le_trans (Nat.le_trans (Nat.le_trans (Nat.le_trans (Nat.le_trans (Nat.le_trans (Nat.le_trans (Nat.le_trans (Nat.le_trans (Nat.le_trans (Nat.le_trans (Nat.le_trans K320.1 E327.1) E334.1) (Keep.of_wr W343).1) (Keep.of_wr W352).1) K359.1) K377.1) E397.1) K410.1) K426.1) K440.1) K454.1) E467.1) K483.1) K497.1)) sf499
  have sf520 : Safe Z [("java/lang/String", 7)] T517.vm T517.heap xr_320 := ch517.safe (Nat.lt_of_lt_of_le f320_2.lt (Nat.le_trans (Nat.le_trans (Nat.le_trans (Nat.le_trans (Nat.le_trans (Nat.le_trans (Nat.le_trans (Nat.le_trans (Nat.le_trans (Nat.le_trans (Nat.le_trans (Nat.le_trans (Nat.le_trans E327.1 E334.1) (Keep.of_wr W343).1) (Keep.of_wr W352).1) K359.1) K377.1) E397.1) K410.1) K426.1) K440.1) K454.1) E467.1) K483.1) K497.1)) sf500
  have sf521 : Safe Z [("java/lang/String", 7)] T517.vm T517.heap tt_320 := ch517.safe (Nat.lt_of_lt_of_le f320_5.lt (Nat.le_trans (Nat.le_trans (Nat.le_trans (Nat.le_trans (Nat.le_trans (Nat.le_trans (Nat.le_trans (Nat.le_trans (Nat.le_trans (Nat.le_trans (Nat.le_trans (Nat.le_trans (Nat.le_trans E327.1 E334.1) (Keep.of_wr W343).1) (Keep.of_wr W352).1) K359.1) K377.1) E397.1) K410.1) K426.1) K440.1) K454.1) E467.1) K483.1) K497.1)) sf501
  have sf522 : Safe Z [("java/lang/String", 7)] T517.vm T517.heap b327 := ch517.safe (Nat.lt_of_lt_of_le fE359.lt (Nat.le_trans (Nat.le_trans (Nat.le_trans (Nat.le_trans (Nat.le_trans (Nat.le_trans (Nat.le_trans (Nat.le_trans K377.1 E397.1) K410.1) K426.1) K440.1) K454.1) E467.1) K483.1) K497.1)) sf502
  have sf523 : Safe Z [("java/lang/String", 7)] T517.vm T517.heap b334 := ch517.safe (Nat.lt_of_lt_of_le VR352.lt (Nat.le_trans (Nat.le_trans (Nat.le_trans (Nat.le_trans (Nat.le_trans (Nat.le_trans (Nat.le_trans (Nat.le_trans (Nat.le_trans K359.1 K377.1) E397.1) K410.1) K426.1) K440.1) K454.1) E467.1) K483.1) K497.1)) sf503
  have sf524 : Safe Z [("java/lang/String", 7)] T517.vm T517.heap t359 := ch517.safe (Nat.lt_of_lt_of_le fA359.lt (Nat.le_trans (Nat.le_trans (Nat.le_trans (Nat.le_trans (Nat.le_trans (Nat.le_trans (Nat.le_trans (Nat.le_trans K377.1 E397.1) K410.1) K426.1) K440.1) K454.1) E467.1) K483.1) K497.1)) sf504
  have sf525 : Safe Z [("java/lang/String", 7)] T517.vm T517.heap xr_377 := ch517.safe (Nat.lt_of_lt_of_le f377_2.lt (Nat.le_trans (Nat.le_trans (Nat.le_trans (Nat.le_trans (Nat.le_trans (Nat.le_trans (Nat.le_trans E397.1 K410.1) K426.1) K440.1) K454.1) E467.1) K483.1) K497.1)) sf505
  have sf526 : Safe Z [("java/lang/String", 7)] T517.vm T517.heap tt_377 := ch517.safe (Nat.lt_of_lt_of_le f377_5.lt (Nat.le_trans (Nat.le_trans (Nat.le_trans (Nat.le_trans (Nat.le_trans (Nat.le_trans (Nat.le_trans E397.1 K410.1) K426.1) K440.1) K454.1) E467.1) K483.1) K497.1)) sf506
  have sf527 : Safe Z [("java/lang/String", 7)] T517.vm T517.heap b397 := ch517.safe c512.lt sf507
  have sf528 : Safe Z [("java/lang/String", 7)] T517.vm T517.heap ca_410 := ch517.safe c516.lt sf508
  have sf529 : Safe Z [("java/lang/String", 7)] T517.vm T517.heap b467 := ch517.safe c510.lt sf509
  have hl3 : ((t3_.drop sta).take ln).length = ln := own_cut1 (by rw [hL3]; omega)
  have hb3 : ∀ c ∈ ((t3_.drop sta).take ln), ¬ c < 0 ∧ ¬ (65535 : Int32) < c := fun c hc => hW3 c (List.mem_of_mem_drop (List.mem_of_mem_take hc))
  have hg3 : ∀ q, q < ((t3_.drop sta).take ln).length → ((t3_.drop sta).take ln).getD q 0 = ([ch0, ch1, ch2] : List Int32).getD (sta + q) 0 := fun q hq => (own_cut2 (cs := t3_) (o := sta) (n := ln) q (by rw [hl3] at hq; exact hq)).trans (hG3 _ (by rw [hl3] at hq; omega))
  have ne530 : b304 ≠ b334 := Nat.ne_of_lt (Nat.lt_of_lt_of_le (Nat.lt_of_lt_of_le VR315.lt (Nat.le_trans K320.1 E327.1)) (Nat.le_of_eq g334.symm))
  have ne531 : b304 ≠ b327 := Nat.ne_of_lt (Nat.lt_of_lt_of_le (Nat.lt_of_lt_of_le VR315.lt K320.1) (Nat.le_of_eq g327.symm))
  have ne532 : b304 ≠ b397 := Nat.ne_of_lt (Nat.lt_of_lt_of_le (Nat.lt_of_lt_of_le VR315.lt (Nat.le_trans (Nat.le_trans (Nat.le_trans (Nat.le_trans (Nat.le_trans (Nat.le_trans K320.1 E327.1) E334.1) (Keep.of_wr W343).1) (Keep.of_wr W352).1) K359.1) K377.1)) (Nat.le_of_eq g397.symm))
  have ne533 : b304 ≠ ca_410 := Nat.ne_of_lt (Nat.lt_of_lt_of_le (Nat.lt_of_lt_of_le VR315.lt (Nat.le_trans (Nat.le_trans (Nat.le_trans (Nat.le_trans (Nat.le_trans (Nat.le_trans (Nat.le_trans K320.1 E327.1) E334.1) (Keep.of_wr W343).1) (Keep.of_wr W352).1) K359.1) K377.1) E397.1)) f410_1)
  have ne534 : b304 ≠ b467 := Nat.ne_of_lt (Nat.lt_of_lt_of_le (Nat.lt_of_lt_of_le VR315.lt (Nat.le_trans (Nat.le_trans (Nat.le_trans (Nat.le_trans (Nat.le_trans (Nat.le_trans (Nat.le_trans (Nat.le_trans (Nat.le_trans (Nat.le_trans (Nat.le_trans K320.1 E327.1) E334.1) (Keep.of_wr W343).1) (Keep.of_wr W352).1) K359.1) K377.1) E397.1) K410.1) K426.1) K440.1) K454.1)) (Nat.le_of_eq g467.symm))
  have c535 : Arv Z T517.heap b304 ky304 .char (3 : Int32) [(.int ch0), (.int ch1), (.int ch2)] (.int (0 : Int32)) := ((((((((((((((((VR315.keep K320 nin0).ext E327).ext E334).other W343 ne530).other W352 ne530).keep K359 (ninS ne531 nin0)).keep K377 nin0).ext E397).keep K410 (ninS ne532 nin0)).keep K426 (ninS ne532 (ninS ne533 nin0))).keep K440 (ninS ne532 (ninS ne533 nin0))).keep K454 (ninS ne532 (ninS ne533 nin0))).ext E467).keep K483 (ninS ne534 nin0)).keep K497 (ninS ne534 nin0)).keep K517 (ninS ne534 nin0))
  have R536 : Arv Z T517.heap b304 ky304 .char (3 : Int32) (([ch0, ch1, ch2] : List Int32).map Value.int) (.int (0 : Int32)) := by have q := c535; exact q
  have c537 : Exa Z T517.heap b467 "com/example/strict_markup/strictmarkup/Attribute" := (c510.keep K517)
  obtain ⟨cq538, kq538, q538a, q538b, q538c⟩ := isOf hZ517 rfl c537
  obtain ⟨_, _, ⟨T538, L538, k538, n538⟩, -, X538, ⟨Lc538, hQ538, l538, y538, z538⟩, st538⟩ := X517.virtualBack hx (y := (⟨"com/example/strict_markup/strictmarkup/Attribute", "name", "()Ljava/lang/String;"⟩ : MethodName)) (z := (⟨"com/example/strict_markup/strictmarkup/Attribute", "name", "()Ljava/lang/String;"⟩ : MethodName)) hown517 (mvT hZ517 (hw _ (List.mem_of_getElem? (i := 124) rfl))) (mvT hZ517 (hw _ (List.mem_of_getElem? (i := 125) rfl))) (notFace_of_selects (args := #[]) (mvT hZ517 (hw _ (List.mem_of_getElem? (i := 127) rfl)))) (mvT hZ517 (hw _ (List.mem_of_getElem? (i := 127) rfl))) (mvT hZ517 (hw _ (List.mem_of_getElem? (i := 126) rfl))) (by decide) (backOf (W := 1) (rm_gN l Z a0 hw [] b467 xr_320 T517.heap n0 (Nat.le_trans Z0 (Nat.le_trans (Nat.le_trans (Nat.le_trans (Nat.le_trans (Nat.le_trans (Nat.le_trans (Nat.le_trans (Nat.le_trans (Nat.le_trans (Nat.le_trans (Nat.le_trans (Nat.le_trans (Nat.le_trans (Nat.le_trans (Nat.le_trans (Nat.le_trans (Nat.le_trans (Nat.le_trans (Nat.le_trans E304.1 (Keep.of_wr W308).1) (Keep.of_wr W312).1) (Keep.of_wr W315).1) K320.1) E327.1) E334.1) (Keep.of_wr W343).1) (Keep.of_wr W352).1) K359.1) K377.1) E397.1) K410.1) K426.1) K440.1) K454.1) E467.1) K483.1) K497.1) K517.1)) f517_6) hZ517 (hw _ (List.mem_of_getElem? (i := 128) rfl)) (hw _ (List.mem_of_getElem? (i := 64) rfl)) (by decide) (by decide)) q538a q538c (g := (mkF m 217 #[.val (.int i0), .val (.int i1), .val (.int i2), .val (.int i3), .val (.int ch0), .val (.int ch1), .val (.int ch2), .val (.ref b304), .val (.ref xr_320), .val (.ref b327), .val (.ref xr_377), .val (.int dcl), .val (.int (Int32.ofNat sta)), .val (.int (Int32.ofNat ln)), .val (.ref b397), .val (.ref b467), .val (.ref xr_517)] [(.ref b467), (.ref xr_320)])) rfl (by rw [hml]; rfl) (Steps.refl _) (argsL := []) (rest := [(.ref xr_320)]) (lenOf pd_29 rfl) rfl (by show 2 * 0 + _ ≤ _; exact Nat.le_of_eq rfl) (hb hby at_217) (fun _ _ => ⟨rfl, rfl, (by decide : 16 + 0 ≤ _), (by decide : 110 + 0 ≤ _)⟩)
  dsimp only [Pt.U, Pt.locs, Pt.cells, Pt.slots] at X538 l538 y538 z538 st538 hQ538
  replace l538 := l538.symm
  replace y538 := y538.symm
  replace z538 := z538.symm
  subst l538 y538 z538
  obtain ⟨rfl, Nq538, e538⟩ := hQ538
  have N538 := Fr.app N517 Nq538
  have c539 : Exa Z T517.heap xr_320 "java/lang/String" := (((((((((((((((f320_2.ext E327).ext E334).wr W343).wr W352).keep K359).keep K377).ext E397).keep K410).keep K426).keep K440).keep K454).ext E467).keep K483).keep K497).keep K517)
  obtain ⟨cq540, kq540, q540a, q540b, q540c⟩ := isOf hZ517 e538 c539
  obtain ⟨_, _, ⟨T540, L540, k540, n540⟩, -, X540, ⟨Lc540, hQ540, l540, y540, z540⟩, st540⟩ := X538.virtualBack hx (y := (⟨"java/lang/String", "equals", "(Ljava/lang/Object;)Z"⟩ : MethodName)) (z := (⟨"java/lang/String", "equals", "(Ljava/lang/Object;)Z"⟩ : MethodName)) hown517 (mvT hZ517 (hw _ (List.mem_of_getElem? (i := 129) rfl))) (mvT hZ517 (hw _ (List.mem_of_getElem? (i := 130) rfl))) (notFace_of_selects (args := #[]) (mvT hZ517 (hw _ (List.mem_of_getElem? (i := 132) rfl)))) (mvT hZ517 (hw _ (List.mem_of_getElem? (i := 132) rfl))) (mvT hZ517 (hw _ (List.mem_of_getElem? (i := 131) rfl))) (by decide) (backOf (W := 0) (rm_eqS l Z a0 hw [] xr_320 T517.heap n0 (Nat.le_trans Z0 (Nat.le_trans (Nat.le_trans (Nat.le_trans (Nat.le_trans (Nat.le_trans (Nat.le_trans (Nat.le_trans (Nat.le_trans (Nat.le_trans (Nat.le_trans (Nat.le_trans (Nat.le_trans (Nat.le_trans (Nat.le_trans (Nat.le_trans (Nat.le_trans (Nat.le_trans (Nat.le_trans (Nat.le_trans E304.1 (Keep.of_wr W308).1) (Keep.of_wr W312).1) (Keep.of_wr W315).1) K320.1) E327.1) E334.1) (Keep.of_wr W343).1) (Keep.of_wr W352).1) K359.1) K377.1) E397.1) K410.1) K426.1) K440.1) K454.1) E467.1) K483.1) K497.1) K517.1)) ) hZ517 (hw _ (List.mem_of_getElem? (i := 133) rfl)) (hw _ (List.mem_of_getElem? (i := 4) rfl)) (by decide) (by decide)) q540a q540c (g := (mkF m 220 #[.val (.int i0), .val (.int i1), .val (.int i2), .val (.int i3), .val (.int ch0), .val (.int ch1), .val (.int ch2), .val (.ref b304), .val (.ref xr_320), .val (.ref b327), .val (.ref xr_377), .val (.int dcl), .val (.int (Int32.ofNat sta)), .val (.int (Int32.ofNat ln)), .val (.ref b397), .val (.ref b467), .val (.ref xr_517)] [(.ref xr_320), (.ref xr_320)])) rfl (by rw [hml]; rfl) (Steps.refl _) (argsL := [(.ref xr_320)]) (rest := []) (lenOf pd_30 rfl) rfl (by show 2 * 0 + _ ≤ _; exact Nat.le_of_eq rfl) (hb hby at_220) (fun _ _ => ⟨rfl, e538, (by decide : 16 + 0 ≤ _), (by decide : 110 + 0 ≤ _)⟩)
  dsimp only [Pt.U, Pt.locs, Pt.cells, Pt.slots] at X540 l540 y540 z540 st540 hQ540
  replace l540 := l540.symm
  replace y540 := y540.symm
  replace z540 := z540.symm
  subst l540 y540 z540
  obtain ⟨rfl, Nq540, e540⟩ := hQ540
  have N540 := Fr.app N538 Nq540
  obtain ⟨cq541, kq541, q541a, q541b, q541c⟩ := isOf hZ517 e540 c537
  obtain ⟨_, _, ⟨T541, L541, k541, n541⟩, -, X541, ⟨Lc541, hQ541, l541, y541, z541⟩, st541⟩ := X540.virtualBack hx (y := (⟨"com/example/strict_markup/strictmarkup/Attribute", "type", "()Ljava/lang/String;"⟩ : MethodName)) (z := (⟨"com/example/strict_markup/strictmarkup/Attribute", "type", "()Ljava/lang/String;"⟩ : MethodName)) hown517 (mvT hZ517 (hw _ (List.mem_of_getElem? (i := 134) rfl))) (mvT hZ517 (hw _ (List.mem_of_getElem? (i := 135) rfl))) (notFace_of_selects (args := #[]) (mvT hZ517 (hw _ (List.mem_of_getElem? (i := 137) rfl)))) (mvT hZ517 (hw _ (List.mem_of_getElem? (i := 137) rfl))) (mvT hZ517 (hw _ (List.mem_of_getElem? (i := 136) rfl))) (by decide) (backOf (W := 1) (rm_gT l Z a0 hw [] b467 b327 T517.heap n0 (Nat.le_trans Z0 (Nat.le_trans (Nat.le_trans (Nat.le_trans (Nat.le_trans (Nat.le_trans (Nat.le_trans (Nat.le_trans (Nat.le_trans (Nat.le_trans (Nat.le_trans (Nat.le_trans (Nat.le_trans (Nat.le_trans (Nat.le_trans (Nat.le_trans (Nat.le_trans (Nat.le_trans (Nat.le_trans (Nat.le_trans E304.1 (Keep.of_wr W308).1) (Keep.of_wr W312).1) (Keep.of_wr W315).1) K320.1) E327.1) E334.1) (Keep.of_wr W343).1) (Keep.of_wr W352).1) K359.1) K377.1) E397.1) K410.1) K426.1) K440.1) K454.1) E467.1) K483.1) K497.1) K517.1)) f517_7) hZ517 (hw _ (List.mem_of_getElem? (i := 138) rfl)) (hw _ (List.mem_of_getElem? (i := 64) rfl)) (by decide) (by decide)) q541a q541c (g := (mkF m 230 #[.val (.int i0), .val (.int i1), .val (.int i2), .val (.int i3), .val (.int ch0), .val (.int ch1), .val (.int ch2), .val (.ref b304), .val (.ref xr_320), .val (.ref b327), .val (.ref xr_377), .val (.int dcl), .val (.int (Int32.ofNat sta)), .val (.int (Int32.ofNat ln)), .val (.ref b397), .val (.ref b467), .val (.ref xr_517)] [(.ref b467), (.ref b327)])) rfl (by rw [hml]; rfl) (Steps.refl _) (argsL := []) (rest := [(.ref b327)]) (lenOf pd_29 rfl) rfl (by show 2 * 0 + _ ≤ _; exact Nat.le_of_eq rfl) (hb hby at_230) (fun _ _ => ⟨rfl, e540, (by decide : 16 + 0 ≤ _), (by decide : 110 + 0 ≤ _)⟩)
  dsimp only [Pt.U, Pt.locs, Pt.cells, Pt.slots] at X541 l541 y541 z541 st541 hQ541
  replace l541 := l541.symm
  replace y541 := y541.symm
  replace z541 := z541.symm
  subst l541 y541 z541
  obtain ⟨rfl, Nq541, e541⟩ := hQ541
  have N541 := Fr.app N540 Nq541
  have c542 : Exa Z T517.heap b327 "java/lang/String" := ((((((((((fE359.keep K377).ext E397).keep K410).keep K426).keep K440).keep K454).ext E467).keep K483).keep K497).keep K517)
  obtain ⟨cq543, kq543, q543a, q543b, q543c⟩ := isOf hZ517 e541 c542
  obtain ⟨_, _, ⟨T543, L543, k543, n543⟩, -, X543, ⟨Lc543, hQ543, l543, y543, z543⟩, st543⟩ := X541.virtualBack hx (y := (⟨"java/lang/String", "equals", "(Ljava/lang/Object;)Z"⟩ : MethodName)) (z := (⟨"java/lang/String", "equals", "(Ljava/lang/Object;)Z"⟩ : MethodName)) hown517 (mvT hZ517 (hw _ (List.mem_of_getElem? (i := 129) rfl))) (mvT hZ517 (hw _ (List.mem_of_getElem? (i := 130) rfl))) (notFace_of_selects (args := #[]) (mvT hZ517 (hw _ (List.mem_of_getElem? (i := 132) rfl)))) (mvT hZ517 (hw _ (List.mem_of_getElem? (i := 132) rfl))) (mvT hZ517 (hw _ (List.mem_of_getElem? (i := 131) rfl))) (by decide) (backOf (W := 0) (rm_eqS l Z a0 hw [] b327 T517.heap n0 (Nat.le_trans Z0 (Nat.le_trans (Nat.le_trans (Nat.le_trans (Nat.le_trans (Nat.le_trans (Nat.le_trans (Nat.le_trans (Nat.le_trans (Nat.le_trans (Nat.le_trans (Nat.le_trans (Nat.le_trans (Nat.le_trans (Nat.le_trans (Nat.le_trans (Nat.le_trans (Nat.le_trans (Nat.le_trans (Nat.le_trans E304.1 (Keep.of_wr W308).1) (Keep.of_wr W312).1) (Keep.of_wr W315).1) K320.1) E327.1) E334.1) (Keep.of_wr W343).1) (Keep.of_wr W352).1) K359.1) K377.1) E397.1) K410.1) K426.1) K440.1) K454.1) E467.1) K483.1) K497.1) K517.1)) ) hZ517 (hw _ (List.mem_of_getElem? (i := 133) rfl)) (hw _ (List.mem_of_getElem? (i := 4) rfl)) (by decide) (by decide)) q543a q543c (g := (mkF m 233 #[.val (.int i0), .val (.int i1), .val (.int i2), .val (.int i3), .val (.int ch0), .val (.int ch1), .val (.int ch2), .val (.ref b304), .val (.ref xr_320), .val (.ref b327), .val (.ref xr_377), .val (.int dcl), .val (.int (Int32.ofNat sta)), .val (.int (Int32.ofNat ln)), .val (.ref b397), .val (.ref b467), .val (.ref xr_517)] [(.ref b327), (.ref b327)])) rfl (by rw [hml]; rfl) (Steps.refl _) (argsL := [(.ref b327)]) (rest := []) (lenOf pd_30 rfl) rfl (by show 2 * 0 + _ ≤ _; exact Nat.le_of_eq rfl) (hb hby at_233) (fun _ _ => ⟨rfl, e541, (by decide : 16 + 0 ≤ _), (by decide : 110 + 0 ≤ _)⟩)
  dsimp only [Pt.U, Pt.locs, Pt.cells, Pt.slots] at X543 l543 y543 z543 st543 hQ543
  replace l543 := l543.symm
  replace y543 := y543.symm
  replace z543 := z543.symm
  subst l543 y543 z543
  obtain ⟨rfl, Nq543, e543⟩ := hQ543
  have N543 := Fr.app N541 Nq543
  obtain ⟨cq544, kq544, q544a, q544b, q544c⟩ := isOf hZ517 e543 c537
  obtain ⟨_, _, ⟨T544, L544, k544, n544⟩, -, X544, ⟨Lc544, hQ544, l544, y544, z544⟩, st544⟩ := X543.virtualBack hx (y := (⟨"com/example/strict_markup/strictmarkup/Attribute", "declared", "()Z"⟩ : MethodName)) (z := (⟨"com/example/strict_markup/strictmarkup/Attribute", "declared", "()Z"⟩ : MethodName)) hown517 (mvT hZ517 (hw _ (List.mem_of_getElem? (i := 139) rfl))) (mvT hZ517 (hw _ (List.mem_of_getElem? (i := 140) rfl))) (notFace_of_selects (args := #[]) (mvT hZ517 (hw _ (List.mem_of_getElem? (i := 142) rfl)))) (mvT hZ517 (hw _ (List.mem_of_getElem? (i := 142) rfl))) (mvT hZ517 (hw _ (List.mem_of_getElem? (i := 141) rfl))) (by decide) (backOf (W := 0) (rm_gD l Z a0 hw [] b467 dcl T517.heap n0 (Nat.le_trans Z0 (Nat.le_trans (Nat.le_trans (Nat.le_trans (Nat.le_trans (Nat.le_trans (Nat.le_trans (Nat.le_trans (Nat.le_trans (Nat.le_trans (Nat.le_trans (Nat.le_trans (Nat.le_trans (Nat.le_trans (Nat.le_trans (Nat.le_trans (Nat.le_trans (Nat.le_trans (Nat.le_trans (Nat.le_trans E304.1 (Keep.of_wr W308).1) (Keep.of_wr W312).1) (Keep.of_wr W315).1) K320.1) E327.1) E334.1) (Keep.of_wr W343).1) (Keep.of_wr W352).1) K359.1) K377.1) E397.1) K410.1) K426.1) K440.1) K454.1) E467.1) K483.1) K497.1) K517.1)) f517_8 (hdcl)) hZ517 (hw _ (List.mem_of_getElem? (i := 143) rfl)) (hw _ (List.mem_of_getElem? (i := 64) rfl)) (by decide) (by decide)) q544a q544c (g := (mkF m 241 #[.val (.int i0), .val (.int i1), .val (.int i2), .val (.int i3), .val (.int ch0), .val (.int ch1), .val (.int ch2), .val (.ref b304), .val (.ref xr_320), .val (.ref b327), .val (.ref xr_377), .val (.int dcl), .val (.int (Int32.ofNat sta)), .val (.int (Int32.ofNat ln)), .val (.ref b397), .val (.ref b467), .val (.ref xr_517)] [(.ref b467)])) rfl (by rw [hml]; rfl) (Steps.refl _) (argsL := []) (rest := []) (lenOf pd_21 rfl) rfl (by show 2 * 0 + _ ≤ _; exact Nat.le_of_eq rfl) (hb hby at_241) (fun _ _ => ⟨rfl, e543, (by decide : 16 + 0 ≤ _), (by decide : 110 + 0 ≤ _)⟩)
  dsimp only [Pt.U, Pt.locs, Pt.cells, Pt.slots] at X544 l544 y544 z544 st544 hQ544
  replace l544 := l544.symm
  replace y544 := y544.symm
  replace z544 := z544.symm
  subst l544 y544 z544
  obtain ⟨rfl, Nq544, e544⟩ := hQ544
  have N544 := Fr.app N543 Nq544
  obtain ⟨cq545, kq545, q545a, q545b, q545c⟩ := isOf hZ517 e544 c537
  obtain ⟨_, _, ⟨T545, L545, k545, n545⟩, -, X545, ⟨Lc545, hQ545, l545, y545, z545⟩, st545⟩ := X544.virtualBack hx (y := (⟨"com/example/strict_markup/strictmarkup/Attribute", "specified", "()Z"⟩ : MethodName)) (z := (⟨"com/example/strict_markup/strictmarkup/Attribute", "specified", "()Z"⟩ : MethodName)) hown517 (mvT hZ517 (hw _ (List.mem_of_getElem? (i := 144) rfl))) (mvT hZ517 (hw _ (List.mem_of_getElem? (i := 145) rfl))) (notFace_of_selects (args := #[]) (mvT hZ517 (hw _ (List.mem_of_getElem? (i := 147) rfl)))) (mvT hZ517 (hw _ (List.mem_of_getElem? (i := 147) rfl))) (mvT hZ517 (hw _ (List.mem_of_getElem? (i := 146) rfl))) (by decide) (backOf (W := 0) (rm_gS l Z a0 hw [] b467 T517.heap n0 (Nat.le_trans Z0 (Nat.le_trans (Nat.le_trans (Nat.le_trans (Nat.le_trans (Nat.le_trans (Nat.le_trans (Nat.le_trans (Nat.le_trans (Nat.le_trans (Nat.le_trans (Nat.le_trans (Nat.le_trans (Nat.le_trans (Nat.le_trans (Nat.le_trans (Nat.le_trans (Nat.le_trans (Nat.le_trans (Nat.le_trans E304.1 (Keep.of_wr W308).1) (Keep.of_wr W312).1) (Keep.of_wr W315).1) K320.1) E327.1) E334.1) (Keep.of_wr W343).1) (Keep.of_wr W352).1) K359.1) K377.1) E397.1) K410.1) K426.1) K440.1) K454.1) E467.1) K483.1) K497.1) K517.1)) f517_9) hZ517 (hw _ (List.mem_of_getElem? (i := 148) rfl)) (hw _ (List.mem_of_getElem? (i := 64) rfl)) (by decide) (by decide)) q545a q545c (g := (mkF m 251 #[.val (.int i0), .val (.int i1), .val (.int i2), .val (.int i3), .val (.int ch0), .val (.int ch1), .val (.int ch2), .val (.ref b304), .val (.ref xr_320), .val (.ref b327), .val (.ref xr_377), .val (.int dcl), .val (.int (Int32.ofNat sta)), .val (.int (Int32.ofNat ln)), .val (.ref b397), .val (.ref b467), .val (.ref xr_517)] [(.ref b467)])) rfl (by rw [hml]; rfl) (Steps.refl _) (argsL := []) (rest := []) (lenOf pd_21 rfl) rfl (by show 2 * 0 + _ ≤ _; exact Nat.le_of_eq rfl) (hb hby at_251) (fun _ _ => ⟨rfl, e544, (by decide : 16 + 0 ≤ _), (by decide : 110 + 0 ≤ _)⟩)
  dsimp only [Pt.U, Pt.locs, Pt.cells, Pt.slots] at X545 l545 y545 z545 st545 hQ545
  replace l545 := l545.symm
  replace y545 := y545.symm
  replace z545 := z545.symm
  subst l545 y545 z545
  obtain ⟨rfl, Nq545, e545⟩ := hQ545
  have N545 := Fr.app N544 Nq545
  have c547 : Old Z n0 T517.heap := (c511.keep K517 (allS ge482 all0))
  obtain ⟨cq546, kq546, q546a, q546b, q546c⟩ := isOf hZ517 e545 f517_1
  obtain ⟨_, _, ⟨T546, L546, k546, n546⟩, -, X546, ⟨Lc546, hQ546, l546, y546, z546⟩, st546⟩ := X545.virtualBack hx (y := (⟨"java/lang/String", "length", "()I"⟩ : MethodName)) (z := (⟨"java/lang/String", "length", "()I"⟩ : MethodName)) hown517 (mvT hZ517 (hw _ (List.mem_of_getElem? (i := 149) rfl))) (mvT hZ517 (hw _ (List.mem_of_getElem? (i := 150) rfl))) (notFace_of_selects (args := #[]) (mvT hZ517 (hw _ (List.mem_of_getElem? (i := 152) rfl)))) (mvT hZ517 (hw _ (List.mem_of_getElem? (i := 152) rfl))) (mvT hZ517 (hw _ (List.mem_of_getElem? (i := 151) rfl))) (by decide) (StrChars.Road.lenW (W := 0) hZ517 (own_hw_lenW hw) (kI := 4) (hw _ (List.mem_of_getElem? (i := 12) rfl)) f517_1 f517_2 f517_3 f517_4 f517_5 hb3 (q0.ext c547.2) hCS (by omega) (by decide) (by decide)) q546a q546c (g := (mkF m 259 #[.val (.int i0), .val (.int i1), .val (.int i2), .val (.int i3), .val (.int ch0), .val (.int ch1), .val (.int ch2), .val (.ref b304), .val (.ref xr_320), .val (.ref b327), .val (.ref xr_377), .val (.int dcl), .val (.int (Int32.ofNat sta)), .val (.int (Int32.ofNat ln)), .val (.ref b397), .val (.ref b467), .val (.ref xr_517)] [(.ref xr_517)])) rfl (by rw [hml]; rfl) (Steps.refl _) (argsL := []) (rest := []) (lenOf pd_22 rfl) rfl (by show 2 * 0 + _ ≤ _; exact Nat.le_of_eq rfl) (hb hby at_259) (fun _ _ => ⟨rfl, e545, (by decide : 16 + 0 ≤ _), (by decide : 110 + 0 ≤ _)⟩)
  dsimp only [Pt.U, Pt.locs, Pt.cells, Pt.slots] at X546 l546 y546 z546 st546 hQ546
  replace l546 := l546.symm
  replace y546 := y546.symm
  replace z546 := z546.symm
  subst l546 y546 z546
  obtain ⟨rfl, rfl, e546⟩ := hQ546
  have N546 := Fr.app N545 (Fr.nil n0)
  obtain ⟨_, _, ⟨T548, L548, k548, n548⟩, -, X548, ⟨Lc548, hQ548, l548, y548, z548⟩, st548⟩ := Jvm.LawKit.callS X546 hx (y := (⟨"com/example/strict_markup/strictmarkup/AttributeSpecifyPinLaw", "at", "(Ljava/lang/String;[CII)Z"⟩ : MethodName)) hown517 (mvT hZ517 (hw _ (List.mem_of_getElem? (i := 159) rfl))) (mvT hZ517 (hw _ (List.mem_of_getElem? (i := 160) rfl))) (mvT hZ517 (hw _ (List.mem_of_getElem? (i := 161) rfl))) (mvT hZ517 (hw _ (List.mem_of_getElem? (i := 162) rfl))) (by decide) (backOf (W := 0) (rm_at l Z a0 hw [] xr_517 b304 sta 0 tt_517 kt_517 nn_517 vs_517 cd_517 ((t3_.drop sta).take ln) ky304 ([ch0, ch1, ch2]) G fm T517.heap n0 (Nat.le_trans Z0 (Nat.le_trans (Nat.le_trans (Nat.le_trans (Nat.le_trans (Nat.le_trans (Nat.le_trans (Nat.le_trans (Nat.le_trans (Nat.le_trans (Nat.le_trans (Nat.le_trans (Nat.le_trans (Nat.le_trans (Nat.le_trans (Nat.le_trans (Nat.le_trans (Nat.le_trans (Nat.le_trans (Nat.le_trans E304.1 (Keep.of_wr W308).1) (Keep.of_wr W312).1) (Keep.of_wr W315).1) K320.1) E327.1) E334.1) (Keep.of_wr W343).1) (Keep.of_wr W352).1) K359.1) K377.1) E397.1) K410.1) K426.1) K440.1) K454.1) E467.1) K483.1) K497.1) K517.1)) q0 hCS q2 hFM q4 q5 q6 c547 f517_1 f517_2 f517_3 f517_4 (f517_5) (hb3) (by omega) R536 (rfl) (by omega) (hg3) (by decide)) hZ517 (hw _ (List.mem_of_getElem? (i := 162) rfl)) (hw _ (List.mem_of_getElem? (i := 161) rfl)) (by decide) (by decide)) (g := (mkF m 274 #[.val (.int i0), .val (.int i1), .val (.int i2), .val (.int i3), .val (.int ch0), .val (.int ch1), .val (.int ch2), .val (.ref b304), .val (.ref xr_320), .val (.ref b327), .val (.ref xr_377), .val (.int dcl), .val (.int (Int32.ofNat sta)), .val (.int (Int32.ofNat ln)), .val (.ref b397), .val (.ref b467), .val (.ref xr_517)] [(.int (0 : Int32)), (.int (Int32.ofNat sta)), (.ref b304), (.ref xr_517)])) rfl (by rw [hml]; rfl) (argsL := [(.ref xr_517), (.ref b304), (.int (Int32.ofNat sta)), (.int (0 : Int32))]) (rest := []) (lenOf pd_31 rfl) rfl (by show 2 * 0 + _ ≤ _; exact Nat.le_of_eq rfl) (hb hby at_274) (fun _ _ => ⟨rfl, e546, (by decide : 16 + 0 ≤ _), (by decide : 110 + 0 ≤ _)⟩)
  dsimp only [Pt.U, Pt.locs, Pt.cells, Pt.slots] at X548 l548 y548 z548 st548 hQ548
  replace l548 := l548.symm
  replace y548 := y548.symm
  replace z548 := z548.symm
  subst l548 y548 z548
  obtain ⟨rfl, Nq548, e548⟩ := hQ548
  have N548 := Fr.app N546 Nq548
  obtain ⟨_, _, ⟨T549, L549, k549, n549⟩, -, X549, ⟨Lc549, hQ549, l549, y549, z549⟩, st549⟩ := Jvm.LawKit.callS X548 hx (y := (⟨"com/example/strict_markup/strictmarkup/AttributeSpecifyPinLaw", "at", "(Ljava/lang/String;[CII)Z"⟩ : MethodName)) hown517 (mvT hZ517 (hw _ (List.mem_of_getElem? (i := 159) rfl))) (mvT hZ517 (hw _ (List.mem_of_getElem? (i := 160) rfl))) (mvT hZ517 (hw _ (List.mem_of_getElem? (i := 161) rfl))) (mvT hZ517 (hw _ (List.mem_of_getElem? (i := 162) rfl))) (by decide) (backOf (W := 0) (rm_at l Z a0 hw [] xr_517 b304 sta 1 tt_517 kt_517 nn_517 vs_517 cd_517 ((t3_.drop sta).take ln) ky304 ([ch0, ch1, ch2]) G fm T517.heap n0 (Nat.le_trans Z0 (Nat.le_trans (Nat.le_trans (Nat.le_trans (Nat.le_trans (Nat.le_trans (Nat.le_trans (Nat.le_trans (Nat.le_trans (Nat.le_trans (Nat.le_trans (Nat.le_trans (Nat.le_trans (Nat.le_trans (Nat.le_trans (Nat.le_trans (Nat.le_trans (Nat.le_trans (Nat.le_trans (Nat.le_trans E304.1 (Keep.of_wr W308).1) (Keep.of_wr W312).1) (Keep.of_wr W315).1) K320.1) E327.1) E334.1) (Keep.of_wr W343).1) (Keep.of_wr W352).1) K359.1) K377.1) E397.1) K410.1) K426.1) K440.1) K454.1) E467.1) K483.1) K497.1) K517.1)) q0 hCS q2 hFM q4 q5 q6 c547 f517_1 f517_2 f517_3 f517_4 (f517_5) (hb3) (by omega) R536 (rfl) (by omega) (hg3) (by decide)) hZ517 (hw _ (List.mem_of_getElem? (i := 162) rfl)) (hw _ (List.mem_of_getElem? (i := 161) rfl)) (by decide) (by decide)) (g := (mkF m 287 #[.val (.int i0), .val (.int i1), .val (.int i2), .val (.int i3), .val (.int ch0), .val (.int ch1), .val (.int ch2), .val (.ref b304), .val (.ref xr_320), .val (.ref b327), .val (.ref xr_377), .val (.int dcl), .val (.int (Int32.ofNat sta)), .val (.int (Int32.ofNat ln)), .val (.ref b397), .val (.ref b467), .val (.ref xr_517)] [(.int (1 : Int32)), (.int (Int32.ofNat sta)), (.ref b304), (.ref xr_517)])) rfl (by rw [hml]; rfl) (argsL := [(.ref xr_517), (.ref b304), (.int (Int32.ofNat sta)), (.int (1 : Int32))]) (rest := []) (lenOf pd_31 rfl) rfl (by show 2 * 0 + _ ≤ _; exact Nat.le_of_eq rfl) (hb hby at_287) (fun _ _ => ⟨rfl, e548, (by decide : 16 + 0 ≤ _), (by decide : 110 + 0 ≤ _)⟩)
  dsimp only [Pt.U, Pt.locs, Pt.cells, Pt.slots] at X549 l549 y549 z549 st549 hQ549
  replace l549 := l549.symm
  replace y549 := y549.symm
  replace z549 := z549.symm
  subst l549 y549 z549
  obtain ⟨rfl, Nq549, e549⟩ := hQ549
  have N549 := Fr.app N548 Nq549
  obtain ⟨_, _, ⟨T550, L550, k550, n550⟩, -, X550, ⟨Lc550, hQ550, l550, y550, z550⟩, st550⟩ := Jvm.LawKit.callS X549 hx (y := (⟨"com/example/strict_markup/strictmarkup/AttributeSpecifyPinLaw", "at", "(Ljava/lang/String;[CII)Z"⟩ : MethodName)) hown517 (mvT hZ517 (hw _ (List.mem_of_getElem? (i := 159) rfl))) (mvT hZ517 (hw _ (List.mem_of_getElem? (i := 160) rfl))) (mvT hZ517 (hw _ (List.mem_of_getElem? (i := 161) rfl))) (mvT hZ517 (hw _ (List.mem_of_getElem? (i := 162) rfl))) (by decide) (backOf (W := 0) (rm_at l Z a0 hw [] xr_517 b304 sta 2 tt_517 kt_517 nn_517 vs_517 cd_517 ((t3_.drop sta).take ln) ky304 ([ch0, ch1, ch2]) G fm T517.heap n0 (Nat.le_trans Z0 (Nat.le_trans (Nat.le_trans (Nat.le_trans (Nat.le_trans (Nat.le_trans (Nat.le_trans (Nat.le_trans (Nat.le_trans (Nat.le_trans (Nat.le_trans (Nat.le_trans (Nat.le_trans (Nat.le_trans (Nat.le_trans (Nat.le_trans (Nat.le_trans (Nat.le_trans (Nat.le_trans (Nat.le_trans E304.1 (Keep.of_wr W308).1) (Keep.of_wr W312).1) (Keep.of_wr W315).1) K320.1) E327.1) E334.1) (Keep.of_wr W343).1) (Keep.of_wr W352).1) K359.1) K377.1) E397.1) K410.1) K426.1) K440.1) K454.1) E467.1) K483.1) K497.1) K517.1)) q0 hCS q2 hFM q4 q5 q6 c547 f517_1 f517_2 f517_3 f517_4 (f517_5) (hb3) (by omega) R536 (rfl) (by omega) (hg3) (by decide)) hZ517 (hw _ (List.mem_of_getElem? (i := 162) rfl)) (hw _ (List.mem_of_getElem? (i := 161) rfl)) (by decide) (by decide)) (g := (mkF m 300 #[.val (.int i0), .val (.int i1), .val (.int i2), .val (.int i3), .val (.int ch0), .val (.int ch1), .val (.int ch2), .val (.ref b304), .val (.ref xr_320), .val (.ref b327), .val (.ref xr_377), .val (.int dcl), .val (.int (Int32.ofNat sta)), .val (.int (Int32.ofNat ln)), .val (.ref b397), .val (.ref b467), .val (.ref xr_517)] [(.int (2 : Int32)), (.int (Int32.ofNat sta)), (.ref b304), (.ref xr_517)])) rfl (by rw [hml]; rfl) (argsL := [(.ref xr_517), (.ref b304), (.int (Int32.ofNat sta)), (.int (2 : Int32))]) (rest := []) (lenOf pd_31 rfl) rfl (by show 2 * 0 + _ ≤ _; exact Nat.le_of_eq rfl) (hb hby at_300) (fun _ _ => ⟨rfl, e549, (by decide : 16 + 0 ≤ _), (by decide : 110 + 0 ≤ _)⟩)
  dsimp only [Pt.U, Pt.locs, Pt.cells, Pt.slots] at X550 l550 y550 z550 st550 hQ550
  replace l550 := l550.symm
  replace y550 := y550.symm
  replace z550 := z550.symm
  subst l550 y550 z550
  obtain ⟨rfl, Nq550, e550⟩ := hQ550
  have N550 := Fr.app N549 Nq550
  obtain ⟨fs, hr, hrun, hended, hEnd⟩ := X550.leaveW hS517 (by rw [e550]; exact (Nat.le_refl _)) (v := some (.int (1 : Int32))) (fun h => by rw [Bd.returns] at h; cases h)
  refine ⟨_, _, pre395 _ ?_, hrun, hended, _, _, rfl, ?_, hEnd.1, hEnd.2.1, hEnd.2.2.1, hEnd.2.2.2.mono (by decide) (by decide)⟩
  · refine st397 _ ?_
    show Steps p.tables e below (T397.setTop (mkF m 142 #[.val (.int i0), .val (.int i1), .val (.int i2), .val (.int i3), .val (.int ch0), .val (.int ch1), .val (.int ch2), .val (.ref b304), .val (.ref xr_320), .val (.ref b327), .val (.ref xr_377), .val (.int dcl), .val (.int (Int32.ofNat sta)), .val (.int (Int32.ofNat ln)), .unset, .unset, .unset] [(.ref b397)])) _
    refine XS.dup X397.here hx rfl (hb hby at_142) rfl rfl ?_
    show Steps p.tables e below (T397.setTop (mkF m 143 #[.val (.int i0), .val (.int i1), .val (.int i2), .val (.int i3), .val (.int ch0), .val (.int ch1), .val (.int ch2), .val (.ref b304), .val (.ref xr_320), .val (.ref b327), .val (.ref xr_377), .val (.int dcl), .val (.int (Int32.ofNat sta)), .val (.int (Int32.ofNat ln)), .unset, .unset, .unset] [(.ref b397), (.ref b397)])) _
    refine st410.trans ?_
    show Steps p.tables e below (T410.setTop (mkF m 146 #[.val (.int i0), .val (.int i1), .val (.int i2), .val (.int i3), .val (.int ch0), .val (.int ch1), .val (.int ch2), .val (.ref b304), .val (.ref xr_320), .val (.ref b327), .val (.ref xr_377), .val (.int dcl), .val (.int (Int32.ofNat sta)), .val (.int (Int32.ofNat ln)), .unset, .unset, .unset] [(.ref b397)])) _
    refine XS.astore X410.here hx rfl (hb hby at_146) rfl rfl (l' := #[.val (.int i0), .val (.int i1), .val (.int i2), .val (.int i3), .val (.int ch0), .val (.int ch1), .val (.int ch2), .val (.ref b304), .val (.ref xr_320), .val (.ref b327), .val (.ref xr_377), .val (.int dcl), .val (.int (Int32.ofNat sta)), .val (.int (Int32.ofNat ln)), .val (.ref b397), .unset, .unset]) rfl ?_
    show Steps p.tables e below (T410.setTop (mkF m 148 #[.val (.int i0), .val (.int i1), .val (.int i2), .val (.int i3), .val (.int ch0), .val (.int ch1), .val (.int ch2), .val (.ref b304), .val (.ref xr_320), .val (.ref b327), .val (.ref xr_377), .val (.int dcl), .val (.int (Int32.ofNat sta)), .val (.int (Int32.ofNat ln)), .val (.ref b397), .unset, .unset] [])) _
    refine XS.aload X410.here hx rfl (hb hby at_148) rfl rfl ?_
    show Steps p.tables e below (T410.setTop (mkF m 150 #[.val (.int i0), .val (.int i1), .val (.int i2), .val (.int i3), .val (.int ch0), .val (.int ch1), .val (.int ch2), .val (.ref b304), .val (.ref xr_320), .val (.ref b327), .val (.ref xr_377), .val (.int dcl), .val (.int (Int32.ofNat sta)), .val (.int (Int32.ofNat ln)), .val (.ref b397), .unset, .unset] [(.ref b397)])) _
    refine XS.iload X410.here hx rfl (hb hby at_150) rfl ?_
    show Steps p.tables e below (T410.setTop (mkF m 152 #[.val (.int i0), .val (.int i1), .val (.int i2), .val (.int i3), .val (.int ch0), .val (.int ch1), .val (.int ch2), .val (.ref b304), .val (.ref xr_320), .val (.ref b327), .val (.ref xr_377), .val (.int dcl), .val (.int (Int32.ofNat sta)), .val (.int (Int32.ofNat ln)), .val (.ref b397), .unset, .unset] [(.int ch0), (.ref b397)])) _
    refine st426.trans ?_
    show Steps p.tables e below (T426.setTop (mkF m 155 #[.val (.int i0), .val (.int i1), .val (.int i2), .val (.int i3), .val (.int ch0), .val (.int ch1), .val (.int ch2), .val (.ref b304), .val (.ref xr_320), .val (.ref b327), .val (.ref xr_377), .val (.int dcl), .val (.int (Int32.ofNat sta)), .val (.int (Int32.ofNat ln)), .val (.ref b397), .unset, .unset] [])) _
    refine XS.aload X426.here hx rfl (hb hby at_155) rfl rfl ?_
    show Steps p.tables e below (T426.setTop (mkF m 157 #[.val (.int i0), .val (.int i1), .val (.int i2), .val (.int i3), .val (.int ch0), .val (.int ch1), .val (.int ch2), .val (.ref b304), .val (.ref xr_320), .val (.ref b327), .val (.ref xr_377), .val (.int dcl), .val (.int (Int32.ofNat sta)), .val (.int (Int32.ofNat ln)), .val (.ref b397), .unset, .unset] [(.ref b397)])) _
    refine XS.iload X426.here hx rfl (hb hby at_157) rfl ?_
    show Steps p.tables e below (T426.setTop (mkF m 159 #[.val (.int i0), .val (.int i1), .val (.int i2), .val (.int i3), .val (.int ch0), .val (.int ch1), .val (.int ch2), .val (.ref b304), .val (.ref xr_320), .val (.ref b327), .val (.ref xr_377), .val (.int dcl), .val (.int (Int32.ofNat sta)), .val (.int (Int32.ofNat ln)), .val (.ref b397), .unset, .unset] [(.int ch1), (.ref b397)])) _
    refine st440.trans ?_
    show Steps p.tables e below (T440.setTop (mkF m 162 #[.val (.int i0), .val (.int i1), .val (.int i2), .val (.int i3), .val (.int ch0), .val (.int ch1), .val (.int ch2), .val (.ref b304), .val (.ref xr_320), .val (.ref b327), .val (.ref xr_377), .val (.int dcl), .val (.int (Int32.ofNat sta)), .val (.int (Int32.ofNat ln)), .val (.ref b397), .unset, .unset] [])) _
    refine XS.aload X440.here hx rfl (hb hby at_162) rfl rfl ?_
    show Steps p.tables e below (T440.setTop (mkF m 164 #[.val (.int i0), .val (.int i1), .val (.int i2), .val (.int i3), .val (.int ch0), .val (.int ch1), .val (.int ch2), .val (.ref b304), .val (.ref xr_320), .val (.ref b327), .val (.ref xr_377), .val (.int dcl), .val (.int (Int32.ofNat sta)), .val (.int (Int32.ofNat ln)), .val (.ref b397), .unset, .unset] [(.ref b397)])) _
    refine XS.iload X440.here hx rfl (hb hby at_164) rfl ?_
    show Steps p.tables e below (T440.setTop (mkF m 166 #[.val (.int i0), .val (.int i1), .val (.int i2), .val (.int i3), .val (.int ch0), .val (.int ch1), .val (.int ch2), .val (.ref b304), .val (.ref xr_320), .val (.ref b327), .val (.ref xr_377), .val (.int dcl), .val (.int (Int32.ofNat sta)), .val (.int (Int32.ofNat ln)), .val (.ref b397), .unset, .unset] [(.int ch2), (.ref b397)])) _
    refine st454.trans ?_
    show Steps p.tables e below (T454.setTop (mkF m 169 #[.val (.int i0), .val (.int i1), .val (.int i2), .val (.int i3), .val (.int ch0), .val (.int ch1), .val (.int ch2), .val (.ref b304), .val (.ref xr_320), .val (.ref b327), .val (.ref xr_377), .val (.int dcl), .val (.int (Int32.ofNat sta)), .val (.int (Int32.ofNat ln)), .val (.ref b397), .unset, .unset] [])) _
    refine st467 _ ?_
    show Steps p.tables e below (T467.setTop (mkF m 172 #[.val (.int i0), .val (.int i1), .val (.int i2), .val (.int i3), .val (.int ch0), .val (.int ch1), .val (.int ch2), .val (.ref b304), .val (.ref xr_320), .val (.ref b327), .val (.ref xr_377), .val (.int dcl), .val (.int (Int32.ofNat sta)), .val (.int (Int32.ofNat ln)), .val (.ref b397), .unset, .unset] [(.ref b467)])) _
    refine XS.dup X467.here hx rfl (hb hby at_172) rfl rfl ?_
    show Steps p.tables e below (T467.setTop (mkF m 173 #[.val (.int i0), .val (.int i1), .val (.int i2), .val (.int i3), .val (.int ch0), .val (.int ch1), .val (.int ch2), .val (.ref b304), .val (.ref xr_320), .val (.ref b327), .val (.ref xr_377), .val (.int dcl), .val (.int (Int32.ofNat sta)), .val (.int (Int32.ofNat ln)), .val (.ref b397), .unset, .unset] [(.ref b467), (.ref b467)])) _
    refine st481.trans ?_
    show Steps p.tables e below (T481.setTop (mkF m 176 #[.val (.int i0), .val (.int i1), .val (.int i2), .val (.int i3), .val (.int ch0), .val (.int ch1), .val (.int ch2), .val (.ref b304), .val (.ref xr_320), .val (.ref b327), .val (.ref xr_377), .val (.int dcl), .val (.int (Int32.ofNat sta)), .val (.int (Int32.ofNat ln)), .val (.ref b397), .unset, .unset] [(.ref b467)])) _
    refine XS.astore X481.here hx rfl (hb hby at_176) rfl rfl (l' := #[.val (.int i0), .val (.int i1), .val (.int i2), .val (.int i3), .val (.int ch0), .val (.int ch1), .val (.int ch2), .val (.ref b304), .val (.ref xr_320), .val (.ref b327), .val (.ref xr_377), .val (.int dcl), .val (.int (Int32.ofNat sta)), .val (.int (Int32.ofNat ln)), .val (.ref b397), .val (.ref b467), .unset]) rfl ?_
    show Steps p.tables e below (T481.setTop (mkF m 178 #[.val (.int i0), .val (.int i1), .val (.int i2), .val (.int i3), .val (.int ch0), .val (.int ch1), .val (.int ch2), .val (.ref b304), .val (.ref xr_320), .val (.ref b327), .val (.ref xr_377), .val (.int dcl), .val (.int (Int32.ofNat sta)), .val (.int (Int32.ofNat ln)), .val (.ref b397), .val (.ref b467), .unset] [])) _
    refine XS.aload X481.here hx rfl (hb hby at_178) rfl rfl ?_
    show Steps p.tables e below (T481.setTop (mkF m 180 #[.val (.int i0), .val (.int i1), .val (.int i2), .val (.int i3), .val (.int ch0), .val (.int ch1), .val (.int ch2), .val (.ref b304), .val (.ref xr_320), .val (.ref b327), .val (.ref xr_377), .val (.int dcl), .val (.int (Int32.ofNat sta)), .val (.int (Int32.ofNat ln)), .val (.ref b397), .val (.ref b467), .unset] [(.ref b467)])) _
    refine XS.aload X481.here hx rfl (hb hby at_180) rfl rfl ?_
    show Steps p.tables e below (T481.setTop (mkF m 182 #[.val (.int i0), .val (.int i1), .val (.int i2), .val (.int i3), .val (.int ch0), .val (.int ch1), .val (.int ch2), .val (.ref b304), .val (.ref xr_320), .val (.ref b327), .val (.ref xr_377), .val (.int dcl), .val (.int (Int32.ofNat sta)), .val (.int (Int32.ofNat ln)), .val (.ref b397), .val (.ref b467), .unset] [(.ref xr_377), (.ref b467)])) _
    refine XS.aload X481.here hx rfl (hb hby at_182) rfl rfl ?_
    show Steps p.tables e below (T481.setTop (mkF m 184 #[.val (.int i0), .val (.int i1), .val (.int i2), .val (.int i3), .val (.int ch0), .val (.int ch1), .val (.int ch2), .val (.ref b304), .val (.ref xr_320), .val (.ref b327), .val (.ref xr_377), .val (.int dcl), .val (.int (Int32.ofNat sta)), .val (.int (Int32.ofNat ln)), .val (.ref b397), .val (.ref b467), .unset] [(.ref xr_377), (.ref xr_377), (.ref b467)])) _
    refine XS.aload X481.here hx rfl (hb hby at_184) rfl rfl ?_
    show Steps p.tables e below (T481.setTop (mkF m 186 #[.val (.int i0), .val (.int i1), .val (.int i2), .val (.int i3), .val (.int ch0), .val (.int ch1), .val (.int ch2), .val (.ref b304), .val (.ref xr_320), .val (.ref b327), .val (.ref xr_377), .val (.int dcl), .val (.int (Int32.ofNat sta)), .val (.int (Int32.ofNat ln)), .val (.ref b397), .val (.ref b467), .unset] [(.ref xr_377), (.ref xr_377), (.ref xr_377), (.ref b467)])) _
    refine st483.trans ?_
    show Steps p.tables e below (T483.setTop (mkF m 189 #[.val (.int i0), .val (.int i1), .val (.int i2), .val (.int i3), .val (.int ch0), .val (.int ch1), .val (.int ch2), .val (.ref b304), .val (.ref xr_320), .val (.ref b327), .val (.ref xr_377), .val (.int dcl), .val (.int (Int32.ofNat sta)), .val (.int (Int32.ofNat ln)), .val (.ref b397), .val (.ref b467), .unset] [])) _
    refine XS.aload X483.here hx rfl (hb hby at_189) rfl rfl ?_
    show Steps p.tables e below (T483.setTop (mkF m 191 #[.val (.int i0), .val (.int i1), .val (.int i2), .val (.int i3), .val (.int ch0), .val (.int ch1), .val (.int ch2), .val (.ref b304), .val (.ref xr_320), .val (.ref b327), .val (.ref xr_377), .val (.int dcl), .val (.int (Int32.ofNat sta)), .val (.int (Int32.ofNat ln)), .val (.ref b397), .val (.ref b467), .unset] [(.ref b467)])) _
    refine XS.aload X483.here hx rfl (hb hby at_191) rfl rfl ?_
    show Steps p.tables e below (T483.setTop (mkF m 193 #[.val (.int i0), .val (.int i1), .val (.int i2), .val (.int i3), .val (.int ch0), .val (.int ch1), .val (.int ch2), .val (.ref b304), .val (.ref xr_320), .val (.ref b327), .val (.ref xr_377), .val (.int dcl), .val (.int (Int32.ofNat sta)), .val (.int (Int32.ofNat ln)), .val (.ref b397), .val (.ref b467), .unset] [(.ref xr_320), (.ref b467)])) _
    refine XS.aload X483.here hx rfl (hb hby at_193) rfl rfl ?_
    show Steps p.tables e below (T483.setTop (mkF m 195 #[.val (.int i0), .val (.int i1), .val (.int i2), .val (.int i3), .val (.int ch0), .val (.int ch1), .val (.int ch2), .val (.ref b304), .val (.ref xr_320), .val (.ref b327), .val (.ref xr_377), .val (.int dcl), .val (.int (Int32.ofNat sta)), .val (.int (Int32.ofNat ln)), .val (.ref b397), .val (.ref b467), .unset] [(.ref b327), (.ref xr_320), (.ref b467)])) _
    refine XS.iload X483.here hx rfl (hb hby at_195) rfl ?_
    show Steps p.tables e below (T483.setTop (mkF m 197 #[.val (.int i0), .val (.int i1), .val (.int i2), .val (.int i3), .val (.int ch0), .val (.int ch1), .val (.int ch2), .val (.ref b304), .val (.ref xr_320), .val (.ref b327), .val (.ref xr_377), .val (.int dcl), .val (.int (Int32.ofNat sta)), .val (.int (Int32.ofNat ln)), .val (.ref b397), .val (.ref b467), .unset] [(.int dcl), (.ref b327), (.ref xr_320), (.ref b467)])) _
    refine XS.aload X483.here hx rfl (hb hby at_197) rfl rfl ?_
    show Steps p.tables e below (T483.setTop (mkF m 199 #[.val (.int i0), .val (.int i1), .val (.int i2), .val (.int i3), .val (.int ch0), .val (.int ch1), .val (.int ch2), .val (.ref b304), .val (.ref xr_320), .val (.ref b327), .val (.ref xr_377), .val (.int dcl), .val (.int (Int32.ofNat sta)), .val (.int (Int32.ofNat ln)), .val (.ref b397), .val (.ref b467), .unset] [(.ref b397), (.int dcl), (.ref b327), (.ref xr_320), (.ref b467)])) _
    refine XS.iload X483.here hx rfl (hb hby at_199) rfl ?_
    show Steps p.tables e below (T483.setTop (mkF m 201 #[.val (.int i0), .val (.int i1), .val (.int i2), .val (.int i3), .val (.int ch0), .val (.int ch1), .val (.int ch2), .val (.ref b304), .val (.ref xr_320), .val (.ref b327), .val (.ref xr_377), .val (.int dcl), .val (.int (Int32.ofNat sta)), .val (.int (Int32.ofNat ln)), .val (.ref b397), .val (.ref b467), .unset] [(.int (Int32.ofNat sta)), (.ref b397), (.int dcl), (.ref b327), (.ref xr_320), (.ref b467)])) _
    refine XS.iload X483.here hx rfl (hb hby at_201) rfl ?_
    show Steps p.tables e below (T483.setTop (mkF m 203 #[.val (.int i0), .val (.int i1), .val (.int i2), .val (.int i3), .val (.int ch0), .val (.int ch1), .val (.int ch2), .val (.ref b304), .val (.ref xr_320), .val (.ref b327), .val (.ref xr_377), .val (.int dcl), .val (.int (Int32.ofNat sta)), .val (.int (Int32.ofNat ln)), .val (.ref b397), .val (.ref b467), .unset] [(.int (Int32.ofNat ln)), (.int (Int32.ofNat sta)), (.ref b397), (.int dcl), (.ref b327), (.ref xr_320), (.ref b467)])) _
    refine st497.trans ?_
    show Steps p.tables e below (T497.setTop (mkF m 206 #[.val (.int i0), .val (.int i1), .val (.int i2), .val (.int i3), .val (.int ch0), .val (.int ch1), .val (.int ch2), .val (.ref b304), .val (.ref xr_320), .val (.ref b327), .val (.ref xr_377), .val (.int dcl), .val (.int (Int32.ofNat sta)), .val (.int (Int32.ofNat ln)), .val (.ref b397), .val (.ref b467), .unset] [])) _
    refine XS.aload X497.here hx rfl (hb hby at_206) rfl rfl ?_
    show Steps p.tables e below (T497.setTop (mkF m 208 #[.val (.int i0), .val (.int i1), .val (.int i2), .val (.int i3), .val (.int ch0), .val (.int ch1), .val (.int ch2), .val (.ref b304), .val (.ref xr_320), .val (.ref b327), .val (.ref xr_377), .val (.int dcl), .val (.int (Int32.ofNat sta)), .val (.int (Int32.ofNat ln)), .val (.ref b397), .val (.ref b467), .unset] [(.ref b467)])) _
    refine st517.trans ?_
    show Steps p.tables e below (T517.setTop (mkF m 211 #[.val (.int i0), .val (.int i1), .val (.int i2), .val (.int i3), .val (.int ch0), .val (.int ch1), .val (.int ch2), .val (.ref b304), .val (.ref xr_320), .val (.ref b327), .val (.ref xr_377), .val (.int dcl), .val (.int (Int32.ofNat sta)), .val (.int (Int32.ofNat ln)), .val (.ref b397), .val (.ref b467), .unset] [(.ref xr_517)])) _
    refine XS.astore X517.here hx rfl (hb hby at_211) rfl rfl (l' := #[.val (.int i0), .val (.int i1), .val (.int i2), .val (.int i3), .val (.int ch0), .val (.int ch1), .val (.int ch2), .val (.ref b304), .val (.ref xr_320), .val (.ref b327), .val (.ref xr_377), .val (.int dcl), .val (.int (Int32.ofNat sta)), .val (.int (Int32.ofNat ln)), .val (.ref b397), .val (.ref b467), .val (.ref xr_517)]) rfl ?_
    show Steps p.tables e below (T517.setTop (mkF m 213 #[.val (.int i0), .val (.int i1), .val (.int i2), .val (.int i3), .val (.int ch0), .val (.int ch1), .val (.int ch2), .val (.ref b304), .val (.ref xr_320), .val (.ref b327), .val (.ref xr_377), .val (.int dcl), .val (.int (Int32.ofNat sta)), .val (.int (Int32.ofNat ln)), .val (.ref b397), .val (.ref b467), .val (.ref xr_517)] [])) _
    refine XS.aload X517.here hx rfl (hb hby at_213) rfl rfl ?_
    show Steps p.tables e below (T517.setTop (mkF m 215 #[.val (.int i0), .val (.int i1), .val (.int i2), .val (.int i3), .val (.int ch0), .val (.int ch1), .val (.int ch2), .val (.ref b304), .val (.ref xr_320), .val (.ref b327), .val (.ref xr_377), .val (.int dcl), .val (.int (Int32.ofNat sta)), .val (.int (Int32.ofNat ln)), .val (.ref b397), .val (.ref b467), .val (.ref xr_517)] [(.ref xr_320)])) _
    refine XS.aload X517.here hx rfl (hb hby at_215) rfl rfl ?_
    show Steps p.tables e below (T517.setTop (mkF m 217 #[.val (.int i0), .val (.int i1), .val (.int i2), .val (.int i3), .val (.int ch0), .val (.int ch1), .val (.int ch2), .val (.ref b304), .val (.ref xr_320), .val (.ref b327), .val (.ref xr_377), .val (.int dcl), .val (.int (Int32.ofNat sta)), .val (.int (Int32.ofNat ln)), .val (.ref b397), .val (.ref b467), .val (.ref xr_517)] [(.ref b467), (.ref xr_320)])) _
    refine st538.trans ?_
    show Steps p.tables e below (T538.setTop (mkF m 220 #[.val (.int i0), .val (.int i1), .val (.int i2), .val (.int i3), .val (.int ch0), .val (.int ch1), .val (.int ch2), .val (.ref b304), .val (.ref xr_320), .val (.ref b327), .val (.ref xr_377), .val (.int dcl), .val (.int (Int32.ofNat sta)), .val (.int (Int32.ofNat ln)), .val (.ref b397), .val (.ref b467), .val (.ref xr_517)] [(.ref xr_320), (.ref xr_320)])) _
    refine st540.trans ?_
    show Steps p.tables e below (T540.setTop (mkF m 223 #[.val (.int i0), .val (.int i1), .val (.int i2), .val (.int i3), .val (.int ch0), .val (.int ch1), .val (.int ch2), .val (.ref b304), .val (.ref xr_320), .val (.ref b327), .val (.ref xr_377), .val (.int dcl), .val (.int (Int32.ofNat sta)), .val (.int (Int32.ofNat ln)), .val (.ref b397), .val (.ref b467), .val (.ref xr_517)] [(.int (1 : Int32))])) _
    refine XS.ifNo X540.here hx rfl (hb hby at_223) rfl ((if0 _ _).trans (feq ((by decide) : ¬ ((1 : Int32) = (0 : Int32)))).1) ?_
    show Steps p.tables e below (T540.setTop (mkF m 226 #[.val (.int i0), .val (.int i1), .val (.int i2), .val (.int i3), .val (.int ch0), .val (.int ch1), .val (.int ch2), .val (.ref b304), .val (.ref xr_320), .val (.ref b327), .val (.ref xr_377), .val (.int dcl), .val (.int (Int32.ofNat sta)), .val (.int (Int32.ofNat ln)), .val (.ref b397), .val (.ref b467), .val (.ref xr_517)] [])) _
    refine XS.aload X540.here hx rfl (hb hby at_226) rfl rfl ?_
    show Steps p.tables e below (T540.setTop (mkF m 228 #[.val (.int i0), .val (.int i1), .val (.int i2), .val (.int i3), .val (.int ch0), .val (.int ch1), .val (.int ch2), .val (.ref b304), .val (.ref xr_320), .val (.ref b327), .val (.ref xr_377), .val (.int dcl), .val (.int (Int32.ofNat sta)), .val (.int (Int32.ofNat ln)), .val (.ref b397), .val (.ref b467), .val (.ref xr_517)] [(.ref b327)])) _
    refine XS.aload X540.here hx rfl (hb hby at_228) rfl rfl ?_
    show Steps p.tables e below (T540.setTop (mkF m 230 #[.val (.int i0), .val (.int i1), .val (.int i2), .val (.int i3), .val (.int ch0), .val (.int ch1), .val (.int ch2), .val (.ref b304), .val (.ref xr_320), .val (.ref b327), .val (.ref xr_377), .val (.int dcl), .val (.int (Int32.ofNat sta)), .val (.int (Int32.ofNat ln)), .val (.ref b397), .val (.ref b467), .val (.ref xr_517)] [(.ref b467), (.ref b327)])) _
    refine st541.trans ?_
    show Steps p.tables e below (T541.setTop (mkF m 233 #[.val (.int i0), .val (.int i1), .val (.int i2), .val (.int i3), .val (.int ch0), .val (.int ch1), .val (.int ch2), .val (.ref b304), .val (.ref xr_320), .val (.ref b327), .val (.ref xr_377), .val (.int dcl), .val (.int (Int32.ofNat sta)), .val (.int (Int32.ofNat ln)), .val (.ref b397), .val (.ref b467), .val (.ref xr_517)] [(.ref b327), (.ref b327)])) _
    refine st543.trans ?_
    show Steps p.tables e below (T543.setTop (mkF m 236 #[.val (.int i0), .val (.int i1), .val (.int i2), .val (.int i3), .val (.int ch0), .val (.int ch1), .val (.int ch2), .val (.ref b304), .val (.ref xr_320), .val (.ref b327), .val (.ref xr_377), .val (.int dcl), .val (.int (Int32.ofNat sta)), .val (.int (Int32.ofNat ln)), .val (.ref b397), .val (.ref b467), .val (.ref xr_517)] [(.int (1 : Int32))])) _
    refine XS.ifNo X543.here hx rfl (hb hby at_236) rfl ((if0 _ _).trans (feq ((by decide) : ¬ ((1 : Int32) = (0 : Int32)))).1) ?_
    show Steps p.tables e below (T543.setTop (mkF m 239 #[.val (.int i0), .val (.int i1), .val (.int i2), .val (.int i3), .val (.int ch0), .val (.int ch1), .val (.int ch2), .val (.ref b304), .val (.ref xr_320), .val (.ref b327), .val (.ref xr_377), .val (.int dcl), .val (.int (Int32.ofNat sta)), .val (.int (Int32.ofNat ln)), .val (.ref b397), .val (.ref b467), .val (.ref xr_517)] [])) _
    refine XS.aload X543.here hx rfl (hb hby at_239) rfl rfl ?_
    show Steps p.tables e below (T543.setTop (mkF m 241 #[.val (.int i0), .val (.int i1), .val (.int i2), .val (.int i3), .val (.int ch0), .val (.int ch1), .val (.int ch2), .val (.ref b304), .val (.ref xr_320), .val (.ref b327), .val (.ref xr_377), .val (.int dcl), .val (.int (Int32.ofNat sta)), .val (.int (Int32.ofNat ln)), .val (.ref b397), .val (.ref b467), .val (.ref xr_517)] [(.ref b467)])) _
    refine st544.trans ?_
    show Steps p.tables e below (T544.setTop (mkF m 244 #[.val (.int i0), .val (.int i1), .val (.int i2), .val (.int i3), .val (.int ch0), .val (.int ch1), .val (.int ch2), .val (.ref b304), .val (.ref xr_320), .val (.ref b327), .val (.ref xr_377), .val (.int dcl), .val (.int (Int32.ofNat sta)), .val (.int (Int32.ofNat ln)), .val (.ref b397), .val (.ref b467), .val (.ref xr_517)] [(.int dcl)])) _
    refine XS.iload X544.here hx rfl (hb hby at_244) rfl ?_
    show Steps p.tables e below (T544.setTop (mkF m 246 #[.val (.int i0), .val (.int i1), .val (.int i2), .val (.int i3), .val (.int ch0), .val (.int ch1), .val (.int ch2), .val (.ref b304), .val (.ref xr_320), .val (.ref b327), .val (.ref xr_377), .val (.int dcl), .val (.int (Int32.ofNat sta)), .val (.int (Int32.ofNat ln)), .val (.ref b397), .val (.ref b467), .val (.ref xr_517)] [(.int dcl), (.int dcl)])) _
    refine XS.icmpNo X544.here hx rfl (hb hby at_246) rfl (teq (rfl : dcl = dcl)).2 ?_
    show Steps p.tables e below (T544.setTop (mkF m 249 #[.val (.int i0), .val (.int i1), .val (.int i2), .val (.int i3), .val (.int ch0), .val (.int ch1), .val (.int ch2), .val (.ref b304), .val (.ref xr_320), .val (.ref b327), .val (.ref xr_377), .val (.int dcl), .val (.int (Int32.ofNat sta)), .val (.int (Int32.ofNat ln)), .val (.ref b397), .val (.ref b467), .val (.ref xr_517)] [])) _
    refine XS.aload X544.here hx rfl (hb hby at_249) rfl rfl ?_
    show Steps p.tables e below (T544.setTop (mkF m 251 #[.val (.int i0), .val (.int i1), .val (.int i2), .val (.int i3), .val (.int ch0), .val (.int ch1), .val (.int ch2), .val (.ref b304), .val (.ref xr_320), .val (.ref b327), .val (.ref xr_377), .val (.int dcl), .val (.int (Int32.ofNat sta)), .val (.int (Int32.ofNat ln)), .val (.ref b397), .val (.ref b467), .val (.ref xr_517)] [(.ref b467)])) _
    refine st545.trans ?_
    show Steps p.tables e below (T545.setTop (mkF m 254 #[.val (.int i0), .val (.int i1), .val (.int i2), .val (.int i3), .val (.int ch0), .val (.int ch1), .val (.int ch2), .val (.ref b304), .val (.ref xr_320), .val (.ref b327), .val (.ref xr_377), .val (.int dcl), .val (.int (Int32.ofNat sta)), .val (.int (Int32.ofNat ln)), .val (.ref b397), .val (.ref b467), .val (.ref xr_517)] [(.int (1 : Int32))])) _
    refine XS.ifNo X545.here hx rfl (hb hby at_254) rfl ((if0 _ _).trans (feq ((by decide) : ¬ ((1 : Int32) = (0 : Int32)))).1) ?_
    show Steps p.tables e below (T545.setTop (mkF m 257 #[.val (.int i0), .val (.int i1), .val (.int i2), .val (.int i3), .val (.int ch0), .val (.int ch1), .val (.int ch2), .val (.ref b304), .val (.ref xr_320), .val (.ref b327), .val (.ref xr_377), .val (.int dcl), .val (.int (Int32.ofNat sta)), .val (.int (Int32.ofNat ln)), .val (.ref b397), .val (.ref b467), .val (.ref xr_517)] [])) _
    refine XS.aload X545.here hx rfl (hb hby at_257) rfl rfl ?_
    show Steps p.tables e below (T545.setTop (mkF m 259 #[.val (.int i0), .val (.int i1), .val (.int i2), .val (.int i3), .val (.int ch0), .val (.int ch1), .val (.int ch2), .val (.ref b304), .val (.ref xr_320), .val (.ref b327), .val (.ref xr_377), .val (.int dcl), .val (.int (Int32.ofNat sta)), .val (.int (Int32.ofNat ln)), .val (.ref b397), .val (.ref b467), .val (.ref xr_517)] [(.ref xr_517)])) _
    refine st546.trans ?_
    show Steps p.tables e below (T546.setTop (mkF m 262 #[.val (.int i0), .val (.int i1), .val (.int i2), .val (.int i3), .val (.int ch0), .val (.int ch1), .val (.int ch2), .val (.ref b304), .val (.ref xr_320), .val (.ref b327), .val (.ref xr_377), .val (.int dcl), .val (.int (Int32.ofNat sta)), .val (.int (Int32.ofNat ln)), .val (.ref b397), .val (.ref b467), .val (.ref xr_517)] [(.int (Int32.ofNat (((t3_.drop sta).take ln)).length))])) _
    refine XS.iload X546.here hx rfl (hb hby at_262) rfl ?_
    show Steps p.tables e below (T546.setTop (mkF m 264 #[.val (.int i0), .val (.int i1), .val (.int i2), .val (.int i3), .val (.int ch0), .val (.int ch1), .val (.int ch2), .val (.ref b304), .val (.ref xr_320), .val (.ref b327), .val (.ref xr_377), .val (.int dcl), .val (.int (Int32.ofNat sta)), .val (.int (Int32.ofNat ln)), .val (.ref b397), .val (.ref b467), .val (.ref xr_517)] [(.int (Int32.ofNat ln)), (.int (Int32.ofNat (((t3_.drop sta).take ln)).length))])) _
    refine XS.icmpNo X546.here hx rfl (hb hby at_264) rfl (teq ((congrArg Int32.ofNat hl3) : (Int32.ofNat (((t3_.drop sta).take ln)).length) = (Int32.ofNat ln))).2 ?_
    show Steps p.tables e below (T546.setTop (mkF m 267 #[.val (.int i0), .val (.int i1), .val (.int i2), .val (.int i3), .val (.int ch0), .val (.int ch1), .val (.int ch2), .val (.ref b304), .val (.ref xr_320), .val (.ref b327), .val (.ref xr_377), .val (.int dcl), .val (.int (Int32.ofNat sta)), .val (.int (Int32.ofNat ln)), .val (.ref b397), .val (.ref b467), .val (.ref xr_517)] [])) _
    refine XS.aload X546.here hx rfl (hb hby at_267) rfl rfl ?_
    show Steps p.tables e below (T546.setTop (mkF m 269 #[.val (.int i0), .val (.int i1), .val (.int i2), .val (.int i3), .val (.int ch0), .val (.int ch1), .val (.int ch2), .val (.ref b304), .val (.ref xr_320), .val (.ref b327), .val (.ref xr_377), .val (.int dcl), .val (.int (Int32.ofNat sta)), .val (.int (Int32.ofNat ln)), .val (.ref b397), .val (.ref b467), .val (.ref xr_517)] [(.ref xr_517)])) _
    refine XS.aload X546.here hx rfl (hb hby at_269) rfl rfl ?_
    show Steps p.tables e below (T546.setTop (mkF m 271 #[.val (.int i0), .val (.int i1), .val (.int i2), .val (.int i3), .val (.int ch0), .val (.int ch1), .val (.int ch2), .val (.ref b304), .val (.ref xr_320), .val (.ref b327), .val (.ref xr_377), .val (.int dcl), .val (.int (Int32.ofNat sta)), .val (.int (Int32.ofNat ln)), .val (.ref b397), .val (.ref b467), .val (.ref xr_517)] [(.ref b304), (.ref xr_517)])) _
    refine XS.iload X546.here hx rfl (hb hby at_271) rfl ?_
    show Steps p.tables e below (T546.setTop (mkF m 273 #[.val (.int i0), .val (.int i1), .val (.int i2), .val (.int i3), .val (.int ch0), .val (.int ch1), .val (.int ch2), .val (.ref b304), .val (.ref xr_320), .val (.ref b327), .val (.ref xr_377), .val (.int dcl), .val (.int (Int32.ofNat sta)), .val (.int (Int32.ofNat ln)), .val (.ref b397), .val (.ref b467), .val (.ref xr_517)] [(.int (Int32.ofNat sta)), (.ref b304), (.ref xr_517)])) _
    refine XS.iconst X546.here hx rfl (hb hby at_273) ?_
    show Steps p.tables e below (T546.setTop (mkF m 274 #[.val (.int i0), .val (.int i1), .val (.int i2), .val (.int i3), .val (.int ch0), .val (.int ch1), .val (.int ch2), .val (.ref b304), .val (.ref xr_320), .val (.ref b327), .val (.ref xr_377), .val (.int dcl), .val (.int (Int32.ofNat sta)), .val (.int (Int32.ofNat ln)), .val (.ref b397), .val (.ref b467), .val (.ref xr_517)] [(.int (0 : Int32)), (.int (Int32.ofNat sta)), (.ref b304), (.ref xr_517)])) _
    refine st548 _ ?_
    show Steps p.tables e below (T548.setTop (mkF m 277 #[.val (.int i0), .val (.int i1), .val (.int i2), .val (.int i3), .val (.int ch0), .val (.int ch1), .val (.int ch2), .val (.ref b304), .val (.ref xr_320), .val (.ref b327), .val (.ref xr_377), .val (.int dcl), .val (.int (Int32.ofNat sta)), .val (.int (Int32.ofNat ln)), .val (.ref b397), .val (.ref b467), .val (.ref xr_517)] [(.int (1 : Int32))])) _
    refine XS.ifNo X548.here hx rfl (hb hby at_277) rfl ((if0 _ _).trans (feq ((by decide) : ¬ ((1 : Int32) = (0 : Int32)))).1) ?_
    show Steps p.tables e below (T548.setTop (mkF m 280 #[.val (.int i0), .val (.int i1), .val (.int i2), .val (.int i3), .val (.int ch0), .val (.int ch1), .val (.int ch2), .val (.ref b304), .val (.ref xr_320), .val (.ref b327), .val (.ref xr_377), .val (.int dcl), .val (.int (Int32.ofNat sta)), .val (.int (Int32.ofNat ln)), .val (.ref b397), .val (.ref b467), .val (.ref xr_517)] [])) _
    refine XS.aload X548.here hx rfl (hb hby at_280) rfl rfl ?_
    show Steps p.tables e below (T548.setTop (mkF m 282 #[.val (.int i0), .val (.int i1), .val (.int i2), .val (.int i3), .val (.int ch0), .val (.int ch1), .val (.int ch2), .val (.ref b304), .val (.ref xr_320), .val (.ref b327), .val (.ref xr_377), .val (.int dcl), .val (.int (Int32.ofNat sta)), .val (.int (Int32.ofNat ln)), .val (.ref b397), .val (.ref b467), .val (.ref xr_517)] [(.ref xr_517)])) _
    refine XS.aload X548.here hx rfl (hb hby at_282) rfl rfl ?_
    show Steps p.tables e below (T548.setTop (mkF m 284 #[.val (.int i0), .val (.int i1), .val (.int i2), .val (.int i3), .val (.int ch0), .val (.int ch1), .val (.int ch2), .val (.ref b304), .val (.ref xr_320), .val (.ref b327), .val (.ref xr_377), .val (.int dcl), .val (.int (Int32.ofNat sta)), .val (.int (Int32.ofNat ln)), .val (.ref b397), .val (.ref b467), .val (.ref xr_517)] [(.ref b304), (.ref xr_517)])) _
    refine XS.iload X548.here hx rfl (hb hby at_284) rfl ?_
    show Steps p.tables e below (T548.setTop (mkF m 286 #[.val (.int i0), .val (.int i1), .val (.int i2), .val (.int i3), .val (.int ch0), .val (.int ch1), .val (.int ch2), .val (.ref b304), .val (.ref xr_320), .val (.ref b327), .val (.ref xr_377), .val (.int dcl), .val (.int (Int32.ofNat sta)), .val (.int (Int32.ofNat ln)), .val (.ref b397), .val (.ref b467), .val (.ref xr_517)] [(.int (Int32.ofNat sta)), (.ref b304), (.ref xr_517)])) _
    refine XS.iconst X548.here hx rfl (hb hby at_286) ?_
    show Steps p.tables e below (T548.setTop (mkF m 287 #[.val (.int i0), .val (.int i1), .val (.int i2), .val (.int i3), .val (.int ch0), .val (.int ch1), .val (.int ch2), .val (.ref b304), .val (.ref xr_320), .val (.ref b327), .val (.ref xr_377), .val (.int dcl), .val (.int (Int32.ofNat sta)), .val (.int (Int32.ofNat ln)), .val (.ref b397), .val (.ref b467), .val (.ref xr_517)] [(.int (1 : Int32)), (.int (Int32.ofNat sta)), (.ref b304), (.ref xr_517)])) _
    refine st549 _ ?_
    show Steps p.tables e below (T549.setTop (mkF m 290 #[.val (.int i0), .val (.int i1), .val (.int i2), .val (.int i3), .val (.int ch0), .val (.int ch1), .val (.int ch2), .val (.ref b304), .val (.ref xr_320), .val (.ref b327), .val (.ref xr_377), .val (.int dcl), .val (.int (Int32.ofNat sta)), .val (.int (Int32.ofNat ln)), .val (.ref b397), .val (.ref b467), .val (.ref xr_517)] [(.int (1 : Int32))])) _
    refine XS.ifNo X549.here hx rfl (hb hby at_290) rfl ((if0 _ _).trans (feq ((by decide) : ¬ ((1 : Int32) = (0 : Int32)))).1) ?_
    show Steps p.tables e below (T549.setTop (mkF m 293 #[.val (.int i0), .val (.int i1), .val (.int i2), .val (.int i3), .val (.int ch0), .val (.int ch1), .val (.int ch2), .val (.ref b304), .val (.ref xr_320), .val (.ref b327), .val (.ref xr_377), .val (.int dcl), .val (.int (Int32.ofNat sta)), .val (.int (Int32.ofNat ln)), .val (.ref b397), .val (.ref b467), .val (.ref xr_517)] [])) _
    refine XS.aload X549.here hx rfl (hb hby at_293) rfl rfl ?_
    show Steps p.tables e below (T549.setTop (mkF m 295 #[.val (.int i0), .val (.int i1), .val (.int i2), .val (.int i3), .val (.int ch0), .val (.int ch1), .val (.int ch2), .val (.ref b304), .val (.ref xr_320), .val (.ref b327), .val (.ref xr_377), .val (.int dcl), .val (.int (Int32.ofNat sta)), .val (.int (Int32.ofNat ln)), .val (.ref b397), .val (.ref b467), .val (.ref xr_517)] [(.ref xr_517)])) _
    refine XS.aload X549.here hx rfl (hb hby at_295) rfl rfl ?_
    show Steps p.tables e below (T549.setTop (mkF m 297 #[.val (.int i0), .val (.int i1), .val (.int i2), .val (.int i3), .val (.int ch0), .val (.int ch1), .val (.int ch2), .val (.ref b304), .val (.ref xr_320), .val (.ref b327), .val (.ref xr_377), .val (.int dcl), .val (.int (Int32.ofNat sta)), .val (.int (Int32.ofNat ln)), .val (.ref b397), .val (.ref b467), .val (.ref xr_517)] [(.ref b304), (.ref xr_517)])) _
    refine XS.iload X549.here hx rfl (hb hby at_297) rfl ?_
    show Steps p.tables e below (T549.setTop (mkF m 299 #[.val (.int i0), .val (.int i1), .val (.int i2), .val (.int i3), .val (.int ch0), .val (.int ch1), .val (.int ch2), .val (.ref b304), .val (.ref xr_320), .val (.ref b327), .val (.ref xr_377), .val (.int dcl), .val (.int (Int32.ofNat sta)), .val (.int (Int32.ofNat ln)), .val (.ref b397), .val (.ref b467), .val (.ref xr_517)] [(.int (Int32.ofNat sta)), (.ref b304), (.ref xr_517)])) _
    refine XS.iconst X549.here hx rfl (hb hby at_299) ?_
    show Steps p.tables e below (T549.setTop (mkF m 300 #[.val (.int i0), .val (.int i1), .val (.int i2), .val (.int i3), .val (.int ch0), .val (.int ch1), .val (.int ch2), .val (.ref b304), .val (.ref xr_320), .val (.ref b327), .val (.ref xr_377), .val (.int dcl), .val (.int (Int32.ofNat sta)), .val (.int (Int32.ofNat ln)), .val (.ref b397), .val (.ref b467), .val (.ref xr_517)] [(.int (2 : Int32)), (.int (Int32.ofNat sta)), (.ref b304), (.ref xr_517)])) _
    refine st550 _ ?_
    show Steps p.tables e below (T550.setTop (mkF m 303 #[.val (.int i0), .val (.int i1), .val (.int i2), .val (.int i3), .val (.int ch0), .val (.int ch1), .val (.int ch2), .val (.ref b304), .val (.ref xr_320), .val (.ref b327), .val (.ref xr_377), .val (.int dcl), .val (.int (Int32.ofNat sta)), .val (.int (Int32.ofNat ln)), .val (.ref b397), .val (.ref b467), .val (.ref xr_517)] [(.int (1 : Int32))])) _
    refine XS.ifNo X550.here hx rfl (hb hby at_303) rfl ((if0 _ _).trans (feq ((by decide) : ¬ ((1 : Int32) = (0 : Int32)))).1) ?_
    show Steps p.tables e below (T550.setTop (mkF m 306 #[.val (.int i0), .val (.int i1), .val (.int i2), .val (.int i3), .val (.int ch0), .val (.int ch1), .val (.int ch2), .val (.ref b304), .val (.ref xr_320), .val (.ref b327), .val (.ref xr_377), .val (.int dcl), .val (.int (Int32.ofNat sta)), .val (.int (Int32.ofNat ln)), .val (.ref b397), .val (.ref b467), .val (.ref xr_517)] [])) _
    refine XS.iconst X550.here hx rfl (hb hby at_306) ?_
    show Steps p.tables e below (T550.setTop (mkF m 307 #[.val (.int i0), .val (.int i1), .val (.int i2), .val (.int i3), .val (.int ch0), .val (.int ch1), .val (.int ch2), .val (.ref b304), .val (.ref xr_320), .val (.ref b327), .val (.ref xr_377), .val (.int dcl), .val (.int (Int32.ofNat sta)), .val (.int (Int32.ofNat ln)), .val (.ref b397), .val (.ref b467), .val (.ref xr_517)] [(.int (1 : Int32))])) _
    refine XS.goto X550.here hx rfl (pc0 := 307) (pc' := 311) rfl (hb hby at_307) (by decide) (by decide) ?_
    show Steps p.tables e below (T550.setTop (mkF m 311 #[.val (.int i0), .val (.int i1), .val (.int i2), .val (.int i3), .val (.int ch0), .val (.int ch1), .val (.int ch2), .val (.ref b304), .val (.ref xr_320), .val (.ref b327), .val (.ref xr_377), .val (.int dcl), .val (.int (Int32.ofNat sta)), .val (.int (Int32.ofNat ln)), .val (.ref b397), .val (.ref b467), .val (.ref xr_517)] [(.int (1 : Int32))])) _
    exact retN X550 hx (t := .boolean) Bd.returns (by simp) (hb hby at_311) hr
  · show Q_law Z i0 i1 i2 i3 G fm h0 n0 _ T550.heap _
    rw [e550]
    exact ⟨rfl, N550⟩
set_option maxRecDepth 65536 in
set_option maxHeartbeats 40000000 in
theorem comes_1 {Post : Tables → Env → Array Value → State → Outcome → State → Prop} (hpost : ∀ tb e args s v u, (limb_1_1.after args s (.returned v) u = true ∧ limb_1_2.after args s (.returned v) u = true ∧ True) → ReturnedEndW s (.returned v) u (Jvm.fieldLocs frame_1_writes args s ++ Jvm.arrayLocs frame_1_arrays args s ++ Jvm.staticLocs frame_1_statics s) 40 1344 → Post tb e args s (.returned v) u) :
    ArmFor flags0 classFile x code maxLocals ret World_1 tables_1 room_1 Calls_1 rest_1 Pre_1 Post := by
  intro l hfl _ _ p e ha hc hk s m args below hf hA hF happ hP
  obtain ⟨hcalls, hrest, hpre⟩ := hP
  obtain ⟨-, -, -, hnamed, -, -, -, hat⟩ := (Spec.applies_iff hf).mp happ
  obtain ⟨hg, hn⟩ := and_e (Cond.before_iff.mp (show (Jvm.Cond.and given_1 narrow_1).before args s = true from hpre))
  obtain ⟨hcount, hg0⟩ := and_e hg
  obtain ⟨ha0, hg1⟩ := and_e hg0
  obtain ⟨ha1, hg2⟩ := and_e hg1
  obtain ⟨ha2, hg3⟩ := and_e hg2
  obtain ⟨w0, w1, w2, w3, rfl⟩ : ∃ w0 w1 w2 w3 : Value, args = #[w0, w1, w2, w3] := by
    have hs : args.size = 4 := by simpa [Cond.value, given_1] using hcount
    obtain ⟨L⟩ := args
    match L, hs with
    | [w0, w1, w2, w3], _ => exact ⟨w0, w1, w2, w3, rfl⟩
  have hw := fun d (hd : d ∈ tables_1) => atoms_spec (ws := Jvm.Cond.code x code maxLocals ret :: tables_1) hat d (List.mem_cons_of_mem _ hd)
  obtain ⟨hsets, hown0⟩ := atoms_of _ (rest_1_c_eq ▸ (show rest_1_c.before _ s = true from hrest))
  have hfit : Fit s := fun {y c} hc i hi => by
    obtain ⟨ha, rfl⟩ := Array.getElem?_eq_some_iff.mp hc
    have q := List.all_eq_true.mp ((Array.all_eq_true_iff_forall_mem.mp hF) _ (Array.getElem_mem ha)) i (List.mem_range.mpr hi)
    simpa [Array.getElem?_eq_getElem hi] using q
  obtain ⟨i0, ei0⟩ := is_v ha0
  obtain rfl : w0 = (.int i0) := Option.some.inj ei0
  obtain ⟨i1, ei1⟩ := is_v ha1
  obtain rfl : w1 = (.int i1) := Option.some.inj ei1
  obtain ⟨i2, ei2⟩ := is_v ha2
  obtain rfl : w2 = (.int i2) := Option.some.inj ei2
  obtain ⟨i3, ei3⟩ := is_v hg3
  obtain rfl : w3 = (.int i3) := Option.some.inj ei3
  have nz0 := not_v (Cond.before_iff.mp (hsets _ (List.mem_of_getElem? (i := 2) rfl)))
  obtain ⟨G, eG⟩ := is_v (Cond.before_iff.mp (hsets _ (List.mem_of_getElem? (i := 1) rfl)))
  have SG : Sta s s.heap "java/lang/String" "COMPACT_STRINGS" "Z" (.int G) := Sta.start eG (Or.inl (hsets _ (List.mem_of_getElem? (i := 0) rfl)))
  have nz : ¬ (G = (0 : Int32)) := gotF (Cond.eq_ints eG (Term.int_eval (0))) nz0
  obtain ⟨fm, efm, hfm⟩ := isR_v (Cond.before_iff.mp (hsets _ (List.mem_of_getElem? (i := 8) rfl)))
  have SF : Sta s s.heap "jdk/internal/util/Preconditions" "SIOOBE_FORMATTER" "Ljava/util/function/BiFunction;" fm := Sta.start efm (Or.inl (hsets _ (List.mem_of_getElem? (i := 7) rfl)))
  have SUA : Sta s s.heap "java/lang/StringUTF16" "$assertionsDisabled" "Z" (.int (1 : Int32)) := Sta.start (eqv_i (Term.int_eval (1)) (Cond.before_iff.mp (hsets _ (List.mem_of_getElem? (i := 12) rfl)))) (Or.inl (hsets _ (List.mem_of_getElem? (i := 11) rfl)))
  have SUH : Sta s s.heap "java/lang/StringUTF16" "HI_BYTE_SHIFT" "I" (.int (0 : Int32)) := Sta.start (eqv_i (Term.int_eval (0)) (Cond.before_iff.mp (hsets _ (List.mem_of_getElem? (i := 15) rfl)))) (Or.inl (hsets _ (List.mem_of_getElem? (i := 14) rfl)))
  have SUL : Sta s s.heap "java/lang/StringUTF16" "LO_BYTE_SHIFT" "I" (.int (8 : Int32)) := Sta.start (eqv_i (Term.int_eval (8)) (Cond.before_iff.mp (hsets _ (List.mem_of_getElem? (i := 18) rfl)))) (Or.inl (hsets _ (List.mem_of_getElem? (i := 17) rfl)))
  have CHs : CHv s [("java/lang/String", 7)] s.vm s.heap := CHv.start (own_EW hw) (fun p hp => by simp only [List.mem_cons, List.not_mem_nil, or_false] at hp; subst hp; exact hcalls.1 _ (List.mem_of_getElem? (i := 0) rfl)) (hsets _ (List.mem_of_getElem? (i := 2) rfl)) (hw _ (List.mem_of_getElem? (i := 16) rfl)) (hw _ (List.mem_of_getElem? (i := 12) rfl))
  obtain ⟨n, o, h1, h2, h3, _, L, rfl, ⟨rfl, N⟩, hq⟩ := rm_law l s _ hw tables_1 i0 i1 i2 i3 G fm s.heap s.heap.size (Nat.le_refl _) SG nz SF hfm SUA SUH SUL (Old.start s) p e ha hc hk s m _ below hf ((Spec.applies_iff_loose hf).mp happ).1 ⟨rfl, State.Warmed39.refl s, rfl, CHs⟩ trivial
  refine ⟨n, _, h1, h2, h3, hpost _ _ _ _ _ _ ⟨Cond.after_iff.mpr rfl, Cond.after_iff.mpr (eq_i res_at (Term.int_eval (1)) rfl), trivial⟩ ⟨hq.1, hq.2.1, hq.2.2.1, (hq.2.2.2.sift fun y hy => Or.inr (N y hy)).mono (by decide) (by decide)⟩⟩
theorem main_1_1 : Claimed_1_1 := comes_1 fun _ _ _ _ _ _ h hF => ⟨h.1, hF⟩
theorem main_1_2 : Claimed_1_2 := comes_1 fun _ _ _ _ _ _ h hF => ⟨h.2.1, hF⟩
end Jvm.Pilot.@@N@@
namespace Jvm.Pilot.@@N@@
open Jvm Jvm.ClassFile Sem Op Lib Jvm.Free Jvm.Stand Jvm.Pilot.@@N@@.Jvm.D
/-! MADE BY PROGRAM (witnessworld.py) out of the Statement's table words and the real class files: 21 classes; the members and pool entries that the words name. The judged class is class 1, her method 1. -/
namespace start1
open Jvm.ClassFile
def u (s : String) : CpInfo := .utf8 (stringToUtf16 s)
/-- a pool by its gaps: so many unusable entries, then the entry; so many at the end -/
def gap : Nat → List CpInfo → List CpInfo
  | 0, r => r
  | n + 1, r => .unusable :: gap n r
def poolList (es : List (Nat × CpInfo)) (last : Nat) : List CpInfo := es.foldr (fun e r => gap e.1 (e.2 :: r)) (gap last [])
def pool (es : List (Nat × CpInfo)) (last : Nat) : Array CpInfo := ⟨poolList es last⟩
def fileOf (pool : Array CpInfo) (this : Nat) (attrs : Array Attribute := #[]) (ms : Array MethodInfo := #[]) (fl : Nat := 33) (sup : Nat := 0) (ifs : Array Nat := #[]) (fds : Array FieldInfo := #[]) : ClassFile where
  minorVersion := 0
  majorVersion := 65
  constantPool := pool
  accessFlags := fl
  thisClass := this
  superClass := sup
  interfaces := ifs
  fields := fds
  methods := ms
  attributes := attrs
def plain (name : String) (sup : Option ClassId) : Class where
  name := name
  kind := .ordinary
  loader := none
  accessFlags := 33
  super := sup
  interfaces := #[]
  cf := none
  fields := #[]
  methods := #[]
  instanceTypes := #[]
  staticTypes := #[]
  resolved := #[]
  callSites := []
  init := .initialized
  statics := none
  mirror := none

def pool0 : Array CpInfo := pool [(5, u "<init>"), (0, u "()V"), (1, .class_ 10), (1, u "java/lang/Object")] 113

def k0c0 : Code := { maxStack := 0, maxLocals := 1, code := object_method_1_code, exceptionTable := #[], attributes := #[] }
def k0m0 : Method := { name := "<init>", desc := "()V", sig := { parameters := [], returnType := none }, accessFlags := 1, code := some k0c0 }
/-- java/lang/Object -/
def k0 : Class := { plain "java/lang/Object" none with
  accessFlags := 33
  interfaces := #[]
  cf := some (fileOf pool0 8 #[] #[{ accessFlags := 1, nameIndex := 5, descriptorIndex := 6, attributes := #[] }] 33 0 #[] #[])
  fields := #[]
  methods := #[k0m0]
  instanceTypes := #[]
  staticTypes := #[]
  resolved := Array.replicate 124 none
  statics := none }

def pool1 : Array CpInfo := pool [(2, .class_ 4), (0, .nameAndType 5 6), (0, u "java/lang/Object"), (0, u "<init>"), (0, u "()V"), (0, .integer 65535), (0, .methodref 9 10), (0, .class_ 11), (0, .nameAndType 12 13), (0, u "java/lang/String"), (0, u "valueOf"), (0, u "(C)Ljava/lang/String;"), (0, .methodref 9 15), (0, .nameAndType 5 16), (0, u "([C)V"), (0, .integer 2147483647), (0, .class_ 19), (0, u "com/example/strict_markup/strictmarkup/Text"), (0, .methodref 18 3), (0, .methodref 18 22), (0, .nameAndType 23 24), (0, u "append"), (0, u "(C)V"), (0, .class_ 26), (0, u "com/example/strict_markup/strictmarkup/Attribute"), (0, .methodref 25 3), (0, .methodref 25 29), (0, .nameAndType 30 31), (0, u "specify"), (0, u "(Ljava/lang/String;Ljava/lang/String;Ljava/lang/String;)V"), (0, .methodref 25 33), (0, .nameAndType 30 34), (0, u "(Ljava/lang/String;Ljava/lang/String;ZLcom/example/strict_markup/strictmarkup/Text;II)V"), (0, .methodref 25 36), (0, .nameAndType 37 38), (0, u "value"), (0, u "()Ljava/lang/String;"), (0, .methodref 25 40), (0, .nameAndType 41 38), (0, u "name"), (0, .methodref 9 43), (0, .nameAndType 44 45), (0, u "equals"), (0, u "(Ljava/lang/Object;)Z"), (0, .methodref 25 47), (0, .nameAndType 48 38), (0, u "type"), (0, .methodref 25 50), (0, .nameAndType 51 52), (0, u "declared"), (0, u "()Z"), (0, .methodref 25 54), (0, .nameAndType 55 52), (0, u "specified"), (0, .methodref 9 57), (0, .nameAndType 58 59), (0, u "length"), (0, u "()I"), (0, .methodref 61 62), (0, .class_ 63), (0, .nameAndType 64 65), (0, u "com/example/strict_markup/strictmarkup/AttributeSpecifyPinLaw"), (0, u "at"), (0, u "(Ljava/lang/String;[CII)Z"), (0, .methodref 9 67), (0, .nameAndType 68 69), (0, u "charAt"), (0, u "(I)C"), (2, u "law"), (0, u "(IIII)Z")] 5

def k1m0 : Method := { name := "<init>", desc := "()V", sig := { parameters := [], returnType := none }, accessFlags := 1, code := none }
def k1c1 : Code := { maxStack := 7, maxLocals := 17, code := code, exceptionTable := #[], attributes := #[] }
def k1m1 : Method := { name := "law", desc := "(IIII)Z", sig := { parameters := [.int, .int, .int, .int], returnType := some .boolean }, accessFlags := 9, code := some k1c1 }
def k1c2 : Code := { maxStack := 4, maxLocals := 4, code := method_3_code, exceptionTable := #[], attributes := #[] }
def k1m2 : Method := { name := "at", desc := "(Ljava/lang/String;[CII)Z", sig := { parameters := [(.object "java/lang/String"), (.array .char), .int, .int], returnType := some .boolean }, accessFlags := 10, code := some k1c2 }
/-- com/example/strict_markup/strictmarkup/AttributeSpecifyPinLaw -/
def k1 : Class := { plain "com/example/strict_markup/strictmarkup/AttributeSpecifyPinLaw" (some 0) with
  accessFlags := 49
  interfaces := #[]
  cf := some (fileOf pool1 61 #[] #[{ accessFlags := 1, nameIndex := 5, descriptorIndex := 6, attributes := #[] }, { accessFlags := 9, nameIndex := 72, descriptorIndex := 73, attributes := #[] }, { accessFlags := 10, nameIndex := 64, descriptorIndex := 65, attributes := #[] }] 49 2 #[] #[])
  fields := #[]
  methods := #[k1m0, k1m1, k1m2]
  instanceTypes := #[]
  staticTypes := #[]
  resolved := Array.replicate 79 none
  statics := none }

def pool2 : Array CpInfo := pool [(1, .class_ 2), (0, u "java/io/Serializable"), (0, .class_ 4), (0, u "java/lang/Object")] 2

/-- java/io/Serializable -/
def k2 : Class := { plain "java/io/Serializable" (some 0) with
  accessFlags := 1537
  interfaces := #[]
  cf := some (fileOf pool2 1 #[] #[] 1537 3 #[] #[])
  fields := #[]
  methods := #[]
  instanceTypes := #[]
  staticTypes := #[]
  resolved := Array.replicate 7 none
  statics := none }

def pool3 : Array CpInfo := pool [(1, .class_ 2), (0, u "java/lang/Comparable"), (0, .class_ 4), (0, u "java/lang/Object")] 7

/-- java/lang/Comparable -/
def k3 : Class := { plain "java/lang/Comparable" (some 0) with
  accessFlags := 1537
  interfaces := #[]
  cf := some (fileOf pool3 1 #[] #[] 1537 3 #[] #[])
  fields := #[]
  methods := #[]
  instanceTypes := #[]
  staticTypes := #[]
  resolved := Array.replicate 12 none
  statics := none }

def pool4 : Array CpInfo := pool [(2, .class_ 4), (1, u "java/lang/CharSequence"), (42, .class_ 48), (0, u "java/lang/CharSequence$1CodePointIterator"), (10, .class_ 60), (0, u "java/lang/CharSequence$1CharIterator"), (5, .class_ 67), (0, u "java/lang/Object")] 63

/-- java/lang/CharSequence -/
def k4 : Class := { plain "java/lang/CharSequence" (some 0) with
  accessFlags := 1537
  interfaces := #[]
  cf := some (fileOf pool4 2 #[.nestMembers #[47, 59]] #[] 1537 66 #[] #[])
  fields := #[]
  methods := #[]
  instanceTypes := #[]
  staticTypes := #[]
  resolved := Array.replicate 131 none
  statics := none }

def pool5 : Array CpInfo := pool [(1, .class_ 2), (0, u "java/lang/constant/Constable"), (0, .class_ 4), (0, u "java/lang/Object")] 6

/-- java/lang/constant/Constable -/
def k5 : Class := { plain "java/lang/constant/Constable" (some 0) with
  accessFlags := 1537
  interfaces := #[]
  cf := some (fileOf pool5 1 #[] #[] 1537 3 #[] #[])
  fields := #[]
  methods := #[]
  instanceTypes := #[]
  staticTypes := #[]
  resolved := Array.replicate 11 none
  statics := none }

def pool6 : Array CpInfo := pool [(1, .class_ 2), (0, u "java/lang/constant/ConstantDesc"), (0, .class_ 4), (0, u "java/lang/Object")] 32

/-- java/lang/constant/ConstantDesc -/
def k6 : Class := { plain "java/lang/constant/ConstantDesc" (some 0) with
  accessFlags := 1537
  interfaces := #[]
  cf := some (fileOf pool6 1 #[] #[] 1537 3 #[] #[])
  fields := #[]
  methods := #[]
  instanceTypes := #[]
  staticTypes := #[]
  resolved := Array.replicate 37 none
  statics := none }

def pool7 : Array CpInfo := pool [(1, .methodref 2 3), (0, .class_ 4), (0, .nameAndType 5 6), (0, u "java/lang/Object"), (0, u "<init>"), (0, u "()V"), (0, .string 8), (0, u ""), (0, .fieldref 10 11), (0, .class_ 12), (0, .nameAndType 13 14), (0, u "java/lang/String"), (0, u "value"), (0, u "[B"), (0, .fieldref 10 16), (0, .nameAndType 17 18), (0, u "coder"), (0, u "B"), (2, u "hash"), (0, u "I"), (2, u "hashIsZero"), (0, u "Z"), (0, .methodref 10 28), (0, .nameAndType 5 29), (0, u "([CIILjava/lang/Void;)V"), (0, .methodref 10 31), (0, .nameAndType 32 33), (0, u "rangeCheck"), (0, u "([CII)Ljava/lang/Void;"), (0, .methodref 10 35), (0, .nameAndType 36 37), (0, u "checkBoundsOffCount"), (0, u "(III)I"), (0, .fieldref 10 39), (0, .nameAndType 40 26), (0, u "COMPACT_STRINGS"), (1, .class_ 44), (1, u "java/lang/StringUTF16"), (0, u "compress"), (1, .methodref 42 48), (0, .nameAndType 49 50), (0, u "coderFromArrayLen"), (0, u "([BI)B"), (2, u "toBytes"), (53, .class_ 109), (1, u "java/lang/StringLatin1"), (32, u "()Z"), (34, .methodref 42 178), (0, .nameAndType 45 179), (0, u "([CII)[B"), (29, .methodref 10 210), (0, .nameAndType 5 211), (0, u "([BB)V"), (122, u "()I"), (0, .methodref 10 336), (0, .nameAndType 17 337), (0, u "()B"), (25, u "([BI)C"), (5, u "(C)Z"), (21, u "(II)V"), (35, u "(I)C"), (64, .methodref 10 493), (0, .nameAndType 494 142), (0, u "isLatin1"), (0, .methodref 107 496), (0, .nameAndType 497 363), (0, u "charAt"), (0, .methodref 42 496), (2, u "checkIndex"), (5, u "length"), (35, u "equals"), (29, u "(Ljava/lang/Object;)Z"), (1, .class_ 576), (0, u "java/lang/CharSequence"), (22, u "CASE_INSENSITIVE_ORDER"), (0, u "Ljava/util/Comparator;"), (181, u "valueOf"), (0, u "(C)Ljava/lang/String;"), (188, u "([CII)V"), (37, u "([C)V"), (4, .methodref 107 1016), (0, .nameAndType 1017 369), (0, u "canEncode"), (0, .methodref 107 1019), (0, .nameAndType 53 1020), (0, u "(C)[B"), (32, .fieldref 1054 1055), (0, .class_ 1056), (0, .nameAndType 1057 1058), (0, u "jdk/internal/util/Preconditions"), (0, u "SIOOBE_FORMATTER"), (0, u "Ljava/util/function/BiFunction;"), (0, .methodref 1054 1060), (0, .nameAndType 501 1061), (0, u "(IILjava/util/function/BiFunction;)I"), (2, u "(IIILjava/util/function/BiFunction;)I"), (0, .methodref 1054 1066), (0, .nameAndType 1067 1064), (0, u "checkFromIndexSize"), (33, u "serialPersistentFields"), (0, u "[Ljava/io/ObjectStreamField;"), (0, .class_ 1104), (0, u "java/lang/String$CaseInsensitiveComparator"), (1, .class_ 1107), (0, u "java/io/Serializable"), (0, .class_ 1109), (0, u "java/lang/Comparable"), (0, .class_ 1111), (0, u "java/lang/constant/Constable"), (0, .class_ 1113), (0, u "java/lang/constant/ConstantDesc"), (2, u "serialVersionUID"), (0, u "J"), (3, u "REPL"), (0, u "C"), (2, u "LATIN1"), (1, u "UTF16")] 323

def k7m0 : Method := { name := "<init>", desc := "()V", sig := { parameters := [], returnType := none }, accessFlags := 1, code := none }
def k7c1 : Code := { maxStack := 5, maxLocals := 2, code := jdk_42_method_3_code, exceptionTable := #[], attributes := #[] }
def k7m1 : Method := { name := "<init>", desc := "([C)V", sig := { parameters := [(.array .char)], returnType := none }, accessFlags := 1, code := some k7c1 }
def k7c2 : Code := { maxStack := 7, maxLocals := 4, code := jdk_42_method_4_code, exceptionTable := #[], attributes := #[] }
def k7m2 : Method := { name := "<init>", desc := "([CII)V", sig := { parameters := [(.array .char), .int, .int], returnType := none }, accessFlags := 1, code := some k7c2 }
def k7c3 : Code := { maxStack := 3, maxLocals := 3, code := jdk_42_method_5_code, exceptionTable := #[], attributes := #[] }
def k7m3 : Method := { name := "rangeCheck", desc := "([CII)Ljava/lang/Void;", sig := { parameters := [(.array .char), .int, .int], returnType := some (.object "java/lang/Void") }, accessFlags := 10, code := some k7c3 }
def k7c4 : Code := { maxStack := 2, maxLocals := 1, code := jdk_42_method_54_code, exceptionTable := #[], attributes := #[] }
def k7m4 : Method := { name := "length", desc := "()I", sig := { parameters := [], returnType := some .int }, accessFlags := 1, code := some k7c4 }
def k7c5 : Code := { maxStack := 2, maxLocals := 2, code := jdk_42_method_56_code, exceptionTable := #[], attributes := #[] }
def k7m5 : Method := { name := "charAt", desc := "(I)C", sig := { parameters := [.int], returnType := some .char }, accessFlags := 1, code := some k7c5 }
def k7c6 : Code := { maxStack := 2, maxLocals := 3, code := jdk_42_method_66_code, exceptionTable := #[], attributes := #[] }
def k7m6 : Method := { name := "equals", desc := "(Ljava/lang/Object;)Z", sig := { parameters := [(.object "java/lang/Object")], returnType := some .boolean }, accessFlags := 1, code := some k7c6 }
def k7c7 : Code := { maxStack := 4, maxLocals := 1, code := jdk_42_method_139_code, exceptionTable := #[], attributes := #[] }
def k7m7 : Method := { name := "valueOf", desc := "(C)Ljava/lang/String;", sig := { parameters := [.char], returnType := some (.object "java/lang/String") }, accessFlags := 9, code := some k7c7 }
def k7c8 : Code := { maxStack := 4, maxLocals := 6, code := jdk_42_method_149_code, exceptionTable := #[], attributes := #[] }
def k7m8 : Method := { name := "<init>", desc := "([CIILjava/lang/Void;)V", sig := { parameters := [(.array .char), .int, .int, (.object "java/lang/Void")], returnType := none }, accessFlags := 2, code := some k7c8 }
def k7c9 : Code := { maxStack := 2, maxLocals := 3, code := jdk_42_method_151_code, exceptionTable := #[], attributes := #[] }
def k7m9 : Method := { name := "<init>", desc := "([BB)V", sig := { parameters := [(.array .byte), .byte], returnType := none }, accessFlags := 0, code := some k7c9 }
def k7c10 : Code := { maxStack := 1, maxLocals := 1, code := jdk_42_method_152_code, exceptionTable := #[], attributes := #[] }
def k7m10 : Method := { name := "coder", desc := "()B", sig := { parameters := [], returnType := some .byte }, accessFlags := 0, code := some k7c10 }
def k7c11 : Code := { maxStack := 1, maxLocals := 1, code := jdk_42_method_154_code, exceptionTable := #[], attributes := #[] }
def k7m11 : Method := { name := "isLatin1", desc := "()Z", sig := { parameters := [], returnType := some .boolean }, accessFlags := 0, code := some k7c11 }
def k7c12 : Code := { maxStack := 3, maxLocals := 2, code := jdk_42_method_155_code, exceptionTable := #[], attributes := #[] }
def k7m12 : Method := { name := "checkIndex", desc := "(II)V", sig := { parameters := [.int, .int], returnType := none }, accessFlags := 8, code := some k7c12 }
def k7c13 : Code := { maxStack := 4, maxLocals := 3, code := jdk_42_method_157_code, exceptionTable := #[], attributes := #[] }
def k7m13 : Method := { name := "checkBoundsOffCount", desc := "(III)I", sig := { parameters := [.int, .int, .int], returnType := some .int }, accessFlags := 8, code := some k7c13 }
/-- java/lang/String -/
def k7 : Class := { plain "java/lang/String" (some 0) with
  accessFlags := 49
  interfaces := #[2, 3, 4, 5, 6]
  cf := some (fileOf pool7 10 #[.nestMembers #[1103]] #[{ accessFlags := 1, nameIndex := 5, descriptorIndex := 6, attributes := #[] }, { accessFlags := 1, nameIndex := 5, descriptorIndex := 1010, attributes := #[] }, { accessFlags := 1, nameIndex := 5, descriptorIndex := 972, attributes := #[] }, { accessFlags := 10, nameIndex := 32, descriptorIndex := 33, attributes := #[] }, { accessFlags := 1, nameIndex := 507, descriptorIndex := 334, attributes := #[] }, { accessFlags := 1, nameIndex := 497, descriptorIndex := 427, attributes := #[] }, { accessFlags := 1, nameIndex := 543, descriptorIndex := 573, attributes := #[] }, { accessFlags := 9, nameIndex := 782, descriptorIndex := 783, attributes := #[] }, { accessFlags := 2, nameIndex := 5, descriptorIndex := 29, attributes := #[] }, { accessFlags := 0, nameIndex := 5, descriptorIndex := 211, attributes := #[] }, { accessFlags := 0, nameIndex := 17, descriptorIndex := 337, attributes := #[] }, { accessFlags := 0, nameIndex := 494, descriptorIndex := 142, attributes := #[] }, { accessFlags := 8, nameIndex := 501, descriptorIndex := 391, attributes := #[] }, { accessFlags := 8, nameIndex := 36, descriptorIndex := 37, attributes := #[] }] 49 2 #[1106, 1108, 575, 1110, 1112] #[{ accessFlags := 18, nameIndex := 13, descriptorIndex := 14, attributes := #[] }, { accessFlags := 18, nameIndex := 17, descriptorIndex := 18, attributes := #[] }, { accessFlags := 2, nameIndex := 21, descriptorIndex := 22, attributes := #[] }, { accessFlags := 2, nameIndex := 25, descriptorIndex := 26, attributes := #[] }, { accessFlags := 26, nameIndex := 1116, descriptorIndex := 1117, attributes := #[] }, { accessFlags := 24, nameIndex := 40, descriptorIndex := 26, attributes := #[] }, { accessFlags := 26, nameIndex := 1101, descriptorIndex := 1102, attributes := #[] }, { accessFlags := 26, nameIndex := 1121, descriptorIndex := 1122, attributes := #[] }, { accessFlags := 25, nameIndex := 599, descriptorIndex := 600, attributes := #[] }, { accessFlags := 24, nameIndex := 1125, descriptorIndex := 18, attributes := #[] }, { accessFlags := 24, nameIndex := 1127, descriptorIndex := 18, attributes := #[] }])
  fields := #[{ name := "value", type := (.array .byte), accessFlags := 18, slot := 0, constantValue := 0 }, { name := "coder", type := .byte, accessFlags := 18, slot := 1, constantValue := 0 }, { name := "hash", type := .int, accessFlags := 2, slot := 2, constantValue := 0 }, { name := "hashIsZero", type := .boolean, accessFlags := 2, slot := 3, constantValue := 0 }, { name := "serialVersionUID", type := .long, accessFlags := 26, slot := 0, constantValue := 0 }, { name := "COMPACT_STRINGS", type := .boolean, accessFlags := 24, slot := 1, constantValue := 0 }, { name := "serialPersistentFields", type := (.array (.object "java/io/ObjectStreamField")), accessFlags := 26, slot := 2, constantValue := 0 }, { name := "REPL", type := .char, accessFlags := 26, slot := 3, constantValue := 0 }, { name := "CASE_INSENSITIVE_ORDER", type := (.object "java/util/Comparator"), accessFlags := 25, slot := 4, constantValue := 0 }, { name := "LATIN1", type := .byte, accessFlags := 24, slot := 5, constantValue := 0 }, { name := "UTF16", type := .byte, accessFlags := 24, slot := 6, constantValue := 0 }]
  methods := #[k7m0, k7m1, k7m2, k7m3, k7m4, k7m5, k7m6, k7m7, k7m8, k7m9, k7m10, k7m11, k7m12, k7m13]
  instanceTypes := #[(.array .byte), .byte, .int, .boolean]
  staticTypes := #[.long, .boolean, (.array (.object "java/io/ObjectStreamField")), .char, (.object "java/util/Comparator"), .byte, .byte]
  resolved := Array.replicate 1451 none
  statics := some 0 }

def pool8 : Array CpInfo := pool [(1, .class_ 2), (0, u "java/lang/String"), (1, .class_ 6), (1, u "java/lang/Object"), (0, u "<init>"), (0, u "()V"), (0, .methodref 1 10), (0, .nameAndType 11 12), (0, u "checkIndex"), (0, u "(II)V"), (1, .class_ 16), (1, u "java/lang/StringLatin1"), (36, u "([BI)C"), (36, u "canEncode"), (14, u "(C)Z"), (15, u "$assertionsDisabled"), (0, u "Z"), (98, .class_ 223), (1, u "java/lang/StringLatin1$LinesSpliterator"), (28, u "charAt"), (127, u "toBytes"), (1, u "(C)[B"), (7, .class_ 391), (0, u "java/lang/StringLatin1$CharsSpliterator")] 3

def k8m0 : Method := { name := "<init>", desc := "()V", sig := { parameters := [], returnType := none }, accessFlags := 0, code := none }
def k8c1 : Code := { maxStack := 2, maxLocals := 2, code := jdk_43_method_2_code, exceptionTable := #[], attributes := #[] }
def k8m1 : Method := { name := "charAt", desc := "([BI)C", sig := { parameters := [(.array .byte), .int], returnType := some .char }, accessFlags := 9, code := some k8c1 }
def k8c2 : Code := { maxStack := 2, maxLocals := 1, code := jdk_43_method_3_code, exceptionTable := #[], attributes := #[] }
def k8m2 : Method := { name := "canEncode", desc := "(C)Z", sig := { parameters := [.char], returnType := some .boolean }, accessFlags := 9, code := some k8c2 }
def k8c3 : Code := { maxStack := 4, maxLocals := 1, code := jdk_43_method_46_code, exceptionTable := #[], attributes := #[] }
def k8m3 : Method := { name := "toBytes", desc := "(C)[B", sig := { parameters := [.char], returnType := some (.array .byte) }, accessFlags := 9, code := some k8c3 }
/-- java/lang/StringLatin1 -/
def k8 : Class := { plain "java/lang/StringLatin1" (some 0) with
  accessFlags := 48
  interfaces := #[]
  cf := some (fileOf pool8 14 #[.nestMembers #[390, 221]] #[{ accessFlags := 0, nameIndex := 7, descriptorIndex := 8, attributes := #[] }, { accessFlags := 9, nameIndex := 252, descriptorIndex := 53, attributes := #[] }, { accessFlags := 9, nameIndex := 90, descriptorIndex := 105, attributes := #[] }, { accessFlags := 9, nameIndex := 380, descriptorIndex := 382, attributes := #[] }] 48 4 #[] #[{ accessFlags := 4120, nameIndex := 121, descriptorIndex := 122, attributes := #[] }])
  fields := #[{ name := "$assertionsDisabled", type := .boolean, accessFlags := 4120, slot := 0, constantValue := 0 }]
  methods := #[k8m0, k8m1, k8m2, k8m3]
  instanceTypes := #[]
  staticTypes := #[.boolean]
  resolved := Array.replicate 395 none
  statics := none }

def pool9 : Array CpInfo := pool [(3, .class_ 4), (0, u "java/lang/String"), (1, .class_ 8), (1, u "java/lang/Object"), (0, u "<init>"), (0, u "()V"), (0, .methodref 12 13), (0, .class_ 14), (0, .nameAndType 15 16), (0, u "java/lang/StringUTF16"), (0, u "newBytesLength"), (0, u "(I)I"), (3, .integer 1073741823), (23, .fieldref 12 45), (0, .nameAndType 46 47), (0, u "$assertionsDisabled"), (0, u "Z"), (0, .methodref 12 49), (0, .nameAndType 50 51), (0, u "length"), (0, u "([B)I"), (7, .fieldref 12 60), (0, .nameAndType 61 62), (0, u "HI_BYTE_SHIFT"), (0, u "I"), (0, .fieldref 12 64), (0, .nameAndType 65 62), (0, u "LO_BYTE_SHIFT"), (1, .methodref 12 68), (0, .nameAndType 69 70), (0, u "checkIndex"), (0, u "(I[B)V"), (0, .methodref 12 72), (0, .nameAndType 73 74), (0, u "getChar"), (0, u "([BI)C"), (32, .methodref 12 108), (0, .nameAndType 109 110), (0, u "newBytesFor"), (0, u "(I)[B"), (0, .methodref 12 112), (0, .nameAndType 113 114), (0, u "putChar"), (0, u "([BII)V"), (0, .methodref 12 116), (0, .nameAndType 117 118), (0, u "compress"), (0, u "([CI[BII)I"), (0, .methodref 12 120), (0, .nameAndType 121 122), (0, u "toBytes"), (0, u "([CII)[B"), (138, u "coderFromArrayLen"), (0, u "([BI)B"), (106, .class_ 371), (1, u "java/lang/StringUTF16$LinesSpliterator"), (20, u "charAt"), (21, .methodref 3 415), (0, .nameAndType 69 416), (0, u "(II)V"), (13, u "MAX_LENGTH"), (196, .class_ 628), (0, u "java/lang/StringUTF16$CodePointsSpliterator"), (0, .class_ 630), (0, u "java/lang/StringUTF16$CharsSpliterator")] 4

def k9m0 : Method := { name := "<init>", desc := "()V", sig := { parameters := [], returnType := none }, accessFlags := 0, code := none }
def k9c1 : Code := { maxStack := 1, maxLocals := 1, code := jdk_52_method_2_code, exceptionTable := #[], attributes := #[] }
def k9m1 : Method := { name := "newBytesFor", desc := "(I)[B", sig := { parameters := [.int], returnType := some (.array .byte) }, accessFlags := 9, code := some k9c1 }
def k9c2 : Code := { maxStack := 4, maxLocals := 1, code := jdk_52_method_3_code, exceptionTable := #[], attributes := #[] }
def k9m2 : Method := { name := "newBytesLength", desc := "(I)I", sig := { parameters := [.int], returnType := some .int }, accessFlags := 9, code := some k9c2 }
def k9c3 : Code := { maxStack := 4, maxLocals := 3, code := jdk_52_method_4_code, exceptionTable := #[], attributes := #[] }
def k9m3 : Method := { name := "putChar", desc := "([BII)V", sig := { parameters := [(.array .byte), .int, .int], returnType := none }, accessFlags := 8, code := some k9c3 }
def k9c4 : Code := { maxStack := 3, maxLocals := 2, code := jdk_52_method_5_code, exceptionTable := #[], attributes := #[] }
def k9m4 : Method := { name := "getChar", desc := "([BI)C", sig := { parameters := [(.array .byte), .int], returnType := some .char }, accessFlags := 8, code := some k9c4 }
def k9c5 : Code := { maxStack := 2, maxLocals := 1, code := jdk_52_method_6_code, exceptionTable := #[], attributes := #[] }
def k9m5 : Method := { name := "length", desc := "([B)I", sig := { parameters := [(.array .byte)], returnType := some .int }, accessFlags := 9, code := some k9c5 }
def k9c6 : Code := { maxStack := 4, maxLocals := 5, code := jdk_52_method_14_code, exceptionTable := #[], attributes := #[] }
def k9m6 : Method := { name := "toBytes", desc := "([CII)[B", sig := { parameters := [(.array .char), .int, .int], returnType := some (.array .byte) }, accessFlags := 9, code := some k9c6 }
def k9c7 : Code := { maxStack := 2, maxLocals := 2, code := jdk_52_method_15_code, exceptionTable := #[], attributes := #[] }
def k9m7 : Method := { name := "coderFromArrayLen", desc := "([BI)B", sig := { parameters := [(.array .byte), .int], returnType := some .byte }, accessFlags := 8, code := some k9c7 }
def k9c8 : Code := { maxStack := 5, maxLocals := 6, code := jdk_52_method_16_code, exceptionTable := #[], attributes := #[] }
def k9m8 : Method := { name := "compress", desc := "([CII)[B", sig := { parameters := [(.array .char), .int, .int], returnType := some (.array .byte) }, accessFlags := 9, code := some k9c8 }
def k9c9 : Code := { maxStack := 3, maxLocals := 7, code := jdk_52_method_21_code, exceptionTable := #[], attributes := #[] }
def k9m9 : Method := { name := "compress", desc := "([CI[BII)I", sig := { parameters := [(.array .char), .int, (.array .byte), .int, .int], returnType := some .int }, accessFlags := 9, code := some k9c9 }
def k9c10 : Code := { maxStack := 2, maxLocals := 2, code := jdk_52_method_83_code, exceptionTable := #[], attributes := #[] }
def k9m10 : Method := { name := "charAt", desc := "([BI)C", sig := { parameters := [(.array .byte), .int], returnType := some .char }, accessFlags := 9, code := some k9c10 }
def k9c11 : Code := { maxStack := 2, maxLocals := 2, code := jdk_52_method_91_code, exceptionTable := #[], attributes := #[] }
def k9m11 : Method := { name := "checkIndex", desc := "(I[B)V", sig := { parameters := [.int, (.array .byte)], returnType := none }, accessFlags := 9, code := some k9c11 }
/-- java/lang/StringUTF16 -/
def k9 : Class := { plain "java/lang/StringUTF16" (some 0) with
  accessFlags := 48
  interfaces := #[]
  cf := some (fileOf pool9 12 #[.nestMembers #[627, 629, 369]] #[{ accessFlags := 0, nameIndex := 9, descriptorIndex := 10, attributes := #[] }, { accessFlags := 9, nameIndex := 109, descriptorIndex := 110, attributes := #[] }, { accessFlags := 9, nameIndex := 15, descriptorIndex := 16, attributes := #[] }, { accessFlags := 8, nameIndex := 113, descriptorIndex := 114, attributes := #[] }, { accessFlags := 8, nameIndex := 73, descriptorIndex := 74, attributes := #[] }, { accessFlags := 9, nameIndex := 50, descriptorIndex := 51, attributes := #[] }, { accessFlags := 9, nameIndex := 121, descriptorIndex := 122, attributes := #[] }, { accessFlags := 8, nameIndex := 261, descriptorIndex := 262, attributes := #[] }, { accessFlags := 9, nameIndex := 117, descriptorIndex := 122, attributes := #[] }, { accessFlags := 9, nameIndex := 117, descriptorIndex := 118, attributes := #[] }, { accessFlags := 9, nameIndex := 392, descriptorIndex := 74, attributes := #[] }, { accessFlags := 9, nameIndex := 69, descriptorIndex := 70, attributes := #[] }] 48 6 #[] #[{ accessFlags := 26, nameIndex := 61, descriptorIndex := 62, attributes := #[] }, { accessFlags := 26, nameIndex := 65, descriptorIndex := 62, attributes := #[] }, { accessFlags := 24, nameIndex := 430, descriptorIndex := 62, attributes := #[] }, { accessFlags := 4120, nameIndex := 46, descriptorIndex := 47, attributes := #[] }])
  fields := #[{ name := "HI_BYTE_SHIFT", type := .int, accessFlags := 26, slot := 0, constantValue := 0 }, { name := "LO_BYTE_SHIFT", type := .int, accessFlags := 26, slot := 1, constantValue := 0 }, { name := "MAX_LENGTH", type := .int, accessFlags := 24, slot := 2, constantValue := 0 }, { name := "$assertionsDisabled", type := .boolean, accessFlags := 4120, slot := 3, constantValue := 0 }]
  methods := #[k9m0, k9m1, k9m2, k9m3, k9m4, k9m5, k9m6, k9m7, k9m8, k9m9, k9m10, k9m11]
  instanceTypes := #[]
  staticTypes := #[.int, .int, .int, .boolean]
  resolved := Array.replicate 635 none
  statics := some 1 }

def pool10 : Array CpInfo := pool [(1, .methodref 2 3), (0, .class_ 4), (0, .nameAndType 5 6), (0, u "java/lang/Object"), (0, u "<init>"), (0, u "()V"), (0, .fieldref 8 9), (0, .class_ 10), (0, .nameAndType 11 12), (0, u "com/example/strict_markup/strictmarkup/Text"), (0, u "chars"), (0, u "[C"), (0, .fieldref 8 14), (0, .nameAndType 15 16), (0, u "length"), (0, u "I"), (17, u "append"), (0, u "(C)V"), (36, u "array"), (0, u "()[C")] 11

def k10c0 : Code := { maxStack := 2, maxLocals := 1, code := prog_81_method_1_code, exceptionTable := #[], attributes := #[] }
def k10m0 : Method := { name := "<init>", desc := "()V", sig := { parameters := [], returnType := none }, accessFlags := 0, code := some k10c0 }
def k10c1 : Code := { maxStack := 1, maxLocals := 1, code := prog_81_method_2_code, exceptionTable := #[], attributes := #[] }
def k10m1 : Method := { name := "array", desc := "()[C", sig := { parameters := [], returnType := some (.array .char) }, accessFlags := 0, code := some k10c1 }
def k10c2 : Code := { maxStack := 5, maxLocals := 2, code := prog_81_method_8_code, exceptionTable := #[], attributes := #[] }
def k10m2 : Method := { name := "append", desc := "(C)V", sig := { parameters := [.char], returnType := none }, accessFlags := 0, code := some k10c2 }
/-- com/example/strict_markup/strictmarkup/Text -/
def k10 : Class := { plain "com/example/strict_markup/strictmarkup/Text" (some 0) with
  accessFlags := 48
  interfaces := #[]
  cf := some (fileOf pool10 8 #[] #[{ accessFlags := 0, nameIndex := 5, descriptorIndex := 6, attributes := #[] }, { accessFlags := 0, nameIndex := 72, descriptorIndex := 73, attributes := #[] }, { accessFlags := 0, nameIndex := 34, descriptorIndex := 35, attributes := #[] }] 48 2 #[] #[{ accessFlags := 2, nameIndex := 11, descriptorIndex := 12, attributes := #[] }, { accessFlags := 2, nameIndex := 15, descriptorIndex := 16, attributes := #[] }])
  fields := #[{ name := "chars", type := (.array .char), accessFlags := 2, slot := 0, constantValue := 0 }, { name := "length", type := .int, accessFlags := 2, slot := 1, constantValue := 0 }]
  methods := #[k10m0, k10m1, k10m2]
  instanceTypes := #[(.array .char), .int]
  staticTypes := #[]
  resolved := Array.replicate 85 none
  statics := none }

def pool11 : Array CpInfo := pool [(1, .methodref 2 3), (0, .class_ 4), (0, .nameAndType 5 6), (0, u "java/lang/Object"), (0, u "<init>"), (0, u "()V"), (0, .class_ 8), (0, u "com/example/strict_markup/strictmarkup/Attribute"), (1, .fieldref 7 11), (0, .nameAndType 12 13), (0, u "name"), (0, u "Ljava/lang/String;"), (0, .fieldref 7 15), (0, .nameAndType 16 13), (0, u "type"), (0, .fieldref 7 18), (0, .nameAndType 19 20), (0, u "declared"), (0, u "Z"), (0, .fieldref 7 22), (0, .nameAndType 23 13), (0, u "value"), (0, .fieldref 7 25), (0, .nameAndType 26 20), (0, u "specified"), (0, .fieldref 7 28), (0, .nameAndType 29 30), (0, u "text"), (0, u "Lcom/example/strict_markup/strictmarkup/Text;"), (0, .fieldref 7 32), (0, .nameAndType 33 34), (0, u "start"), (0, u "I"), (0, .fieldref 7 36), (0, .nameAndType 37 34), (0, u "length"), (0, .methodref 7 39), (0, .nameAndType 40 41), (0, u "specify"), (0, u "(Ljava/lang/String;Ljava/lang/String;ZLcom/example/strict_markup/strictmarkup/Text;II)V"), (0, .class_ 43), (0, u "java/lang/String"), (0, .methodref 45 46), (0, .class_ 47), (0, .nameAndType 48 49), (0, u "com/example/strict_markup/strictmarkup/Text"), (0, u "array"), (0, u "()[C"), (0, .methodref 42 51), (0, .nameAndType 5 52), (0, u "([CII)V"), (14, u "namespace"), (2, u "localName"), (4, u "(Ljava/lang/String;Ljava/lang/String;Ljava/lang/String;)V"), (0, u "()Ljava/lang/String;"), (4, u "()Z")] 2

def k11c0 : Code := { maxStack := 1, maxLocals := 1, code := prog_1_method_1_code, exceptionTable := #[], attributes := #[] }
def k11m0 : Method := { name := "<init>", desc := "()V", sig := { parameters := [], returnType := none }, accessFlags := 0, code := some k11c0 }
def k11c1 : Code := { maxStack := 2, maxLocals := 7, code := prog_1_method_3_code, exceptionTable := #[], attributes := #[] }
def k11m1 : Method := { name := "specify", desc := "(Ljava/lang/String;Ljava/lang/String;ZLcom/example/strict_markup/strictmarkup/Text;II)V", sig := { parameters := [(.object "java/lang/String"), (.object "java/lang/String"), .boolean, (.object "com/example/strict_markup/strictmarkup/Text"), .int, .int], returnType := none }, accessFlags := 0, code := some k11c1 }
def k11c2 : Code := { maxStack := 7, maxLocals := 4, code := prog_1_method_4_code, exceptionTable := #[], attributes := #[] }
def k11m2 : Method := { name := "specify", desc := "(Ljava/lang/String;Ljava/lang/String;Ljava/lang/String;)V", sig := { parameters := [(.object "java/lang/String"), (.object "java/lang/String"), (.object "java/lang/String")], returnType := none }, accessFlags := 0, code := some k11c2 }
def k11c3 : Code := { maxStack := 1, maxLocals := 1, code := prog_1_method_5_code, exceptionTable := #[], attributes := #[] }
def k11m3 : Method := { name := "name", desc := "()Ljava/lang/String;", sig := { parameters := [], returnType := some (.object "java/lang/String") }, accessFlags := 0, code := some k11c3 }
def k11c4 : Code := { maxStack := 6, maxLocals := 1, code := prog_1_method_6_code, exceptionTable := #[], attributes := #[] }
def k11m4 : Method := { name := "value", desc := "()Ljava/lang/String;", sig := { parameters := [], returnType := some (.object "java/lang/String") }, accessFlags := 0, code := some k11c4 }
def k11c5 : Code := { maxStack := 1, maxLocals := 1, code := prog_1_method_7_code, exceptionTable := #[], attributes := #[] }
def k11m5 : Method := { name := "type", desc := "()Ljava/lang/String;", sig := { parameters := [], returnType := some (.object "java/lang/String") }, accessFlags := 0, code := some k11c5 }
def k11c6 : Code := { maxStack := 1, maxLocals := 1, code := prog_1_method_12_code, exceptionTable := #[], attributes := #[] }
def k11m6 : Method := { name := "declared", desc := "()Z", sig := { parameters := [], returnType := some .boolean }, accessFlags := 0, code := some k11c6 }
def k11c7 : Code := { maxStack := 1, maxLocals := 1, code := prog_1_method_13_code, exceptionTable := #[], attributes := #[] }
def k11m7 : Method := { name := "specified", desc := "()Z", sig := { parameters := [], returnType := some .boolean }, accessFlags := 0, code := some k11c7 }
/-- com/example/strict_markup/strictmarkup/Attribute -/
def k11 : Class := { plain "com/example/strict_markup/strictmarkup/Attribute" (some 0) with
  accessFlags := 48
  interfaces := #[]
  cf := some (fileOf pool11 7 #[] #[{ accessFlags := 0, nameIndex := 5, descriptorIndex := 6, attributes := #[] }, { accessFlags := 0, nameIndex := 40, descriptorIndex := 41, attributes := #[] }, { accessFlags := 0, nameIndex := 40, descriptorIndex := 75, attributes := #[] }, { accessFlags := 0, nameIndex := 12, descriptorIndex := 76, attributes := #[] }, { accessFlags := 0, nameIndex := 23, descriptorIndex := 76, attributes := #[] }, { accessFlags := 0, nameIndex := 16, descriptorIndex := 76, attributes := #[] }, { accessFlags := 0, nameIndex := 19, descriptorIndex := 81, attributes := #[] }, { accessFlags := 0, nameIndex := 26, descriptorIndex := 81, attributes := #[] }] 48 2 #[] #[{ accessFlags := 2, nameIndex := 12, descriptorIndex := 13, attributes := #[] }, { accessFlags := 2, nameIndex := 16, descriptorIndex := 13, attributes := #[] }, { accessFlags := 2, nameIndex := 19, descriptorIndex := 20, attributes := #[] }, { accessFlags := 2, nameIndex := 26, descriptorIndex := 20, attributes := #[] }, { accessFlags := 2, nameIndex := 23, descriptorIndex := 13, attributes := #[] }, { accessFlags := 2, nameIndex := 67, descriptorIndex := 13, attributes := #[] }, { accessFlags := 2, nameIndex := 70, descriptorIndex := 13, attributes := #[] }, { accessFlags := 2, nameIndex := 29, descriptorIndex := 30, attributes := #[] }, { accessFlags := 2, nameIndex := 33, descriptorIndex := 34, attributes := #[] }, { accessFlags := 2, nameIndex := 37, descriptorIndex := 34, attributes := #[] }])
  fields := #[{ name := "name", type := (.object "java/lang/String"), accessFlags := 2, slot := 0, constantValue := 0 }, { name := "type", type := (.object "java/lang/String"), accessFlags := 2, slot := 1, constantValue := 0 }, { name := "declared", type := .boolean, accessFlags := 2, slot := 2, constantValue := 0 }, { name := "specified", type := .boolean, accessFlags := 2, slot := 3, constantValue := 0 }, { name := "value", type := (.object "java/lang/String"), accessFlags := 2, slot := 4, constantValue := 0 }, { name := "namespace", type := (.object "java/lang/String"), accessFlags := 2, slot := 5, constantValue := 0 }, { name := "localName", type := (.object "java/lang/String"), accessFlags := 2, slot := 6, constantValue := 0 }, { name := "text", type := (.object "com/example/strict_markup/strictmarkup/Text"), accessFlags := 2, slot := 7, constantValue := 0 }, { name := "start", type := .int, accessFlags := 2, slot := 8, constantValue := 0 }, { name := "length", type := .int, accessFlags := 2, slot := 9, constantValue := 0 }]
  methods := #[k11m0, k11m1, k11m2, k11m3, k11m4, k11m5, k11m6, k11m7]
  instanceTypes := #[(.object "java/lang/String"), (.object "java/lang/String"), .boolean, .boolean, (.object "java/lang/String"), (.object "java/lang/String"), (.object "java/lang/String"), (.object "com/example/strict_markup/strictmarkup/Text"), .int, .int]
  staticTypes := #[]
  resolved := Array.replicate 84 none
  statics := none }

def pool12 : Array CpInfo := pool [(2, .class_ 4), (1, u "java/lang/Object"), (0, u "<init>"), (0, u "()V"), (17, .class_ 26), (1, u "jdk/internal/util/Preconditions"), (6, u "checkIndex"), (15, u "checkFromIndexSize"), (5, .class_ 56), (0, u "jdk/internal/util/Preconditions$4"), (57, .class_ 115), (0, u "jdk/internal/util/Preconditions$1"), (7, u "SIOOBE_FORMATTER"), (0, u "Ljava/util/function/BiFunction;"), (0, .class_ 126), (0, u "jdk/internal/util/Preconditions$2"), (3, u "AIOOBE_FORMATTER"), (0, .class_ 132), (0, u "jdk/internal/util/Preconditions$3"), (3, u "IOOBE_FORMATTER"), (41, u "(IILjava/util/function/BiFunction;)I"), (4, u "(IIILjava/util/function/BiFunction;)I")] 10

def k12m0 : Method := { name := "<init>", desc := "()V", sig := { parameters := [], returnType := none }, accessFlags := 1, code := none }
def k12c1 : Code := { maxStack := 3, maxLocals := 3, code := jdk_41_method_11_code, exceptionTable := #[], attributes := #[] }
def k12m1 : Method := { name := "checkIndex", desc := "(IILjava/util/function/BiFunction;)I", sig := { parameters := [.int, .int, (.object "java/util/function/BiFunction")], returnType := some .int }, accessFlags := 9, code := some k12c1 }
def k12c2 : Code := { maxStack := 4, maxLocals := 4, code := jdk_41_method_13_code, exceptionTable := #[], attributes := #[] }
def k12m2 : Method := { name := "checkFromIndexSize", desc := "(IIILjava/util/function/BiFunction;)I", sig := { parameters := [.int, .int, .int, (.object "java/util/function/BiFunction")], returnType := some .int }, accessFlags := 9, code := some k12c2 }
/-- jdk/internal/util/Preconditions -/
def k12 : Class := { plain "jdk/internal/util/Preconditions" (some 0) with
  accessFlags := 33
  interfaces := #[]
  cf := some (fileOf pool12 24 #[.nestMembers #[55, 131, 125, 114]] #[{ accessFlags := 1, nameIndex := 5, descriptorIndex := 6, attributes := #[] }, { accessFlags := 9, nameIndex := 33, descriptorIndex := 178, attributes := #[] }, { accessFlags := 9, nameIndex := 49, descriptorIndex := 183, attributes := #[] }] 33 2 #[] #[{ accessFlags := 25, nameIndex := 123, descriptorIndex := 124, attributes := #[] }, { accessFlags := 25, nameIndex := 130, descriptorIndex := 124, attributes := #[] }, { accessFlags := 25, nameIndex := 136, descriptorIndex := 124, attributes := #[] }])
  fields := #[{ name := "SIOOBE_FORMATTER", type := (.object "java/util/function/BiFunction"), accessFlags := 25, slot := 0, constantValue := 0 }, { name := "AIOOBE_FORMATTER", type := (.object "java/util/function/BiFunction"), accessFlags := 25, slot := 1, constantValue := 0 }, { name := "IOOBE_FORMATTER", type := (.object "java/util/function/BiFunction"), accessFlags := 25, slot := 2, constantValue := 0 }]
  methods := #[k12m0, k12m1, k12m2]
  instanceTypes := #[]
  staticTypes := #[(.object "java/util/function/BiFunction"), (.object "java/util/function/BiFunction"), (.object "java/util/function/BiFunction")]
  resolved := Array.replicate 194 none
  statics := some 2 }

def pool13 : Array CpInfo := pool [(9, u "<init>"), (6, .class_ 18), (1, u "java/lang/Object"), (0, u "()V"), (1, .class_ 23), (1, u "jdk/internal/util/ArraysSupport"), (0, u "LOG2_ARRAY_LONG_INDEX_SCALE"), (0, u "I"), (2, u "U"), (0, u "Ljdk/internal/misc/Unsafe;"), (8, u "BIG_ENDIAN"), (0, u "Z"), (8, u "LOG2_BYTE_BIT_SIZE"), (4, u "LOG2_ARRAY_INT_INDEX_SCALE"), (54, u "JLA"), (0, u "Ljdk/internal/access/JavaLangAccess;"), (11, u "LOG2_ARRAY_BOOLEAN_INDEX_SCALE"), (9, u "LOG2_ARRAY_BYTE_INDEX_SCALE"), (5, u "LOG2_ARRAY_CHAR_INDEX_SCALE"), (5, u "LOG2_ARRAY_SHORT_INDEX_SCALE"), (18, u "LOG2_ARRAY_FLOAT_INDEX_SCALE"), (24, u "LOG2_ARRAY_DOUBLE_INDEX_SCALE"), (89, u "T_BOOLEAN"), (2, u "T_CHAR"), (1, u "T_FLOAT"), (1, u "T_DOUBLE"), (1, u "T_BYTE"), (1, u "T_SHORT"), (1, u "T_INT"), (1, u "T_LONG"), (1, u "SOFT_MAX_ARRAY_LENGTH")] 83

def k13m0 : Method := { name := "<init>", desc := "()V", sig := { parameters := [], returnType := none }, accessFlags := 2, code := none }
/-- jdk/internal/util/ArraysSupport -/
def k13 : Class := { plain "jdk/internal/util/ArraysSupport" (some 0) with
  accessFlags := 33
  interfaces := #[]
  cf := some (fileOf pool13 21 #[] #[{ accessFlags := 2, nameIndex := 9, descriptorIndex := 19, attributes := #[] }] 33 16 #[] #[{ accessFlags := 24, nameIndex := 28, descriptorIndex := 29, attributes := #[] }, { accessFlags := 26, nameIndex := 38, descriptorIndex := 39, attributes := #[] }, { accessFlags := 25, nameIndex := 121, descriptorIndex := 25, attributes := #[] }, { accessFlags := 25, nameIndex := 131, descriptorIndex := 25, attributes := #[] }, { accessFlags := 25, nameIndex := 137, descriptorIndex := 25, attributes := #[] }, { accessFlags := 25, nameIndex := 143, descriptorIndex := 25, attributes := #[] }, { accessFlags := 25, nameIndex := 53, descriptorIndex := 25, attributes := #[] }, { accessFlags := 25, nameIndex := 24, descriptorIndex := 25, attributes := #[] }, { accessFlags := 25, nameIndex := 162, descriptorIndex := 25, attributes := #[] }, { accessFlags := 25, nameIndex := 187, descriptorIndex := 25, attributes := #[] }, { accessFlags := 26, nameIndex := 48, descriptorIndex := 25, attributes := #[] }, { accessFlags := 25, nameIndex := 277, descriptorIndex := 25, attributes := #[] }, { accessFlags := 25, nameIndex := 280, descriptorIndex := 25, attributes := #[] }, { accessFlags := 25, nameIndex := 282, descriptorIndex := 25, attributes := #[] }, { accessFlags := 25, nameIndex := 284, descriptorIndex := 25, attributes := #[] }, { accessFlags := 25, nameIndex := 286, descriptorIndex := 25, attributes := #[] }, { accessFlags := 25, nameIndex := 288, descriptorIndex := 25, attributes := #[] }, { accessFlags := 25, nameIndex := 290, descriptorIndex := 25, attributes := #[] }, { accessFlags := 25, nameIndex := 292, descriptorIndex := 25, attributes := #[] }, { accessFlags := 26, nameIndex := 108, descriptorIndex := 109, attributes := #[] }, { accessFlags := 25, nameIndex := 294, descriptorIndex := 25, attributes := #[] }])
  fields := #[{ name := "U", type := (.object "jdk/internal/misc/Unsafe"), accessFlags := 24, slot := 0, constantValue := 0 }, { name := "BIG_ENDIAN", type := .boolean, accessFlags := 26, slot := 1, constantValue := 0 }, { name := "LOG2_ARRAY_BOOLEAN_INDEX_SCALE", type := .int, accessFlags := 25, slot := 2, constantValue := 0 }, { name := "LOG2_ARRAY_BYTE_INDEX_SCALE", type := .int, accessFlags := 25, slot := 3, constantValue := 0 }, { name := "LOG2_ARRAY_CHAR_INDEX_SCALE", type := .int, accessFlags := 25, slot := 4, constantValue := 0 }, { name := "LOG2_ARRAY_SHORT_INDEX_SCALE", type := .int, accessFlags := 25, slot := 5, constantValue := 0 }, { name := "LOG2_ARRAY_INT_INDEX_SCALE", type := .int, accessFlags := 25, slot := 6, constantValue := 0 }, { name := "LOG2_ARRAY_LONG_INDEX_SCALE", type := .int, accessFlags := 25, slot := 7, constantValue := 0 }, { name := "LOG2_ARRAY_FLOAT_INDEX_SCALE", type := .int, accessFlags := 25, slot := 8, constantValue := 0 }, { name := "LOG2_ARRAY_DOUBLE_INDEX_SCALE", type := .int, accessFlags := 25, slot := 9, constantValue := 0 }, { name := "LOG2_BYTE_BIT_SIZE", type := .int, accessFlags := 26, slot := 10, constantValue := 0 }, { name := "T_BOOLEAN", type := .int, accessFlags := 25, slot := 11, constantValue := 0 }, { name := "T_CHAR", type := .int, accessFlags := 25, slot := 12, constantValue := 0 }, { name := "T_FLOAT", type := .int, accessFlags := 25, slot := 13, constantValue := 0 }, { name := "T_DOUBLE", type := .int, accessFlags := 25, slot := 14, constantValue := 0 }, { name := "T_BYTE", type := .int, accessFlags := 25, slot := 15, constantValue := 0 }, { name := "T_SHORT", type := .int, accessFlags := 25, slot := 16, constantValue := 0 }, { name := "T_INT", type := .int, accessFlags := 25, slot := 17, constantValue := 0 }, { name := "T_LONG", type := .int, accessFlags := 25, slot := 18, constantValue := 0 }, { name := "JLA", type := (.object "jdk/internal/access/JavaLangAccess"), accessFlags := 26, slot := 19, constantValue := 0 }, { name := "SOFT_MAX_ARRAY_LENGTH", type := .int, accessFlags := 25, slot := 20, constantValue := 0 }]
  methods := #[k13m0]
  instanceTypes := #[]
  staticTypes := #[(.object "jdk/internal/misc/Unsafe"), .boolean, .int, .int, .int, .int, .int, .int, .int, .int, .int, .int, .int, .int, .int, .int, .int, .int, .int, (.object "jdk/internal/access/JavaLangAccess"), .int]
  resolved := Array.replicate 378 none
  statics := none }

def pool14 : Array CpInfo := pool [(1, u "java/lang/Cloneable"), (0, .class_ 1), (0, u "java/lang/Object"), (0, .class_ 3)] 3

/-- java/lang/Cloneable -/
def k14 : Class := { plain "java/lang/Cloneable" (some 0) with
  accessFlags := 1537
  interfaces := #[]
  cf := some (fileOf pool14 2 #[] #[] 1537 4 #[] #[])
  fields := #[]
  methods := #[]
  instanceTypes := #[]
  staticTypes := #[]
  resolved := Array.replicate 8 none
  statics := none }

/-- the primitive byte -/
def k15 : Class := { plain "byte" none with kind := .primitive 'B', accessFlags := 0x411 }
/-- [B -/
def k16 : Class := { plain "[B" (some 0) with kind := .array 15 .byte, interfaces := #[14, 2], accessFlags := 1041 }

/-- the primitive char -/
def k17 : Class := { plain "char" none with kind := .primitive 'C', accessFlags := 0x411 }
/-- [C -/
def k18 : Class := { plain "[C" (some 0) with kind := .array 17 .char, interfaces := #[14, 2], accessFlags := 1041 }

/-- the primitive int -/
def k19 : Class := { plain "int" none with kind := .primitive 'I', accessFlags := 0x411 }
/-- [I -/
def k20 : Class := { plain "[I" (some 0) with kind := .array 19 .int, interfaces := #[14, 2], accessFlags := 1041 }

def heap : Heap := #[{ cls := 7, slots := #[.long 0, .int 1, .null, .int 0, .null, .int 0, .int 0], vm := .statics 7 },
  { cls := 9, slots := #[.int 0, .int 8, .int 0, .int 1], vm := .statics 9 },
  { cls := 12, slots := #[.null, .null, .null], vm := .statics 12 }]
def classes : Array Class := #[k0, k1, k2, k3, k4, k5, k6, k7, k8, k9, k10, k11, k12, k13, k14, k15, k16, k17, k18, k19, k20]
def interned : List (Array UInt16 × Addr) := []
def slotsUsed : Nat := 14
def theMethod : MethodId := ⟨1, 1⟩
def args0 : Array Value := #[.int 5, .int 5, .int 5, .int 5]
def aboutOver (below : List Frame) : State where
  vm := { classes := classes, interned := interned.toArray }
  heap := heap
  slotsUsed := slotsUsed
  threads := #[{ frames := .invoking theMethod args0 :: below }]
def below0 : List Frame := [.native { method := ⟨0, 0⟩, args := #[] }]
def about1 : State := aboutOver below0
def p0 : Program := .bare "" "" ""
def e0 : Env := launch0.env 0 0 0
theorem w_frames : about1.frames = Frame.invoking theMethod args0 :: below0 := rfl
set_option maxRecDepth 65536 in
theorem w_args : argsFit about1.vm theMethod args0 = true := by decide +kernel
set_option maxRecDepth 65536 in
theorem w_heap : heapFits about1 = true := by decide +kernel
set_option maxRecDepth 65536 in
theorem w_runnable : about1.curStatus? = some .runnable := by decide +kernel
set_option maxRecDepth 65536 in
theorem w_alone : about1.alone = true := by decide +kernel
set_option maxRecDepth 65536 in
theorem w_named : about1.methodNamed? x = some theMethod := by decide +kernel
set_option maxRecDepth 65536 in
theorem w_hears : about1.hears theMethod below0 = true := by decide +kernel
set_option maxRecDepth 65536 in
theorem w_ripe : about1.ripe theMethod args0 below0 = true := by decide +kernel
theorem w_running : about1.status = .running := rfl
set_option maxRecDepth 65536 in
theorem w_room : about1.hasRoom e0.platform room_1 = true :=
  launch0.hasRoom_least _ room_1 (by decide +kernel) (by decide +kernel) (by decide +kernel) (by decide +kernel) (by decide +kernel) (by decide +kernel)
theorem allAtoms_all (ts : List Jvm.Cond) (a : Array Jvm.Value) (st : Jvm.State) : (allAtoms ts).before a st = ts.all (fun c => c.before a st) := by
  induction ts with
  | nil => rfl
  | cons c t ih =>
    show (Jvm.Cond.and c (allAtoms t)).before a st = _
    rw [Jvm.Cond.before_and, ih, List.all_cons]
def words1 : List Jvm.Cond := Jvm.Cond.code x code maxLocals ret :: tables_1
/-- a 'code' word, met by the world's own term for the bytes: nothing is compared byte by byte -/
theorem code_word {y : MethodName} {bytes : ByteArray} {mx : Nat} {rt : Option FieldType} {a : Array Value} {s : State} {m : MethodId} {meth : Method} {c : Code} (h1 : s.methodNamed? y = some m) (h2 : s.vm.method? m = some meth) (h3 : meth.code = some c) (h4 : c.code = bytes)
    (h5 : (c.maxLocals == mx && c.exceptionTable.isEmpty && decide (c.maxStack ≤ mostOperands) && decide (meth.sig.returnType = rt) && !meth.locks && decide (parseMethodDescriptor y.desc = some meth.sig)) = true) : (Jvm.Cond.code y bytes mx rt).before a s = true := by
  simp only [Bool.and_eq_true, beq_iff_eq, Bool.not_eq_true', decide_eq_true_eq] at h5
  obtain ⟨⟨⟨⟨⟨g1, g2⟩, g3⟩, g4⟩, g5⟩, g6⟩ := h5
  simp [Cond.before, Cond.holds, Cond.value, h1, h2, h3, h4, g1, g2, g3, g4, g5, g6]
def isCode : Jvm.Cond → Bool
  | .code _ _ _ _ => true
  | _ => false
theorem all_split {L : List Jvm.Cond} {P : Jvm.Cond → Bool} (h1 : L.all (fun c => isCode c || P c) = true) (h2 : ∀ c ∈ L.filter isCode, P c = true) : L.all P = true := by
  refine List.all_eq_true.mpr fun c hc => ?_
  have h := List.all_eq_true.mp h1 c hc
  rcases Bool.eq_false_or_eq_true (isCode c) with hi | hi
  · exact h2 c (List.mem_filter.mpr ⟨hc, hi⟩)
  · simpa [hi] using h
set_option maxRecDepth 65536 in
theorem w_c0 : (Jvm.Cond.code x code maxLocals ret).before args0 about1 = true := code_word (m := ⟨1, 1⟩) (meth := k1m1) (c := k1c1) (by decide +kernel) rfl rfl rfl (by decide +kernel)
set_option maxRecDepth 65536 in
theorem w_c1 : (Jvm.Cond.code ({ cls := "java/lang/String", name := "valueOf", desc := "(C)Ljava/lang/String;" } : Jvm.MethodName) jdk_42_method_139_code (1 : Nat) (Option.some (Jvm.ClassFile.FieldType.object "java/lang/String"))).before args0 about1 = true := code_word (m := ⟨7, 7⟩) (meth := k7m7) (c := k7c7) (by decide +kernel) rfl rfl rfl (by decide +kernel)
set_option maxRecDepth 65536 in
theorem w_c2 : (Jvm.Cond.code ({ cls := "java/lang/StringLatin1", name := "canEncode", desc := "(C)Z" } : Jvm.MethodName) jdk_43_method_3_code (1 : Nat) (Option.some Jvm.ClassFile.FieldType.boolean)).before args0 about1 = true := code_word (m := ⟨8, 2⟩) (meth := k8m2) (c := k8c2) (by decide +kernel) rfl rfl rfl (by decide +kernel)
set_option maxRecDepth 65536 in
theorem w_c3 : (Jvm.Cond.code ({ cls := "java/lang/StringLatin1", name := "toBytes", desc := "(C)[B" } : Jvm.MethodName) jdk_43_method_46_code (1 : Nat) (Option.some (Jvm.ClassFile.FieldType.array Jvm.ClassFile.FieldType.byte))).before args0 about1 = true := code_word (m := ⟨8, 3⟩) (meth := k8m3) (c := k8c3) (by decide +kernel) rfl rfl rfl (by decide +kernel)
set_option maxRecDepth 65536 in
theorem w_c4 : (Jvm.Cond.code ({ cls := "java/lang/String", name := "<init>", desc := "([BB)V" } : Jvm.MethodName) jdk_42_method_151_code (3 : Nat) (Option.none : Option Jvm.ClassFile.FieldType)).before args0 about1 = true := code_word (m := ⟨7, 9⟩) (meth := k7m9) (c := k7c9) (by decide +kernel) rfl rfl rfl (by decide +kernel)
set_option maxRecDepth 65536 in
theorem w_c5 : (Jvm.Cond.code ({ cls := "java/lang/Object", name := "<init>", desc := "()V" } : Jvm.MethodName) object_method_1_code (1 : Nat) (Option.none : Option Jvm.ClassFile.FieldType)).before args0 about1 = true := code_word (m := ⟨0, 0⟩) (meth := k0m0) (c := k0c0) (by decide +kernel) rfl rfl rfl (by decide +kernel)
set_option maxRecDepth 65536 in
theorem w_c6 : (Jvm.Cond.code ({ cls := "java/lang/String", name := "<init>", desc := "([C)V" } : Jvm.MethodName) jdk_42_method_3_code (2 : Nat) (Option.none : Option Jvm.ClassFile.FieldType)).before args0 about1 = true := code_word (m := ⟨7, 1⟩) (meth := k7m1) (c := k7c1) (by decide +kernel) rfl rfl rfl (by decide +kernel)
set_option maxRecDepth 65536 in
theorem w_c7 : (Jvm.Cond.code ({ cls := "java/lang/String", name := "<init>", desc := "([CIILjava/lang/Void;)V" } : Jvm.MethodName) jdk_42_method_149_code (6 : Nat) (Option.none : Option Jvm.ClassFile.FieldType)).before args0 about1 = true := code_word (m := ⟨7, 8⟩) (meth := k7m8) (c := k7c8) (by decide +kernel) rfl rfl rfl (by decide +kernel)
set_option maxRecDepth 65536 in
theorem w_c8 : (Jvm.Cond.code ({ cls := "java/lang/StringUTF16", name := "compress", desc := "([CII)[B" } : Jvm.MethodName) jdk_52_method_16_code (6 : Nat) (Option.some (Jvm.ClassFile.FieldType.array Jvm.ClassFile.FieldType.byte))).before args0 about1 = true := code_word (m := ⟨9, 8⟩) (meth := k9m8) (c := k9c8) (by decide +kernel) rfl rfl rfl (by decide +kernel)
set_option maxRecDepth 65536 in
theorem w_c9 : (Jvm.Cond.code ({ cls := "java/lang/StringUTF16", name := "compress", desc := "([CI[BII)I" } : Jvm.MethodName) jdk_52_method_21_code (7 : Nat) (Option.some Jvm.ClassFile.FieldType.int)).before args0 about1 = true := code_word (m := ⟨9, 9⟩) (meth := k9m9) (c := k9c9) (by decide +kernel) rfl rfl rfl (by decide +kernel)
set_option maxRecDepth 65536 in
theorem w_c10 : (Jvm.Cond.code ({ cls := "java/lang/StringUTF16", name := "coderFromArrayLen", desc := "([BI)B" } : Jvm.MethodName) jdk_52_method_15_code (2 : Nat) (Option.some Jvm.ClassFile.FieldType.byte)).before args0 about1 = true := code_word (m := ⟨9, 7⟩) (meth := k9m7) (c := k9c7) (by decide +kernel) rfl rfl rfl (by decide +kernel)
set_option maxRecDepth 65536 in
theorem w_c11 : (Jvm.Cond.code ({ cls := "com/example/strict_markup/strictmarkup/Text", name := "<init>", desc := "()V" } : Jvm.MethodName) prog_81_method_1_code (1 : Nat) (Option.none : Option Jvm.ClassFile.FieldType)).before args0 about1 = true := code_word (m := ⟨10, 0⟩) (meth := k10m0) (c := k10c0) (by decide +kernel) rfl rfl rfl (by decide +kernel)
set_option maxRecDepth 65536 in
theorem w_c12 : (Jvm.Cond.code ({ cls := "com/example/strict_markup/strictmarkup/Text", name := "append", desc := "(C)V" } : Jvm.MethodName) prog_81_method_8_code (2 : Nat) (Option.none : Option Jvm.ClassFile.FieldType)).before args0 about1 = true := code_word (m := ⟨10, 2⟩) (meth := k10m2) (c := k10c2) (by decide +kernel) rfl rfl rfl (by decide +kernel)
set_option maxRecDepth 65536 in
theorem w_c13 : (Jvm.Cond.code ({ cls := "com/example/strict_markup/strictmarkup/Attribute", name := "<init>", desc := "()V" } : Jvm.MethodName) prog_1_method_1_code (1 : Nat) (Option.none : Option Jvm.ClassFile.FieldType)).before args0 about1 = true := code_word (m := ⟨11, 0⟩) (meth := k11m0) (c := k11c0) (by decide +kernel) rfl rfl rfl (by decide +kernel)
set_option maxRecDepth 65536 in
theorem w_c14 : (Jvm.Cond.code ({ cls := "com/example/strict_markup/strictmarkup/Attribute", name := "specify", desc := "(Ljava/lang/String;Ljava/lang/String;Ljava/lang/String;)V" } : Jvm.MethodName) prog_1_method_4_code (4 : Nat) (Option.none : Option Jvm.ClassFile.FieldType)).before args0 about1 = true := code_word (m := ⟨11, 2⟩) (meth := k11m2) (c := k11c2) (by decide +kernel) rfl rfl rfl (by decide +kernel)
set_option maxRecDepth 65536 in
theorem w_c15 : (Jvm.Cond.code ({ cls := "com/example/strict_markup/strictmarkup/Attribute", name := "specify", desc := "(Ljava/lang/String;Ljava/lang/String;ZLcom/example/strict_markup/strictmarkup/Text;II)V" } : Jvm.MethodName) prog_1_method_3_code (7 : Nat) (Option.none : Option Jvm.ClassFile.FieldType)).before args0 about1 = true := code_word (m := ⟨11, 1⟩) (meth := k11m1) (c := k11c1) (by decide +kernel) rfl rfl rfl (by decide +kernel)
set_option maxRecDepth 65536 in
theorem w_c16 : (Jvm.Cond.code ({ cls := "com/example/strict_markup/strictmarkup/Attribute", name := "value", desc := "()Ljava/lang/String;" } : Jvm.MethodName) prog_1_method_6_code (1 : Nat) (Option.some (Jvm.ClassFile.FieldType.object "java/lang/String"))).before args0 about1 = true := code_word (m := ⟨11, 4⟩) (meth := k11m4) (c := k11c4) (by decide +kernel) rfl rfl rfl (by decide +kernel)
set_option maxRecDepth 65536 in
theorem w_c17 : (Jvm.Cond.code ({ cls := "com/example/strict_markup/strictmarkup/Text", name := "array", desc := "()[C" } : Jvm.MethodName) prog_81_method_2_code (1 : Nat) (Option.some (Jvm.ClassFile.FieldType.array Jvm.ClassFile.FieldType.char))).before args0 about1 = true := code_word (m := ⟨10, 1⟩) (meth := k10m1) (c := k10c1) (by decide +kernel) rfl rfl rfl (by decide +kernel)
set_option maxRecDepth 65536 in
theorem w_c18 : (Jvm.Cond.code ({ cls := "java/lang/String", name := "<init>", desc := "([CII)V" } : Jvm.MethodName) jdk_42_method_4_code (4 : Nat) (Option.none : Option Jvm.ClassFile.FieldType)).before args0 about1 = true := code_word (m := ⟨7, 2⟩) (meth := k7m2) (c := k7c2) (by decide +kernel) rfl rfl rfl (by decide +kernel)
set_option maxRecDepth 65536 in
theorem w_c19 : (Jvm.Cond.code ({ cls := "java/lang/String", name := "rangeCheck", desc := "([CII)Ljava/lang/Void;" } : Jvm.MethodName) jdk_42_method_5_code (3 : Nat) (Option.some (Jvm.ClassFile.FieldType.object "java/lang/Void"))).before args0 about1 = true := code_word (m := ⟨7, 3⟩) (meth := k7m3) (c := k7c3) (by decide +kernel) rfl rfl rfl (by decide +kernel)
set_option maxRecDepth 65536 in
theorem w_c20 : (Jvm.Cond.code ({ cls := "java/lang/String", name := "checkBoundsOffCount", desc := "(III)I" } : Jvm.MethodName) jdk_42_method_157_code (3 : Nat) (Option.some Jvm.ClassFile.FieldType.int)).before args0 about1 = true := code_word (m := ⟨7, 13⟩) (meth := k7m13) (c := k7c13) (by decide +kernel) rfl rfl rfl (by decide +kernel)
set_option maxRecDepth 65536 in
theorem w_c21 : (Jvm.Cond.code ({ cls := "jdk/internal/util/Preconditions", name := "checkFromIndexSize", desc := "(IIILjava/util/function/BiFunction;)I" } : Jvm.MethodName) jdk_41_method_13_code (4 : Nat) (Option.some Jvm.ClassFile.FieldType.int)).before args0 about1 = true := code_word (m := ⟨12, 2⟩) (meth := k12m2) (c := k12c2) (by decide +kernel) rfl rfl rfl (by decide +kernel)
set_option maxRecDepth 65536 in
theorem w_c22 : (Jvm.Cond.code ({ cls := "com/example/strict_markup/strictmarkup/Attribute", name := "name", desc := "()Ljava/lang/String;" } : Jvm.MethodName) prog_1_method_5_code (1 : Nat) (Option.some (Jvm.ClassFile.FieldType.object "java/lang/String"))).before args0 about1 = true := code_word (m := ⟨11, 3⟩) (meth := k11m3) (c := k11c3) (by decide +kernel) rfl rfl rfl (by decide +kernel)
set_option maxRecDepth 65536 in
theorem w_c23 : (Jvm.Cond.code ({ cls := "java/lang/String", name := "equals", desc := "(Ljava/lang/Object;)Z" } : Jvm.MethodName) jdk_42_method_66_code (3 : Nat) (Option.some Jvm.ClassFile.FieldType.boolean)).before args0 about1 = true := code_word (m := ⟨7, 6⟩) (meth := k7m6) (c := k7c6) (by decide +kernel) rfl rfl rfl (by decide +kernel)
set_option maxRecDepth 65536 in
theorem w_c24 : (Jvm.Cond.code ({ cls := "com/example/strict_markup/strictmarkup/Attribute", name := "type", desc := "()Ljava/lang/String;" } : Jvm.MethodName) prog_1_method_7_code (1 : Nat) (Option.some (Jvm.ClassFile.FieldType.object "java/lang/String"))).before args0 about1 = true := code_word (m := ⟨11, 5⟩) (meth := k11m5) (c := k11c5) (by decide +kernel) rfl rfl rfl (by decide +kernel)
set_option maxRecDepth 65536 in
theorem w_c25 : (Jvm.Cond.code ({ cls := "com/example/strict_markup/strictmarkup/Attribute", name := "declared", desc := "()Z" } : Jvm.MethodName) prog_1_method_12_code (1 : Nat) (Option.some Jvm.ClassFile.FieldType.boolean)).before args0 about1 = true := code_word (m := ⟨11, 6⟩) (meth := k11m6) (c := k11c6) (by decide +kernel) rfl rfl rfl (by decide +kernel)
set_option maxRecDepth 65536 in
theorem w_c26 : (Jvm.Cond.code ({ cls := "com/example/strict_markup/strictmarkup/Attribute", name := "specified", desc := "()Z" } : Jvm.MethodName) prog_1_method_13_code (1 : Nat) (Option.some Jvm.ClassFile.FieldType.boolean)).before args0 about1 = true := code_word (m := ⟨11, 7⟩) (meth := k11m7) (c := k11c7) (by decide +kernel) rfl rfl rfl (by decide +kernel)
set_option maxRecDepth 65536 in
theorem w_c27 : (Jvm.Cond.code ({ cls := "java/lang/String", name := "length", desc := "()I" } : Jvm.MethodName) jdk_42_method_54_code (1 : Nat) (Option.some Jvm.ClassFile.FieldType.int)).before args0 about1 = true := code_word (m := ⟨7, 4⟩) (meth := k7m4) (c := k7c4) (by decide +kernel) rfl rfl rfl (by decide +kernel)
set_option maxRecDepth 65536 in
theorem w_c28 : (Jvm.Cond.code ({ cls := "java/lang/String", name := "coder", desc := "()B" } : Jvm.MethodName) jdk_42_method_152_code (1 : Nat) (Option.some Jvm.ClassFile.FieldType.byte)).before args0 about1 = true := code_word (m := ⟨7, 10⟩) (meth := k7m10) (c := k7c10) (by decide +kernel) rfl rfl rfl (by decide +kernel)
set_option maxRecDepth 65536 in
theorem w_c29 : (Jvm.Cond.code ({ cls := "com/example/strict_markup/strictmarkup/AttributeSpecifyPinLaw", name := "at", desc := "(Ljava/lang/String;[CII)Z" } : Jvm.MethodName) method_3_code (4 : Nat) (Option.some Jvm.ClassFile.FieldType.boolean)).before args0 about1 = true := code_word (m := ⟨1, 2⟩) (meth := k1m2) (c := k1c2) (by decide +kernel) rfl rfl rfl (by decide +kernel)
set_option maxRecDepth 65536 in
theorem w_c30 : (Jvm.Cond.code ({ cls := "java/lang/String", name := "charAt", desc := "(I)C" } : Jvm.MethodName) jdk_42_method_56_code (2 : Nat) (Option.some Jvm.ClassFile.FieldType.char)).before args0 about1 = true := code_word (m := ⟨7, 5⟩) (meth := k7m5) (c := k7c5) (by decide +kernel) rfl rfl rfl (by decide +kernel)
set_option maxRecDepth 65536 in
theorem w_c31 : (Jvm.Cond.code ({ cls := "java/lang/String", name := "isLatin1", desc := "()Z" } : Jvm.MethodName) jdk_42_method_154_code (1 : Nat) (Option.some Jvm.ClassFile.FieldType.boolean)).before args0 about1 = true := code_word (m := ⟨7, 11⟩) (meth := k7m11) (c := k7c11) (by decide +kernel) rfl rfl rfl (by decide +kernel)
set_option maxRecDepth 65536 in
theorem w_c32 : (Jvm.Cond.code ({ cls := "java/lang/StringLatin1", name := "charAt", desc := "([BI)C" } : Jvm.MethodName) jdk_43_method_2_code (2 : Nat) (Option.some Jvm.ClassFile.FieldType.char)).before args0 about1 = true := code_word (m := ⟨8, 1⟩) (meth := k8m1) (c := k8c1) (by decide +kernel) rfl rfl rfl (by decide +kernel)
set_option maxRecDepth 65536 in
theorem w_c33 : (Jvm.Cond.code ({ cls := "java/lang/String", name := "checkIndex", desc := "(II)V" } : Jvm.MethodName) jdk_42_method_155_code (2 : Nat) (Option.none : Option Jvm.ClassFile.FieldType)).before args0 about1 = true := code_word (m := ⟨7, 12⟩) (meth := k7m12) (c := k7c12) (by decide +kernel) rfl rfl rfl (by decide +kernel)
set_option maxRecDepth 65536 in
theorem w_c34 : (Jvm.Cond.code ({ cls := "jdk/internal/util/Preconditions", name := "checkIndex", desc := "(IILjava/util/function/BiFunction;)I" } : Jvm.MethodName) jdk_41_method_11_code (3 : Nat) (Option.some Jvm.ClassFile.FieldType.int)).before args0 about1 = true := code_word (m := ⟨12, 1⟩) (meth := k12m1) (c := k12c1) (by decide +kernel) rfl rfl rfl (by decide +kernel)
set_option maxRecDepth 65536 in
theorem w_c35 : (Jvm.Cond.code ({ cls := "java/lang/StringUTF16", name := "toBytes", desc := "([CII)[B" } : Jvm.MethodName) jdk_52_method_14_code (5 : Nat) (Option.some (Jvm.ClassFile.FieldType.array Jvm.ClassFile.FieldType.byte))).before args0 about1 = true := code_word (m := ⟨9, 6⟩) (meth := k9m6) (c := k9c6) (by decide +kernel) rfl rfl rfl (by decide +kernel)
set_option maxRecDepth 65536 in
theorem w_c36 : (Jvm.Cond.code ({ cls := "java/lang/StringUTF16", name := "newBytesFor", desc := "(I)[B" } : Jvm.MethodName) jdk_52_method_2_code (1 : Nat) (Option.some (Jvm.ClassFile.FieldType.array Jvm.ClassFile.FieldType.byte))).before args0 about1 = true := code_word (m := ⟨9, 1⟩) (meth := k9m1) (c := k9c1) (by decide +kernel) rfl rfl rfl (by decide +kernel)
set_option maxRecDepth 65536 in
theorem w_c37 : (Jvm.Cond.code ({ cls := "java/lang/StringUTF16", name := "newBytesLength", desc := "(I)I" } : Jvm.MethodName) jdk_52_method_3_code (1 : Nat) (Option.some Jvm.ClassFile.FieldType.int)).before args0 about1 = true := code_word (m := ⟨9, 2⟩) (meth := k9m2) (c := k9c2) (by decide +kernel) rfl rfl rfl (by decide +kernel)
set_option maxRecDepth 65536 in
theorem w_c38 : (Jvm.Cond.code ({ cls := "java/lang/StringUTF16", name := "putChar", desc := "([BII)V" } : Jvm.MethodName) jdk_52_method_4_code (3 : Nat) (Option.none : Option Jvm.ClassFile.FieldType)).before args0 about1 = true := code_word (m := ⟨9, 3⟩) (meth := k9m3) (c := k9c3) (by decide +kernel) rfl rfl rfl (by decide +kernel)
set_option maxRecDepth 65536 in
theorem w_c39 : (Jvm.Cond.code ({ cls := "java/lang/StringUTF16", name := "getChar", desc := "([BI)C" } : Jvm.MethodName) jdk_52_method_5_code (2 : Nat) (Option.some Jvm.ClassFile.FieldType.char)).before args0 about1 = true := code_word (m := ⟨9, 4⟩) (meth := k9m4) (c := k9c4) (by decide +kernel) rfl rfl rfl (by decide +kernel)
set_option maxRecDepth 65536 in
theorem w_c40 : (Jvm.Cond.code ({ cls := "java/lang/StringUTF16", name := "charAt", desc := "([BI)C" } : Jvm.MethodName) jdk_52_method_83_code (2 : Nat) (Option.some Jvm.ClassFile.FieldType.char)).before args0 about1 = true := code_word (m := ⟨9, 10⟩) (meth := k9m10) (c := k9c10) (by decide +kernel) rfl rfl rfl (by decide +kernel)
set_option maxRecDepth 65536 in
theorem w_c41 : (Jvm.Cond.code ({ cls := "java/lang/StringUTF16", name := "checkIndex", desc := "(I[B)V" } : Jvm.MethodName) jdk_52_method_91_code (2 : Nat) (Option.none : Option Jvm.ClassFile.FieldType)).before args0 about1 = true := code_word (m := ⟨9, 11⟩) (meth := k9m11) (c := k9c11) (by decide +kernel) rfl rfl rfl (by decide +kernel)
set_option maxRecDepth 65536 in
theorem w_c42 : (Jvm.Cond.code ({ cls := "java/lang/StringUTF16", name := "length", desc := "([B)I" } : Jvm.MethodName) jdk_52_method_6_code (1 : Nat) (Option.some Jvm.ClassFile.FieldType.int)).before args0 about1 = true := code_word (m := ⟨9, 5⟩) (meth := k9m5) (c := k9c5) (by decide +kernel) rfl rfl rfl (by decide +kernel)
def codes1 : List Jvm.Cond := [Jvm.Cond.code x code maxLocals ret, Jvm.Cond.code ({ cls := "java/lang/String", name := "valueOf", desc := "(C)Ljava/lang/String;" } : Jvm.MethodName) jdk_42_method_139_code (1 : Nat) (Option.some (Jvm.ClassFile.FieldType.object "java/lang/String")), Jvm.Cond.code ({ cls := "java/lang/StringLatin1", name := "canEncode", desc := "(C)Z" } : Jvm.MethodName) jdk_43_method_3_code (1 : Nat) (Option.some Jvm.ClassFile.FieldType.boolean), Jvm.Cond.code ({ cls := "java/lang/StringLatin1", name := "toBytes", desc := "(C)[B" } : Jvm.MethodName) jdk_43_method_46_code (1 : Nat) (Option.some (Jvm.ClassFile.FieldType.array Jvm.ClassFile.FieldType.byte)), Jvm.Cond.code ({ cls := "java/lang/String", name := "<init>", desc := "([BB)V" } : Jvm.MethodName) jdk_42_method_151_code (3 : Nat) (Option.none : Option Jvm.ClassFile.FieldType), Jvm.Cond.code ({ cls := "java/lang/Object", name := "<init>", desc := "()V" } : Jvm.MethodName) object_method_1_code (1 : Nat) (Option.none : Option Jvm.ClassFile.FieldType), Jvm.Cond.code ({ cls := "java/lang/String", name := "<init>", desc := "([C)V" } : Jvm.MethodName) jdk_42_method_3_code (2 : Nat) (Option.none : Option Jvm.ClassFile.FieldType), Jvm.Cond.code ({ cls := "java/lang/String", name := "<init>", desc := "([CIILjava/lang/Void;)V" } : Jvm.MethodName) jdk_42_method_149_code (6 : Nat) (Option.none : Option Jvm.ClassFile.FieldType), Jvm.Cond.code ({ cls := "java/lang/StringUTF16", name := "compress", desc := "([CII)[B" } : Jvm.MethodName) jdk_52_method_16_code (6 : Nat) (Option.some (Jvm.ClassFile.FieldType.array Jvm.ClassFile.FieldType.byte)), Jvm.Cond.code ({ cls := "java/lang/StringUTF16", name := "compress", desc := "([CI[BII)I" } : Jvm.MethodName) jdk_52_method_21_code (7 : Nat) (Option.some Jvm.ClassFile.FieldType.int), Jvm.Cond.code ({ cls := "java/lang/StringUTF16", name := "coderFromArrayLen", desc := "([BI)B" } : Jvm.MethodName) jdk_52_method_15_code (2 : Nat) (Option.some Jvm.ClassFile.FieldType.byte), Jvm.Cond.code ({ cls := "com/example/strict_markup/strictmarkup/Text", name := "<init>", desc := "()V" } : Jvm.MethodName) prog_81_method_1_code (1 : Nat) (Option.none : Option Jvm.ClassFile.FieldType), Jvm.Cond.code ({ cls := "com/example/strict_markup/strictmarkup/Text", name := "append", desc := "(C)V" } : Jvm.MethodName) prog_81_method_8_code (2 : Nat) (Option.none : Option Jvm.ClassFile.FieldType), Jvm.Cond.code ({ cls := "com/example/strict_markup/strictmarkup/Attribute", name := "<init>", desc := "()V" } : Jvm.MethodName) prog_1_method_1_code (1 : Nat) (Option.none : Option Jvm.ClassFile.FieldType), Jvm.Cond.code ({ cls := "com/example/strict_markup/strictmarkup/Attribute", name := "specify", desc := "(Ljava/lang/String;Ljava/lang/String;Ljava/lang/String;)V" } : Jvm.MethodName) prog_1_method_4_code (4 : Nat) (Option.none : Option Jvm.ClassFile.FieldType), Jvm.Cond.code ({ cls := "com/example/strict_markup/strictmarkup/Attribute", name := "specify", desc := "(Ljava/lang/String;Ljava/lang/String;ZLcom/example/strict_markup/strictmarkup/Text;II)V" } : Jvm.MethodName) prog_1_method_3_code (7 : Nat) (Option.none : Option Jvm.ClassFile.FieldType), Jvm.Cond.code ({ cls := "com/example/strict_markup/strictmarkup/Attribute", name := "value", desc := "()Ljava/lang/String;" } : Jvm.MethodName) prog_1_method_6_code (1 : Nat) (Option.some (Jvm.ClassFile.FieldType.object "java/lang/String")), Jvm.Cond.code ({ cls := "com/example/strict_markup/strictmarkup/Text", name := "array", desc := "()[C" } : Jvm.MethodName) prog_81_method_2_code (1 : Nat) (Option.some (Jvm.ClassFile.FieldType.array Jvm.ClassFile.FieldType.char)), Jvm.Cond.code ({ cls := "java/lang/String", name := "<init>", desc := "([CII)V" } : Jvm.MethodName) jdk_42_method_4_code (4 : Nat) (Option.none : Option Jvm.ClassFile.FieldType), Jvm.Cond.code ({ cls := "java/lang/String", name := "rangeCheck", desc := "([CII)Ljava/lang/Void;" } : Jvm.MethodName) jdk_42_method_5_code (3 : Nat) (Option.some (Jvm.ClassFile.FieldType.object "java/lang/Void")), Jvm.Cond.code ({ cls := "java/lang/String", name := "checkBoundsOffCount", desc := "(III)I" } : Jvm.MethodName) jdk_42_method_157_code (3 : Nat) (Option.some Jvm.ClassFile.FieldType.int), Jvm.Cond.code ({ cls := "jdk/internal/util/Preconditions", name := "checkFromIndexSize", desc := "(IIILjava/util/function/BiFunction;)I" } : Jvm.MethodName) jdk_41_method_13_code (4 : Nat) (Option.some Jvm.ClassFile.FieldType.int), Jvm.Cond.code ({ cls := "com/example/strict_markup/strictmarkup/Attribute", name := "name", desc := "()Ljava/lang/String;" } : Jvm.MethodName) prog_1_method_5_code (1 : Nat) (Option.some (Jvm.ClassFile.FieldType.object "java/lang/String")), Jvm.Cond.code ({ cls := "java/lang/String", name := "equals", desc := "(Ljava/lang/Object;)Z" } : Jvm.MethodName) jdk_42_method_66_code (3 : Nat) (Option.some Jvm.ClassFile.FieldType.boolean), Jvm.Cond.code ({ cls := "com/example/strict_markup/strictmarkup/Attribute", name := "type", desc := "()Ljava/lang/String;" } : Jvm.MethodName) prog_1_method_7_code (1 : Nat) (Option.some (Jvm.ClassFile.FieldType.object "java/lang/String")), Jvm.Cond.code ({ cls := "com/example/strict_markup/strictmarkup/Attribute", name := "declared", desc := "()Z" } : Jvm.MethodName) prog_1_method_12_code (1 : Nat) (Option.some Jvm.ClassFile.FieldType.boolean), Jvm.Cond.code ({ cls := "com/example/strict_markup/strictmarkup/Attribute", name := "specified", desc := "()Z" } : Jvm.MethodName) prog_1_method_13_code (1 : Nat) (Option.some Jvm.ClassFile.FieldType.boolean), Jvm.Cond.code ({ cls := "java/lang/String", name := "length", desc := "()I" } : Jvm.MethodName) jdk_42_method_54_code (1 : Nat) (Option.some Jvm.ClassFile.FieldType.int), Jvm.Cond.code ({ cls := "java/lang/String", name := "coder", desc := "()B" } : Jvm.MethodName) jdk_42_method_152_code (1 : Nat) (Option.some Jvm.ClassFile.FieldType.byte), Jvm.Cond.code ({ cls := "com/example/strict_markup/strictmarkup/AttributeSpecifyPinLaw", name := "at", desc := "(Ljava/lang/String;[CII)Z" } : Jvm.MethodName) method_3_code (4 : Nat) (Option.some Jvm.ClassFile.FieldType.boolean), Jvm.Cond.code ({ cls := "java/lang/String", name := "charAt", desc := "(I)C" } : Jvm.MethodName) jdk_42_method_56_code (2 : Nat) (Option.some Jvm.ClassFile.FieldType.char), Jvm.Cond.code ({ cls := "java/lang/String", name := "isLatin1", desc := "()Z" } : Jvm.MethodName) jdk_42_method_154_code (1 : Nat) (Option.some Jvm.ClassFile.FieldType.boolean), Jvm.Cond.code ({ cls := "java/lang/StringLatin1", name := "charAt", desc := "([BI)C" } : Jvm.MethodName) jdk_43_method_2_code (2 : Nat) (Option.some Jvm.ClassFile.FieldType.char), Jvm.Cond.code ({ cls := "java/lang/String", name := "checkIndex", desc := "(II)V" } : Jvm.MethodName) jdk_42_method_155_code (2 : Nat) (Option.none : Option Jvm.ClassFile.FieldType), Jvm.Cond.code ({ cls := "jdk/internal/util/Preconditions", name := "checkIndex", desc := "(IILjava/util/function/BiFunction;)I" } : Jvm.MethodName) jdk_41_method_11_code (3 : Nat) (Option.some Jvm.ClassFile.FieldType.int), Jvm.Cond.code ({ cls := "java/lang/StringUTF16", name := "toBytes", desc := "([CII)[B" } : Jvm.MethodName) jdk_52_method_14_code (5 : Nat) (Option.some (Jvm.ClassFile.FieldType.array Jvm.ClassFile.FieldType.byte)), Jvm.Cond.code ({ cls := "java/lang/StringUTF16", name := "newBytesFor", desc := "(I)[B" } : Jvm.MethodName) jdk_52_method_2_code (1 : Nat) (Option.some (Jvm.ClassFile.FieldType.array Jvm.ClassFile.FieldType.byte)), Jvm.Cond.code ({ cls := "java/lang/StringUTF16", name := "newBytesLength", desc := "(I)I" } : Jvm.MethodName) jdk_52_method_3_code (1 : Nat) (Option.some Jvm.ClassFile.FieldType.int), Jvm.Cond.code ({ cls := "java/lang/StringUTF16", name := "putChar", desc := "([BII)V" } : Jvm.MethodName) jdk_52_method_4_code (3 : Nat) (Option.none : Option Jvm.ClassFile.FieldType), Jvm.Cond.code ({ cls := "java/lang/StringUTF16", name := "getChar", desc := "([BI)C" } : Jvm.MethodName) jdk_52_method_5_code (2 : Nat) (Option.some Jvm.ClassFile.FieldType.char), Jvm.Cond.code ({ cls := "java/lang/StringUTF16", name := "charAt", desc := "([BI)C" } : Jvm.MethodName) jdk_52_method_83_code (2 : Nat) (Option.some Jvm.ClassFile.FieldType.char), Jvm.Cond.code ({ cls := "java/lang/StringUTF16", name := "checkIndex", desc := "(I[B)V" } : Jvm.MethodName) jdk_52_method_91_code (2 : Nat) (Option.none : Option Jvm.ClassFile.FieldType), Jvm.Cond.code ({ cls := "java/lang/StringUTF16", name := "length", desc := "([B)I" } : Jvm.MethodName) jdk_52_method_6_code (1 : Nat) (Option.some Jvm.ClassFile.FieldType.int)]
set_option maxRecDepth 65536 in
theorem codes_eq : words1.filter isCode = codes1 := rfl
theorem w_codes : ∀ c ∈ words1.filter isCode, c.before args0 about1 = true := by
  rw [codes_eq]
  intro c hc
  simp only [codes1, List.mem_cons, List.not_mem_nil, or_false] at hc
  rcases hc with rfl | rfl | rfl | rfl | rfl | rfl | rfl | rfl | rfl | rfl | rfl | rfl | rfl | rfl | rfl | rfl | rfl | rfl | rfl | rfl | rfl | rfl | rfl | rfl | rfl | rfl | rfl | rfl | rfl | rfl | rfl | rfl | rfl | rfl | rfl | rfl | rfl | rfl | rfl | rfl | rfl | rfl | rfl
  · exact w_c0
  · exact w_c1
  · exact w_c2
  · exact w_c3
  · exact w_c4
  · exact w_c5
  · exact w_c6
  · exact w_c7
  · exact w_c8
  · exact w_c9
  · exact w_c10
  · exact w_c11
  · exact w_c12
  · exact w_c13
  · exact w_c14
  · exact w_c15
  · exact w_c16
  · exact w_c17
  · exact w_c18
  · exact w_c19
  · exact w_c20
  · exact w_c21
  · exact w_c22
  · exact w_c23
  · exact w_c24
  · exact w_c25
  · exact w_c26
  · exact w_c27
  · exact w_c28
  · exact w_c29
  · exact w_c30
  · exact w_c31
  · exact w_c32
  · exact w_c33
  · exact w_c34
  · exact w_c35
  · exact w_c36
  · exact w_c37
  · exact w_c38
  · exact w_c39
  · exact w_c40
  · exact w_c41
  · exact w_c42
set_option maxRecDepth 65536 in
theorem w_t1 : (words1.take 24).all (fun c => isCode c || c.before args0 about1) = true := by decide +kernel
set_option maxRecDepth 65536 in
theorem w_t2 : ((words1.drop 24).take 24).all (fun c => isCode c || c.before args0 about1) = true := by decide +kernel
set_option maxRecDepth 65536 in
theorem w_t3 : (((words1.drop 24).drop 24).take 24).all (fun c => isCode c || c.before args0 about1) = true := by decide +kernel
set_option maxRecDepth 65536 in
theorem w_t4 : ((((words1.drop 24).drop 24).drop 24).take 24).all (fun c => isCode c || c.before args0 about1) = true := by decide +kernel
set_option maxRecDepth 65536 in
theorem w_t5 : (((((words1.drop 24).drop 24).drop 24).drop 24).take 24).all (fun c => isCode c || c.before args0 about1) = true := by decide +kernel
set_option maxRecDepth 65536 in
theorem w_t6 : ((((((words1.drop 24).drop 24).drop 24).drop 24).drop 24).take 24).all (fun c => isCode c || c.before args0 about1) = true := by decide +kernel
set_option maxRecDepth 65536 in
theorem w_t7 : (((((((words1.drop 24).drop 24).drop 24).drop 24).drop 24).drop 24).take 24).all (fun c => isCode c || c.before args0 about1) = true := by decide +kernel
set_option maxRecDepth 65536 in
theorem w_t8 : ((((((((words1.drop 24).drop 24).drop 24).drop 24).drop 24).drop 24).drop 24).take 24).all (fun c => isCode c || c.before args0 about1) = true := by decide +kernel
set_option maxRecDepth 65536 in
theorem w_t9 : ((((((((words1.drop 24).drop 24).drop 24).drop 24).drop 24).drop 24).drop 24).drop 24).all (fun c => isCode c || c.before args0 about1) = true := by decide +kernel
theorem w_tables : (allAtoms (Jvm.Cond.code x code maxLocals ret :: tables_1)).before args0 about1 = true := by
  rw [allAtoms_all]
  show words1.all (fun c => c.before args0 about1) = true
  refine all_split ?_ w_codes
  rw [← List.take_append_drop 24 words1, List.all_append, w_t1, ← List.take_append_drop 24 (words1.drop 24), List.all_append, w_t2, ← List.take_append_drop 24 ((words1.drop 24).drop 24), List.all_append, w_t3, ← List.take_append_drop 24 (((words1.drop 24).drop 24).drop 24), List.all_append, w_t4, ← List.take_append_drop 24 ((((words1.drop 24).drop 24).drop 24).drop 24), List.all_append, w_t5, ← List.take_append_drop 24 (((((words1.drop 24).drop 24).drop 24).drop 24).drop 24), List.all_append, w_t6, ← List.take_append_drop 24 ((((((words1.drop 24).drop 24).drop 24).drop 24).drop 24).drop 24), List.all_append, w_t7, ← List.take_append_drop 24 (((((((words1.drop 24).drop 24).drop 24).drop 24).drop 24).drop 24).drop 24), List.all_append, w_t8, w_t9]
  rfl
set_option maxRecDepth 65536 in
theorem w_rest : rest_1_c.before args0 about1 = true := by decide +kernel
set_option maxRecDepth 65536 in
theorem w_case : (Jvm.Cond.and given_1 narrow_1).before args0 about1 = true := by decide +kernel
set_option maxRecDepth 65536 in
theorem w_consts : constsHeld consts_1 about1 := Jvm.Lit.constsHeldB_iff.mp (by decide +kernel)
theorem w_applies : (headSpec (Jvm.Cond.code x code maxLocals ret :: tables_1) room_1).applies x e0.platform about1 = true :=
  (Spec.applies_iff w_frames).mpr ⟨w_running, w_runnable, w_alone, w_named, w_hears, w_ripe, w_room, w_tables⟩
theorem atStart : AtStart classFile x code maxLocals ret World_1 tables_1 room_1 Calls_1 rest_1 Pre_1 launch0 p0 e0 about1 theMethod args0 below0 :=
  ⟨lists_1, trivial, launch0.admits_env _ _ _, launch0.least_env, fairChoices_fair.cas, fairChoices_fair.clock, w_frames, w_args, w_heap, w_applies, ⟨w_consts, trivial⟩, w_rest, w_case⟩
end start1
theorem witness_1 : WitnessClaimed_1 := ⟨start1.p0, start1.e0, start1.about1, start1.theMethod, start1.args0, start1.below0, start1.atStart⟩
end Jvm.Pilot.@@N@@
