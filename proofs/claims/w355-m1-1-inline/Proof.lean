import JvmDerived
import JvmDerived.Pilot.@@N@@Statement
import JvmDerived.Pilot.@@N@@Code
set_option linter.unusedVariables false
set_option linter.unusedSimpArgs false
namespace Jvm.RoadKit
open Sem ClassFile Op Lib Jvm.Stand Jvm.Free Jvm.LawKit
section New
variable {p : Program} {l : Launch} {e : Env} {R : Room} {s : State} {m : MethodId} {args : Array Value} {below : List Frame} {meth : Method} {c : Code} {T : State} {locs : List Loc} {cells slots : Nat}
theorem retI (X : Stand p l e R s m args below meth c T locs cells slots) (hx : p.tables.exec = Jvm.exec) {pc : Nat} {Ls : Array Slot} {z : Int32} {rest : List Value} (hret : meth.sig.returnType = some .int) (hd : decode c.code pc = .ok (.ireturn, 1)) {fs : List Frame}
    (hl : ∀ (f : JFrame) (acts : List Action), f.method = m → f.locked = none → f.entered = [] → (doReturn e (T.setTop f) acts (some (.int z))).1 = T.setFrames fs) : Steps p.tables e below (T.setTop (mkF m pc Ls (.int z :: rest))) (T.setFrames fs) := by
  have hm' : T.vm.method? m = some meth := X.method'
  have hn : narrow .int (.int z) = .int z := rfl
  show Steps p.tables e below (T.setTop { method := m, pc := pc, locals := Ls, stack := _ :: rest, locked := none }) _
  jvm_step X.here [X.here.top, hx, hd, hm', hret, hn]
  first | (intro acts; rw [hl _ acts rfl rfl rfl]) | rw [hl _ _ rfl rfl rfl]
  exact Steps.refl _
end New
end Jvm.RoadKit
/- laws to paste: Road.lenW, pair_says, Road.low_at, Road.wide_lo, Road.wide_hi (cut by pick.py; bodies as the Statement names them) -/
namespace Jvm.Pilot.@@N@@
namespace StrChars
open Jvm Sem ClassFile Op Lib Jvm.Stand Jvm.Free.XT Jvm.Free.ALB Jvm.Free.JM Jvm.Free
open Jvm.Lib.Cold (StaticIs)
/-- the byte that i2b leaves of a char -/
def lo8 (x : Int32) : Int32 := x.toInt8.toInt32
def U16 : String := "java/lang/StringUTF16"
namespace Cmp5
def yN : MethodName := ⟨"java/lang/StringUTF16", "compress", "([CI[BII)I"⟩
abbrev yB : ByteArray := jdk_52_method_21_code
end Cmp5
namespace Cmp3
def yN : MethodName := ⟨"java/lang/StringUTF16", "compress", "([CII)[B"⟩
abbrev yB : ByteArray := jdk_52_method_16_code
end Cmp3
namespace CodL
def yN : MethodName := ⟨"java/lang/StringUTF16", "coderFromArrayLen", "([BI)B"⟩
abbrev yB : ByteArray := jdk_52_method_15_code
end CodL
namespace New4
def yN : MethodName := ⟨"java/lang/String", "<init>", "([CIILjava/lang/Void;)V"⟩
abbrev yB : ByteArray := jdk_42_method_149_code
end New4
namespace New1
def yN : MethodName := ⟨"java/lang/String", "<init>", "([C)V"⟩
abbrev yB : ByteArray := jdk_42_method_3_code
end New1
end StrChars
namespace StrChars.Road
open Jvm Sem ClassFile Op Lib Jvm.Stand Jvm.Free Jvm.Free.XT
open Jvm.Lib.Cold (StaticIs)
abbrev ST : String := "java/lang/String"
/-- every table word that New1's law asks, flat -/
abbrev words : List Jvm.Cond := [.code New1.yN New1.yB 2 none, .initialized ST, .methodLink ST 27 New4.yN, .instanceMethod New4.yN,
  .code New4.yN New4.yB 6 none, .fieldLink ST 38 ST "COMPACT_STRINGS" "Z", .laysFinal ST ST "value" "[B", .fieldLink ST 9 ST "value" "[B", .laysFinal ST ST "coder" "B", .fieldLink ST 15 ST "coder" "B",
  .methodLink ST 1 Lib.objectInit, .instanceMethod Lib.objectInit, .code Lib.objectInit ⟨#[0xb1]⟩ 1 none, .methodLink ST 177 Cmp3.yN, .static Cmp3.yN, .methodLink ST 47 CodL.yN, .static CodL.yN,
  .code Cmp3.yN Cmp3.yB 6 (some (.array .byte)), .initialized U16, .arrayClass .byte, .methodLink U16 115 Cmp5.yN, .static Cmp5.yN, .code Cmp5.yN Cmp5.yB 7 (some .int), .code CodL.yN CodL.yB 2 (some .byte)]
end StrChars.Road
namespace StrChars
open Jvm Sem ClassFile Op Lib Jvm.Stand Jvm.Free.XT Jvm.Free.ALB Jvm.Free.JM Jvm.Free
open Jvm.Lib.Cold (StaticIs)
def hi8 (x : Int32) : Int32 := lo8 (x >>> ((8 : Int32) &&& 31))
/-- what StringUTF16.getChar makes of two bytes -/
def pairCh (u v : Int32) : Int32 := (((u &&& 255) <<< ((0 : Int32) &&& 31)) ||| ((v &&& 255) <<< ((8 : Int32) &&& 31))).toUInt32.toUInt16.toUInt32.toInt32
theorem shr0 (c : Int32) : c >>> ((0 : Int32) &&& 31) = c := by
  have e : ((0 : Int32) &&& 31) = 0 := by decide
  rw [e]
  apply Int32.toBitVec_inj.mp
  rw [Int32.toBitVec_shiftRight]
  have e1 : ((0 : Int32).toBitVec.smod 32) = 0#32 := by decide
  rw [e1, BitVec.sshiftRight_eq']
  exact BitVec.sshiftRight_zero
theorem lo8_and (x : Int32) : (lo8 x &&& 255).toBitVec.toNat = x.toBitVec.toNat % 256 := by
  have h : (lo8 x).toBitVec = (x.toBitVec.signExtend 8).signExtend 32 := by rw [lo8, Int8.toBitVec_toInt32, Int32.toBitVec_toInt8]
  rw [Int32.toBitVec_and, BitVec.toNat_and, h]
  have e : ((x.toBitVec.signExtend 8).signExtend 32).toNat % 256 = x.toBitVec.toNat % 256 := by
    rw [BitVec.toNat_signExtend]
    have hlt := x.toBitVec.isLt
    simp only [BitVec.toNat_setWidth, BitVec.toNat_signExtend]
    split <;> split <;> omega
  rw [← e]
  exact Nat.and_two_pow_sub_one_eq_mod _ 8
theorem pair_says {c : Int32} (h0 : ¬ c < 0) (h1 : ¬ 65535 < c) : pairCh (lo8 c) (hi8 c) = c := by
  rw [Int32.lt_iff_toInt_lt] at h0 h1
  have e0 : (0 : Int32).toInt = 0 := rfl
  have e1 : (65535 : Int32).toInt = 65535 := rfl
  have hc : c.toInt = c.toBitVec.toNat := by
    have := c.toBitVec.isLt
    have e : c.toInt = c.toBitVec.toInt := rfl
    rw [e] at h0 h1
    rw [e]
    rw [BitVec.toInt_eq_toNat_cond] at h0 h1 ⊢
    split at h0 <;> split <;> omega
  have hn : c.toBitVec.toNat < 65536 := by omega
  have a1 := lo8_and c
  have a2 : (hi8 c &&& 255).toBitVec.toNat = c.toBitVec.toNat / 256 := by
    rw [hi8, lo8_and]
    have e : ((8 : Int32) &&& 31) = 8 := by decide
    rw [e, Int32.toBitVec_shiftRight]
    have e2 : ((8 : Int32).toBitVec.smod 32) = 8#32 := by decide
    rw [e2, BitVec.sshiftRight_eq', BitVec.toNat_sshiftRight_of_msb_false (by rw [BitVec.msb_eq_false_iff_two_mul_lt]; omega)]
    show c.toBitVec.toNat >>> 8 % 256 = _
    rw [Nat.shiftRight_eq_div_pow]
    omega
  unfold pairCh
  apply Int32.toBitVec_inj.mp
  apply BitVec.eq_of_toNat_eq
  have f0 : ((0 : Int32) &&& 31) = 0 := by decide
  have f8 : ((8 : Int32) &&& 31) = 8 := by decide
  rw [f0, f8]
  have g : (((lo8 c &&& 255) <<< (0 : Int32)) ||| ((hi8 c &&& 255) <<< (8 : Int32))).toBitVec.toNat = c.toBitVec.toNat := by
    rw [Int32.toBitVec_or, Int32.toBitVec_shiftLeft, Int32.toBitVec_shiftLeft]
    have s0 : ((0 : Int32).toBitVec.smod 32) = 0#32 := by decide
    have s8 : ((8 : Int32).toBitVec.smod 32) = 8#32 := by decide
    rw [s0, s8, BitVec.toNat_or]
    simp only [BitVec.shiftLeft_eq', BitVec.toNat_shiftLeft, a1, a2]
    show (c.toBitVec.toNat % 256) <<< 0 % 2 ^ 32 ||| (c.toBitVec.toNat / 256) <<< 8 % 2 ^ 32 = _
    rw [Nat.shiftLeft_zero, Nat.mod_eq_of_lt (show c.toBitVec.toNat % 256 < 2 ^ 32 by omega), Nat.mod_eq_of_lt (show (c.toBitVec.toNat / 256) <<< 8 < 2 ^ 32 by rw [Nat.shiftLeft_eq]; omega), Nat.or_comm, ← Nat.shiftLeft_add_eq_or_of_lt (by omega), Nat.shiftLeft_eq]
    omega
  show BitVec.toNat (((((lo8 c &&& 255) <<< (0 : Int32)) ||| ((hi8 c &&& 255) <<< (8 : Int32))).toBitVec.setWidth 16).setWidth 32) = _
  rw [BitVec.toNat_setWidth, BitVec.toNat_setWidth, g]
  omega
end StrChars
namespace StrChars
open Jvm Sem ClassFile Op Lib Jvm.Stand Jvm.Free.XT Jvm.Free.ALB Jvm.Free.JM Jvm.Free
open Jvm.Lib.Cold (StaticIs)
theorem shr1 {n : Nat} (h : 2 * n < 2 ^ 31) : Int32.ofNat (2 * n) >>> ((1 : Int32) &&& 31) = Int32.ofNat n := by
  have e : ((1 : Int32) &&& 31) = 1 := by decide
  rw [e]
  apply Int32.toBitVec_inj.mp
  rw [Int32.toBitVec_shiftRight]
  have e1 : ((1 : Int32).toBitVec.smod 32) = 1#32 := by decide
  have hm : (BitVec.ofNat 32 (2 * n)).toNat = 2 * n := by rw [BitVec.toNat_ofNat, Nat.mod_eq_of_lt (by omega)]
  rw [e1, BitVec.sshiftRight_eq']
  apply BitVec.eq_of_toNat_eq
  show ((BitVec.ofNat 32 (2 * n)).sshiftRight 1).toNat = (BitVec.ofNat 32 n).toNat
  rw [BitVec.toNat_sshiftRight_of_msb_false (by rw [BitVec.msb_eq_false_iff_two_mul_lt, hm]; omega), hm, BitVec.toNat_ofNat, Nat.shiftRight_eq_div_pow]
  omega
/-- the array's cell V codes the n chars f 0 .. f (n - 1) by the coder cd, as the JDK does: coder 1 just where some char is above 255 -/
def Cod (cd : Int32) (n : Nat) (f : Nat → Int32) (V : Cell) : Prop := (cd = 0 ∧ V.slots.size = n ∧ ∀ j, j < n → V.slots[j]? = some (.int (lo8 (f j))) ∧ ¬ 255 < f j) ∨ (cd = 1 ∧ V.slots.size = 2 * n ∧ (∀ j, j < n → V.slots[2 * j]? = some (.int (lo8 (f j))) ∧ V.slots[2 * j + 1]? = some (.int (hi8 (f j)))) ∧ ∃ j, j < n ∧ 255 < f j)
theorem Cod.cd {cd : Int32} {n : Nat} {f : Nat → Int32} {V : Cell} (h : Cod cd n f V) : cd = 0 ∨ cd = 1 := h.imp (fun q => q.1) fun q => q.1
theorem Cod.len {cd : Int32} {n : Nat} {f : Nat → Int32} {V : Cell} (h : Cod cd n f V) (hs : V.slots.size < 2 ^ 31) : Int32.ofNat V.slots.size >>> (cd &&& 31) = Int32.ofNat n := by
  rcases h with ⟨rfl, h, -⟩ | ⟨rfl, h, -⟩
  · rw [shr0, h]
  · rw [h, shr1 (by omega)]
/-- **x is a String of the n chars f 0 .. f (n - 1)**, Latin-1 or UTF-16; its array at t has the cell V -/
def Txt (x t : Addr) (V : Cell) (cd : Int32) (n : Nat) (f : Nat → Int32) (U : State) : Prop := Exact "java/lang/String" x U ∧ Has x "java/lang/String" "value" "[B" (.ref t) U ∧ Has x "java/lang/String" "coder" "B" (.int cd) U ∧ XT.Arr .byte t V U ∧ Cod cd n f V ∧ ∀ j, j < n → ¬ f j < 0 ∧ ¬ 65535 < f j
theorem Txt.mv {x t : Addr} {V : Cell} {cd : Int32} {n : Nat} {f : Nat → Int32} {U U' : State} (h : Txt x t V cd n f U) (hal : U.vm.Alike U'.vm) (hh : U'.heap = U.heap) : Txt x t V cd n f U' := ⟨h.1.mv hal hh, h.2.1.mv hal hh, h.2.2.1.mv hal hh, h.2.2.2.1.mv hal hh, h.2.2.2.2⟩
namespace Cdr
def yN : MethodName := ⟨"java/lang/String", "coder", "()B"⟩
abbrev yB : ByteArray := jdk_42_method_152_code
theorem d0 : decode yB 0 = .ok (.getstatic 38, 3) := by decide +kernel
theorem d3 : decode yB 3 = .ok (.ifCond (.eq) 10, 3) := by decide +kernel
theorem d6 : decode yB 6 = .ok (.aload_n 0, 1) := by decide +kernel
theorem d7 : decode yB 7 = .ok (.getfield 15, 3) := by decide +kernel
theorem d10 : decode yB 10 = .ok (.goto 4, 3) := by decide +kernel
theorem d14 : decode yB 14 = .ok (.ireturn, 1) := by decide +kernel
def site : List Cond := [.fieldLink "java/lang/String" 38 "java/lang/String" "COMPACT_STRINGS" "Z", .fieldLink "java/lang/String" 15 "java/lang/String" "coder" "B"]
def tab : Cond := tabOf yN yB 1 (some .byte) site
def P (x : Addr) (cd z : Int32) (args : Array Value) (s : State) : Prop := args = #[.ref x] ∧ Has x "java/lang/String" "coder" "B" (.int cd) s ∧ (cd = 0 ∨ cd = 1) ∧ StaticIs s "java/lang/String" "COMPACT_STRINGS" "Z" (.int z) ∧ ¬ z = 0
def E (cd : Int32) (r : Option Value) (s u : State) : Prop := XT.PureE (some (.int cd)) r s u
theorem law (l : Launch) (x : Addr) (cd z : Int32) : Law l yN 1 0 0 0 yB 1 (some .byte) site (P x cd z) (E cd) [] 0 0 := by
  refine Law.of_walk (plainFor_of_name (by decide +kernel)) (by decide +kernel) (by decide +kernel) (by decide) (fun _ _ h => by rw [h.1]; rfl) (fun _ U U' hal hh h => ⟨h.1, h.2.1.mv hal hh, h.2.2.1, h.2.2.2.1.there hal hh, h.2.2.2.2⟩) (fun r U U' V V' h1 hal h2 h => XT.PureE.mv r U U' V V' h1 hal h2 h) ?_
  intro p e s m args below meth c s₁ X0 hexec hbytes hml hret hlk hnm hown hh0 W hP
  obtain ⟨rfl, hx, hc, s1, hz⟩ := hP
  have c1 : Steps p.tables e below (s₁.setTop (entryFrame m #[.ref x] 1)) (s₁.setTop (mkF m 0 #[.val (.ref x)] [])) := entry rfl
  obtain ⟨T2, X2, q2, st2⟩ := X0.sget hexec hown (wk W (.fieldLink "java/lang/String" 38 "java/lang/String" "COMPACT_STRINGS" "Z")) s1 (fun _ _ h => by rw [hh0]; exact h) (g := (mkF m 0 #[.val (.ref x)] [])) rfl (hb hbytes d0)
  have hh2 := q2.trans hh0
  have c3 : Steps p.tables e below (s₁.setTop (entryFrame m #[.ref x] 1)) (T2.setTop (mkF m 7 #[.val (.ref x)] [.ref x])) := (c1.trans (st2 _ (Steps.refl _))).trans (by
    refine XS.ifNo X2.here hexec rfl (hb hbytes d3) rfl (i0_eq_f hz) ?_
    refine XS.aloadN X2.here hexec rfl (hb hbytes d6) rfl rfl ?_
    exact Steps.refl _)
  obtain ⟨T4, X4, q4, st4⟩ := X2.hget hexec hown (wk W (.fieldLink "java/lang/String" 15 "java/lang/String" "coder" "B")) (hx.mv X2.warmed.alike hh2) (g := (mkF m 7 #[.val (.ref x)] [.ref x])) rfl (rest := []) rfl (hb hbytes d7)
  have c5 : Steps p.tables e below (s₁.setTop (entryFrame m #[.ref x] 1)) (T4.setTop (mkF m 14 #[.val (.ref x)] [.int cd])) := (c3.trans (st4 _ (Steps.refl _))).trans (by
    refine XS.goto X4.here hexec rfl (pc0 := 10) rfl (hb hbytes d10) (by decide) rfl ?_
    exact Steps.refl _)
  exact ⟨T4, some (.int cd), _, _, _, X4, rfl, rfl, rfl, (fun h => by cases h), ⟨rfl, q4.trans hh2⟩, fun fs hl => c5.trans (X4.ireturnOut hexec hret (by rcases hc with rfl | rfl <;> rfl) (Or.inr (Or.inr (Or.inl rfl))) (hb hbytes d14) hl)⟩
end Cdr
namespace Len
def yN : MethodName := ⟨"java/lang/String", "length", "()I"⟩
abbrev yB : ByteArray := jdk_42_method_54_code
theorem d0 : decode yB 0 = .ok (.aload_n 0, 1) := by decide +kernel
theorem d1 : decode yB 1 = .ok (.getfield 9, 3) := by decide +kernel
theorem d4 : decode yB 4 = .ok (.arraylength, 1) := by decide +kernel
theorem d5 : decode yB 5 = .ok (.aload_n 0, 1) := by decide +kernel
theorem d6 : decode yB 6 = .ok (.invokevirtual 335, 3) := by decide +kernel
theorem d9 : decode yB 9 = .ok (.ishr, 1) := by decide +kernel
theorem d10 : decode yB 10 = .ok (.ireturn, 1) := by decide +kernel
def site : List Cond := [.fieldLink "java/lang/String" 9 "java/lang/String" "value" "[B", Cdr.tab] ++ virtW "java/lang/String" 335 "java/lang/String" Cdr.yN Cdr.yN
def tab : Cond := tabOf yN yB 1 (some .int) site
def P (x t : Addr) (V : Cell) (cd : Int32) (n : Nat) (f : Nat → Int32) (z : Int32) (args : Array Value) (s : State) : Prop := args = #[.ref x] ∧ Txt x t V cd n f s ∧ StaticIs s "java/lang/String" "COMPACT_STRINGS" "Z" (.int z) ∧ ¬ z = 0
def E (n : Nat) (r : Option Value) (s u : State) : Prop := XT.PureE (some (.int (Int32.ofNat n))) r s u
/-- length() of a String of n chars, in either coding -/
theorem law (l : Launch) (x t : Addr) (V : Cell) (cd : Int32) (n : Nat) (f : Nat → Int32) (z : Int32) : Law l yN 1 0 1 13 yB 1 (some .int) site (P x t V cd n f z) (E n) [] 0 0 := by
  refine Law.of_walk (plainFor_of_name (by decide +kernel)) (by decide +kernel) (by decide +kernel) (by decide) (fun _ _ h => by rw [h.1]; rfl) (fun _ U U' hal hh h => ⟨h.1, h.2.1.mv hal hh, h.2.2.1.there hal hh, h.2.2.2⟩) (fun r U U' V V' h1 hal h2 h => XT.PureE.mv r U U' V V' h1 hal h2 h) ?_
  intro p e s m args below meth c s₁ X0 hexec hbytes hml hret hlk hnm hown hh0 W hP
  obtain ⟨rfl, hx, s1, hz⟩ := hP
  have v31 := hx.2.2.2.1.2.2.2
  have c1 : Steps p.tables e below (s₁.setTop (entryFrame m #[.ref x] 1)) (s₁.setTop (mkF m 1 #[.val (.ref x)] [.ref x])) := Steps.trans (entry rfl) (by
    show Steps p.tables e below (s₁.setTop (mkF m 0 #[.val (.ref x)] [])) _
    refine XS.aloadN X0.here hexec rfl (hb hbytes d0) rfl rfl ?_
    exact Steps.refl _)
  obtain ⟨T2, X2, q2, st2⟩ := X0.hget hexec hown (wk W (.fieldLink "java/lang/String" 9 "java/lang/String" "value" "[B")) (hx.mv X0.warmed.alike hh0).2.1 (g := (mkF m 1 #[.val (.ref x)] [.ref x])) rfl (rest := []) rfl (hb hbytes d1)
  have hh2 := q2.trans hh0
  have hx2 := hx.mv X2.warmed.alike hh2
  have c3 : Steps p.tables e below (s₁.setTop (entryFrame m #[.ref x] 1)) (T2.setTop (mkF m 6 #[.val (.ref x)] [.ref x, .int (Int32.ofNat V.slots.size)])) := (c1.trans (st2 _ (Steps.refl _))).trans (by
    refine X2.alen hexec hx2.2.2.2.1 rfl rfl (hb hbytes d4) ?_
    refine XS.aloadN X2.here hexec rfl (hb hbytes d5) rfl rfl ?_
    exact Steps.refl _)
  obtain ⟨v4, T4, X4, E4, g4⟩ := X2.callV hexec (Cdr.law l x cd z) hown (wks W (virtW "java/lang/String" 335 "java/lang/String" Cdr.yN Cdr.yN)) rfl (by decide) (wk W Cdr.tab) (W := 1) (Nat.le_of_ble_eq_true rfl) (Nat.le_of_ble_eq_true rfl) (Nat.le_refl _) (Nat.le_refl _) (hx2.1.fc X2.warmed.alike) hx2.1.is (g := (mkF m 6 #[.val (.ref x)] [.ref x, .int (Int32.ofNat V.slots.size)])) rfl (by rw [hml]; rfl) c3 (argsL := []) (rest := [.int (Int32.ofNat V.slots.size)]) rfl rfl (by show 2 * 0 + (1 + 0) ≤ _; decide) (hb hbytes d6) (⟨rfl, hx2.2.2.1, hx.2.2.2.2.1.cd, s1.there X2.warmed.alike hh2, hz⟩)
  obtain ⟨rfl, q4⟩ := E4
  have c5 : Steps p.tables e below (s₁.setTop (entryFrame m #[.ref x] 1)) (T4.setTop (mkF m 10 #[.val (.ref x)] [.int (Int32.ofNat V.slots.size >>> (cd &&& 31))])) := Steps.trans g4 (by
    refine ishr X4.here hexec rfl (hb hbytes d9) rfl ?_
    exact Steps.refl _)
  rw [hx.2.2.2.2.1.len v31] at c5
  exact ⟨T4, some (.int (Int32.ofNat n)), _, _, _, X4, rfl, rfl, rfl, (fun h => by cases h), ⟨rfl, q4.trans hh2⟩, fun fs hl => c5.trans (X4.ireturnOut hexec hret rfl (Or.inl rfl) (hb hbytes d10) hl)⟩
theorem pays {l : Launch} {R : Room} {p : Program} {e : Env} {below : List Frame} {s : State} {sargs : Array Value} {len W : Nat} (x t : Addr) (V : Cell) (cd : Int32) (n : Nat) (f : Nat → Int32) (z : Int32) (htab : tab.before sargs s = true) (hfr : 2 ≤ R.frames) (hlo : W + 25 ≤ R.locals) :
    Back l R p e below s sargs yN len W (fun A₁ a₁ => A₁.cells + 0 ≤ R.cells ∧ A₁.slots + 0 ≤ R.slots ∧ P x t V cd n f z a₁ A₁.U) (fun A₁ _ v₁ B₁ => E n v₁ A₁.U B₁.U ∧ B₁.locs = A₁.locs ++ [] ∧ B₁.cells = A₁.cells + 0 ∧ B₁.slots = A₁.slots + 0) :=
  (law l x t V cd n f z).pays htab hfr (by omega)
end Len
end StrChars
namespace StrChars.Road
open Jvm Sem ClassFile Op Lib Jvm.Stand Jvm.Free Jvm.Free.XT
open Jvm.Lib.Cold (StaticIs)
theorem consq {a : Array Value} {s : State} {c : Jvm.Cond} {L : List Jvm.Cond} (h0 : c.before a s = true) (h : ∀ w ∈ L, w.before a s = true) : ∀ w ∈ c :: L, w.before a s = true := fun w hw => (List.mem_cons.mp hw).elim (fun e => e ▸ h0) (h w)
/-- the words of String.length(), either coding -/
abbrev wordsLen : List Jvm.Cond := [.code Len.yN Len.yB 1 (some .int), .initialized ST, .fieldLink ST 9 ST "value" "[B", .fieldLink ST 38 ST "COMPACT_STRINGS" "Z", .fieldLink ST 15 ST "coder" "B", .code Cdr.yN Cdr.yB 1 (some .byte), .methodLink ST 335 Cdr.yN, .declares Cdr.yN, .selects ST Cdr.yN Cdr.yN, .instanceMethod Cdr.yN]
theorem tabLen_of {a : Array Value} {s : State} (h : ∀ w ∈ wordsLen, w.before a s = true) : Len.tab.before a s = true := by
  have hc : Cdr.tab.before a s = true := unparts (wk h (.code Cdr.yN Cdr.yB 1 (some .byte))) (wks h (.initialized Cdr.yN.cls :: Cdr.site))
  have q := consq hc h
  exact unparts (wk q (.code Len.yN Len.yB 1 (some .int))) (wks q (.initialized Len.yN.cls :: Len.site))
theorem movedLen {Z s : State} {a0 args : Array Value} (hZ : Z.Warmed39 s.vm) (hw : ∀ d ∈ wordsLen, d.before a0 Z = true) : ∀ d ∈ wordsLen, d.before args s = true := fun d hd => by
  have q := hw d hd
  have t : ∀ d ∈ wordsLen, d = .arrayClass .byte ∨ (d.onTables && d.keepsFace) = true := by decide +kernel
  rcases t d hd with rfl | t
  · exact RoadKit.mvA hZ q
  · exact RoadKit.mv hZ q t
/-- the bytes of the chars cs, low before high -/
def wideBytes : List Int32 → List Value
  | [] => []
  | c :: cs => .int (lo8 c) :: .int (hi8 c) :: wideBytes cs
theorem wide_lo (d : Value) : ∀ (cs : List Int32) (j : Nat), j < cs.length → (wideBytes cs).getD (2 * j) d = .int (lo8 (cs.getD j 0))
  | [], j, h => absurd h (Nat.not_lt_zero j)
  | c :: cs, 0, _ => rfl
  | c :: cs, j + 1, h => by
    have q := wide_lo d cs j (by simpa using h)
    rw [show 2 * (j + 1) = 2 * j + 1 + 1 from by omega]
    simpa [wideBytes] using q
theorem wide_hi (d : Value) : ∀ (cs : List Int32) (j : Nat), j < cs.length → (wideBytes cs).getD (2 * j + 1) d = .int (hi8 (cs.getD j 0))
  | [], j, h => absurd h (Nat.not_lt_zero j)
  | c :: cs, 0, _ => rfl
  | c :: cs, j + 1, h => by
    have q := wide_hi d cs j (by simpa using h)
    rw [show 2 * (j + 1) + 1 = 2 * j + 1 + 1 + 1 from by omega]
    simpa [wideBytes] using q
theorem low_at (d : Value) (cs : List Int32) (j : Nat) (h : j < cs.length) : (cs.map fun c => Value.int (lo8 c)).getD j d = .int (lo8 (cs.getD j 0)) := by
  simp [List.getD_eq_getElem?_getD, h]
/-- an array of N2 bytes vs codes the chars cs by the coder cd -/
def CodA (cs : List Int32) (cd N2 : Int32) (vs : List Value) : Prop := (cd = 0 ∧ N2 = Int32.ofNat cs.length ∧ vs = (cs.map fun c => Value.int (lo8 c)) ∧ ∀ c ∈ cs, ¬ 255 < c) ∨ (cd = 1 ∧ N2 = Int32.ofNat (2 * cs.length) ∧ vs = wideBytes cs ∧ ∃ c ∈ cs, 255 < c)
theorem CodA.cod {cs : List Int32} {cd N2 : Int32} {vs : List Value} {V : Cell} (h : CodA cs cd N2 vs) (hn : 2 * cs.length < 2 ^ 31) (hs : V.slots.size = N2.toNatClampNeg) (hv : RoadKit.Has V vs (.int 0)) : Cod cd cs.length (fun j => cs.getD j 0) V := by
  rcases h with ⟨rfl, rfl, rfl, h⟩ | ⟨rfl, rfl, rfl, c, hc, hw⟩
  · rw [n32 (by omega)] at hs
    exact Or.inl ⟨rfl, hs, fun j hj => ⟨by rw [hv j (by omega), low_at _ _ _ hj], by
      have e : cs.getD j 0 = cs[j] := by simp [List.getD_eq_getElem?_getD, hj]
      show ¬ 255 < cs.getD j 0
      rw [e]; exact h _ (List.getElem_mem _)⟩⟩
  · rw [n32 (by omega)] at hs
    obtain ⟨j, hj, rfl⟩ := List.getElem_of_mem hc
    exact Or.inr ⟨rfl, hs, fun j hj => ⟨by rw [hv _ (by omega), wide_lo _ _ _ hj], by rw [hv _ (by omega), wide_hi _ _ _ hj]⟩, j, hj, by
      have e : cs.getD j 0 = cs[j] := by simp [List.getD_eq_getElem?_getD, hj]
      show 255 < cs.getD j 0
      rw [e]; exact hw⟩
/-- an object of exactly java/lang/String, its two fields found: as the laws ask it -/
theorem strObj {Z U : State} {a0 : Array Value} {kI : Nat} (wi : (Jvm.Cond.instantiable ST kI).before a0 Z = true) (al : Z.vm.Alike U.vm) {x : Addr} {v0 c0 : Value} (E : RoadKit.Exa Z U.heap x ST) (V : RoadKit.Fld Z U.heap x ST "value" "[B" v0) (C : RoadKit.Fld Z U.heap x ST "coder" "B" c0) :
    ∃ (D : Cell) (fV fC : Field), Blank ST x D U ∧ Found ST "value" "[B" fV U ∧ Found ST "coder" "B" fC U ∧ D.slots[fV.slot]? = some v0 ∧ D.slots[fC.slot]? = some c0 ∧ RoadKit.slotOf Z ST "value" "[B" = fV.slot ∧ RoadKit.slotOf Z ST "coder" "B" = fC.slot := by
  obtain ⟨D, cfV, kV, iV, fV, hD, gV, stV, knV, obV, asV, slV⟩ := V
  obtain ⟨D', cfC, kC, iC, fC, hD', gC, stC, -, -, asC, slC⟩ := C
  cases hD.symm.trans hD'
  obtain ⟨D2, kD, e1, e2, e3, e4, e5⟩ := E
  cases hD.symm.trans e1
  obtain ⟨c2, k2, i1, i2, i3, -⟩ := Cond.instantiable_spec wi
  cases e2.symm.trans i1
  cases e3.symm.trans i2
  obtain ⟨kU, u1, u2⟩ := al.2.2 _ _ e3
  exact ⟨D, fV, fC, ⟨hD, ⟨knV, fun q hq => by rw [hq] at obV; cases obV⟩, by rw [al.findClass]; exact e2, kU, u1, by rw [u2]; exact i3, by rw [u2]; exact e5 i3⟩, ⟨SBG.found_only al ⟨cfV, kV, iV, gV⟩, stV⟩, ⟨SBG.found_only al ⟨cfC, kC, iC, gC⟩, stC⟩, slV, slC, by simp [RoadKit.slotOf, gV], by simp [RoadKit.slotOf, gC]⟩
theorem sta_is {Z U : State} (al : Z.vm.Alike U.vm) {C n d : String} {v : Value} (S : RoadKit.Sta Z U.heap C n d v) : StaticIs U C n d v := by
  obtain ⟨cfS, iS, kS, fS, st, cS, t1, t2, t3, t4, t5, t6, t7⟩ := S
  exact StaticIs.there (s := { Z with heap := U.heap }) ⟨cfS, iS, kS, fS, st, cS, t1, t2, t3, t4, t5, (fun q => by rw [q] at t6; cases t6), t7⟩ al rfl
/-- **length() OF SUCH A STRING** -/
theorem lenW {p : Program} {l : Launch} {e : Env} {R : Room} {s : State} {args : Array Value} {below : List Frame} {len W : Nat} {Z : State} {a0 : Array Value} {h : Heap} (hZ : Z.Warmed39 s.vm) (hw : ∀ d ∈ wordsLen, d.before a0 Z = true) {kI : Nat} (wi : (Jvm.Cond.instantiable ST kI).before a0 Z = true)
    {x t : Addr} {kb : ClassId} {cs : List Int32} {cd N2 z : Int32} {vs : List Value} (E : RoadKit.Exa Z h x ST) (V : RoadKit.Fld Z h x ST "value" "[B" (.ref t)) (C : RoadKit.Fld Z h x ST "coder" "B" (.int cd)) (K : RoadKit.Arv Z h t kb .byte N2 vs (.int 0)) (hc : CodA cs cd N2 vs) (hb : ∀ c ∈ cs, ¬ c < 0 ∧ ¬ (65535 : Int32) < c)
    (S : RoadKit.Sta Z h ST "COMPACT_STRINGS" "Z" (.int z)) (hz : ¬ z = 0) (l2 : cs.length ≤ 4000) (hfr : 2 ≤ R.frames) (hlo : W + 25 ≤ R.locals) :
    Back l R p e below s args (⟨"java/lang/String", "length", "()I"⟩ : MethodName) len W (fun P a => a = #[.ref x] ∧ P.U.heap = h ∧ P.cells + 0 ≤ R.cells ∧ P.slots + 0 ≤ R.slots)
      (fun P _ v B => ∃ L, (v = some (.int (Int32.ofNat cs.length)) ∧ L = [] ∧ B.U.heap = h) ∧ B.locs = P.locs ++ L ∧ B.cells = P.cells + 0 ∧ B.slots = P.slots + 0) := by
  obtain ⟨A, K1, K2, K3, K4, K5, K6⟩ := K
  have hcod := hc.cod (by omega) K3 K5
  intro m meth c P g ig mk a X hg hsize hdg hW hn hp'
  obtain ⟨rfl, rfl, r1, r2⟩ := hp'
  have al : Z.vm.Alike P.U.vm := hZ.alike.trans X.warmed.alike
  obtain ⟨D, fV, fC, hB, F1, F2, g1, g2, -, -⟩ := strObj wi al E V C
  have hx : Txt x t A cd cs.length (fun j => cs.getD j 0) P.U := ⟨⟨_, hB.2.2.1, D, hB.1, rfl, by cases q : D.vm <;> first | rfl | exact absurd q (hB.2.1.2 _)⟩, Has.of hB F1 g1, Has.of hB F2 g2, ⟨K1.1, State.isArrayOf_alike al K1.2.1, K1.2.2, by rcases hcod with ⟨-, q, -⟩ | ⟨-, q, -⟩ <;> omega⟩, hcod, fun j hj => by
    have e : cs.getD j 0 = cs[j] := by simp [List.getD_eq_getElem?_getD, hj]
    show ¬ cs.getD j 0 < 0 ∧ ¬ 65535 < cs.getD j 0
    rw [e]; exact hb _ (List.getElem_mem _)⟩
  obtain ⟨v, B, X', ⟨⟨hv, hh⟩, hl, hk, hs⟩, st⟩ := Len.pays x t A cd cs.length (fun j => cs.getD j 0) z (tabLen_of (movedLen hZ hw)) hfr hlo m meth c P g ig mk _ X hg hsize hdg hW hn ⟨r1, r2, rfl, hx, sta_is al S, hz⟩
  exact ⟨v, B, X', ⟨[], ⟨hv, rfl, hh⟩, hl, hk, hs⟩, st⟩
end StrChars.Road
end Jvm.Pilot.@@N@@
namespace Jvm.Pilot.@@N@@
open Jvm Jvm.ClassFile Sem Op Lib Jvm.Free Jvm.Stand Jvm.LawKit Jvm.RoadKit Bundle Jvm.Pilot.@@N@@.Jvm.D
abbrev oEL : List (String × Nat) := [("com/example/holdfast/holdfast/InvalidInputException", 28), ("java/lang/String", 7)]
theorem ow {Z : State} {a0 : Array Value} (hw : ∀ d ∈ tables_1, d.before a0 Z = true) (k : Nat) {d : Jvm.Cond} (h : tables_1[k]? = some d) : d.before a0 Z = true := hw d (List.mem_of_getElem? h)
abbrev oS (p : Program) (e : Env) (b : List Frame) (T : State) (f : JFrame) : State → Prop := Steps p.tables e b (T.setTop f)
abbrev rmk (a b c d : Nat) : Room := { frames := a, cells := b, slots := c, locals := d }
theorem own_d {B : ByteArray} {L : List (Nat × Instr × Nat)} (D : ∀ q ∈ L, decode B q.1 = .ok q.2) (k : Nat) {pc : Nat} {r : Instr × Nat} (h : L[k]? = some (pc, r)) : decode B pc = .ok r := D (pc, r) (List.mem_of_getElem? h)
theorem oh {c : Code} {B : ByteArray} (hby : c.code = B) {L : List (Nat × Instr × Nat)} (D : ∀ q ∈ L, decode B q.1 = .ok q.2) (k : Nat) {pc : Nat} {r : Instr × Nat} (h : L[k]? = some (pc, r)) : decode c.code pc = .ok r := hb hby (own_d D k h)
abbrev vI (x : Int32) : Slot := .val (.int x)
abbrev vR (x : Addr) : Slot := .val (.ref x)
abbrev HW (Z : State) (a0 : Array Value) : Prop := ∀ d ∈ tables_1, d.before a0 Z = true
abbrev sC (Z : State) (G : Int32) : Prop := Sta Z Z.heap "java/lang/String" "COMPACT_STRINGS" "Z" (.int G)
abbrev sF (Z : State) (v : Value) : Prop := Sta Z Z.heap "jdk/internal/util/Preconditions" "SIOOBE_FORMATTER" "Ljava/util/function/BiFunction;" v
abbrev sA (Z : State) : Prop := Sta Z Z.heap "java/lang/StringUTF16" "$assertionsDisabled" "Z" (.int 1)
abbrev sH (Z : State) : Prop := Sta Z Z.heap "java/lang/StringUTF16" "HI_BYTE_SHIFT" "I" (.int 0)
abbrev sL (Z : State) : Prop := Sta Z Z.heap "java/lang/StringUTF16" "LO_BYTE_SHIFT" "I" (.int 8)
abbrev fB (Z : State) (h : Heap) (a : Addr) (n d : String) (v : Value) : Prop := Fld Z h a "java/lang/AbstractStringBuilder" n d v
abbrev fV (Z : State) (h : Heap) (a : Addr) (v : Value) : Prop := Fld Z h a "java/lang/String" "value" "[B" v
abbrev fC (Z : State) (h : Heap) (a : Addr) (v : Value) : Prop := Fld Z h a "java/lang/String" "coder" "B" v
abbrev eS (Z : State) (h : Heap) (a : Addr) : Prop := Exa Z h a "java/lang/String"
abbrev mF (l : Launch) (y : MethodName) (B : ByteArray) (ml : Nat) (r : Option FieldType) (ws : List Jvm.Cond) (R : Room) (A : Array Value) (Z : State) (h0 : Heap) (Q : Option Value → Heap → List Loc → Prop) : Prop := MetFree l y (head1 (Jvm.Cond.code y B ml r :: ws) R) (fun a₁ U₁ => a₁ = A ∧ Z.Warmed39 U₁.vm ∧ U₁.heap = h0) (fun _ _ _ _ _ => True) (fun _ U₁ o₁ U₂ => ∃ v₁ L₁, o₁ = .returned v₁ ∧ Q v₁ U₂.heap L₁ ∧ FrameEnd U₁ o₁ U₂ L₁ R.cells R.slots)
theorem D0 : ∀ q ∈ ([(0, .iconst 0, 1), (1, .istore 5, 2), (3, .iload 5, 2), (5, .iload 4, 2), (7, .if_icmp .ge 37, 3), (10, .aload_n 0, 1), (11, .iload_n 1, 1), (12, .caload, 1), (13, .istore 6, 2), (15, .iload 6, 2), (17, .sipush 255, 3), (20, .if_icmp .le 6, 3), (23, .iload 5, 2), (25, .ireturn, 1), (26, .aload_n 2, 1), (27, .iload_n 3, 1), (28, .iload 6, 2), (30, .i2b, 1), (31, .bastore, 1), (32, .iinc 1 1, 3), (35, .iinc 3 1, 3), (38, .iinc 5 1, 3), (41, .goto (-38), 3), (44, .iload 4, 2), (46, .ireturn, 1)] : List (Nat × Instr × Nat)), decode jdk_52_method_21_code q.1 = .ok q.2 := by decide +kernel
theorem D1 : ∀ q ∈ ([(0, .getstatic 44, 3), (3, .ifCond .ne 25, 3), (28, .iload_n 1, 1), (29, .iconst 1, 1), (30, .ishl, 1), (31, .istore_n 1, 1), (32, .aload_n 0, 1), (33, .iload_n 1, 1), (34, .iinc 1 1, 3), (37, .iload_n 2, 1), (38, .getstatic 59, 3), (41, .ishr, 1), (42, .i2b, 1), (43, .bastore, 1), (44, .aload_n 0, 1), (45, .iload_n 1, 1), (46, .iload_n 2, 1), (47, .getstatic 63, 3), (50, .ishr, 1), (51, .i2b, 1), (52, .bastore, 1), (53, .return_, 1)] : List (Nat × Instr × Nat)), decode jdk_52_method_4_code q.1 = .ok q.2 := by decide +kernel
theorem D2 : ∀ q ∈ ([(0, .getstatic 44, 3), (3, .ifCond .ne 25, 3), (28, .iload_n 1, 1), (29, .iconst 1, 1), (30, .ishl, 1), (31, .istore_n 1, 1), (32, .aload_n 0, 1), (33, .iload_n 1, 1), (34, .iinc 1 1, 3), (37, .baload, 1), (38, .sipush 255, 3), (41, .iand, 1), (42, .getstatic 59, 3), (45, .ishl, 1), (46, .aload_n 0, 1), (47, .iload_n 1, 1), (48, .baload, 1), (49, .sipush 255, 3), (52, .iand, 1), (53, .getstatic 63, 3), (56, .ishl, 1), (57, .ior, 1), (58, .i2c, 1), (59, .ireturn, 1)] : List (Nat × Instr × Nat)), decode jdk_52_method_5_code q.1 = .ok q.2 := by decide +kernel
theorem D3 : ∀ q ∈ ([(0, .iload_n 0, 1), (1, .ifCond .ge 11, 3), (12, .iload_n 0, 1), (13, .ldc 20, 2), (15, .if_icmp .lt 40, 3), (55, .iload_n 0, 1), (56, .iconst 1, 1), (57, .ishl, 1), (58, .ireturn, 1)] : List (Nat × Instr × Nat)), decode jdk_52_method_3_code q.1 = .ok q.2 := by decide +kernel
theorem D4 : ∀ q ∈ ([(0, .iload_n 0, 1), (1, .invokestatic 11, 3), (4, .newarray .byte, 2), (6, .areturn, 1)] : List (Nat × Instr × Nat)), decode jdk_52_method_2_code q.1 = .ok q.2 := by decide +kernel
theorem D5 : ∀ q ∈ ([(0, .iload_n 2, 1), (1, .invokestatic 107, 3), (4, .astore_n 3, 1), (5, .iconst 0, 1), (6, .istore 4, 2), (8, .iload 4, 2), (10, .iload_n 2, 1), (11, .if_icmp .ge 21, 3), (14, .aload_n 3, 1), (15, .iload 4, 2), (17, .aload_n 0, 1), (18, .iload_n 1, 1), (19, .caload, 1), (20, .invokestatic 111, 3), (23, .iinc 1 1, 3), (26, .iinc 4 1, 3), (29, .goto (-21), 3), (32, .aload_n 3, 1), (33, .areturn, 1)] : List (Nat × Instr × Nat)), decode jdk_52_method_14_code q.1 = .ok q.2 := by decide +kernel
theorem D6 : ∀ q ∈ ([(0, .iload_n 2, 1), (1, .newarray .byte, 2), (3, .astore_n 3, 1), (4, .aload_n 0, 1), (5, .iload_n 1, 1), (6, .aload_n 3, 1), (7, .iconst 0, 1), (8, .iload_n 2, 1), (9, .invokestatic 115, 3), (12, .istore 4, 2), (14, .iload 4, 2), (16, .iload_n 2, 1), (17, .if_icmp .eq 40, 3), (20, .aload_n 0, 1), (21, .iload_n 1, 1), (22, .iload_n 2, 1), (23, .invokestatic 119, 3), (26, .astore 5, 2), (28, .aload 5, 2), (30, .iload 4, 2), (32, .invokestatic 71, 3), (35, .sipush 255, 3), (38, .if_icmp .gt 16, 3), (54, .aload 5, 2), (56, .areturn, 1), (57, .aload_n 3, 1), (58, .areturn, 1)] : List (Nat × Instr × Nat)), decode jdk_52_method_16_code q.1 = .ok q.2 := by decide +kernel
theorem D7 : ∀ q ∈ ([(0, .iload_n 1, 1), (1, .aload_n 0, 1), (2, .arraylength, 1), (3, .isub, 1), (4, .bipush 31, 2), (6, .iushr, 1), (7, .i2b, 1), (8, .ireturn, 1)] : List (Nat × Instr × Nat)), decode jdk_52_method_15_code q.1 = .ok q.2 := by decide +kernel
theorem D8 : ∀ q ∈ ([(0, .aload_n 0, 1), (1, .invokespecial 1, 3), (4, .iload_n 3, 1), (5, .ifCond .ne 22, 3), (8, .aload_n 0, 1), (9, .ldc 7, 2), (11, .getfield 9, 3), (14, .putfield 9, 3), (17, .aload_n 0, 1), (18, .ldc 7, 2), (20, .getfield 15, 3), (23, .putfield 15, 3), (26, .return_, 1), (27, .getstatic 38, 3), (30, .ifCond .eq 28, 3), (33, .aload_n 1, 1), (34, .iload_n 2, 1), (35, .iload_n 3, 1), (36, .invokestatic 177, 3), (39, .astore 5, 2), (41, .aload_n 0, 1), (42, .aload 5, 2), (44, .iload_n 3, 1), (45, .invokestatic 47, 3), (48, .putfield 15, 3), (51, .aload_n 0, 1), (52, .aload 5, 2), (54, .putfield 9, 3), (57, .return_, 1)] : List (Nat × Instr × Nat)), decode jdk_42_method_149_code q.1 = .ok q.2 := by decide +kernel
theorem D9 : ∀ q ∈ ([(0, .aload_n 0, 1), (1, .aload_n 1, 1), (2, .iconst 0, 1), (3, .aload_n 1, 1), (4, .arraylength, 1), (5, .aconst_null, 1), (6, .invokespecial 27, 3), (9, .return_, 1)] : List (Nat × Instr × Nat)), decode jdk_42_method_3_code q.1 = .ok q.2 := by decide +kernel
theorem D10 : ∀ q ∈ ([(0, .getstatic 38, 3), (3, .ifCond .eq 10, 3), (6, .aload_n 0, 1), (7, .getfield 15, 3), (10, .goto 4, 3), (14, .ireturn, 1)] : List (Nat × Instr × Nat)), decode jdk_42_method_152_code q.1 = .ok q.2 := by decide +kernel
theorem D11 : ∀ q ∈ ([(0, .getstatic 18, 3), (3, .ifCond .eq 14, 3), (6, .aload_n 0, 1), (7, .getfield 22, 3), (10, .ifCond .ne 7, 3), (13, .iconst 1, 1), (14, .goto 4, 3), (17, .iconst 0, 1), (18, .ireturn, 1)] : List (Nat × Instr × Nat)), decode jdk_68_method_68_code q.1 = .ok q.2 := by decide +kernel
theorem D12 : ∀ q ∈ ([(0, .aload_n 0, 1), (1, .getfield 15, 3), (4, .areturn, 1)] : List (Nat × Instr × Nat)), decode jdk_68_method_64_code q.1 = .ok q.2 := by decide +kernel
theorem D13 : ∀ q ∈ ([(0, .aload_n 0, 1), (1, .getfield 79, 3), (4, .ireturn, 1)] : List (Nat × Instr × Nat)), decode jdk_68_method_6_code q.1 = .ok q.2 := by decide +kernel
theorem D14 : ∀ q ∈ ([(0, .aload_n 0, 1), (1, .invokespecial 343, 3), (4, .ireturn, 1)] : List (Nat × Instr × Nat)), decode jdk_67_method_93_code q.1 = .ok q.2 := by decide +kernel
theorem D15 : ∀ q ∈ ([(0, .iload_n 2, 1), (1, .iload_n 0, 1), (2, .ior, 1), (3, .iload_n 1, 1), (4, .ior, 1), (5, .ifCond .lt 10, 3), (8, .iload_n 1, 1), (9, .iload_n 2, 1), (10, .iload_n 0, 1), (11, .isub, 1), (12, .if_icmp .le 11, 3), (23, .iload_n 0, 1), (24, .ireturn, 1)] : List (Nat × Instr × Nat)), decode jdk_41_method_13_code q.1 = .ok q.2 := by decide +kernel
theorem D16 : ∀ q ∈ ([(0, .iload_n 0, 1), (1, .iload_n 1, 1), (2, .iload_n 2, 1), (3, .getstatic 1053, 3), (6, .invokestatic 1065, 3), (9, .ireturn, 1)] : List (Nat × Instr × Nat)), decode jdk_42_method_157_code q.1 = .ok q.2 := by decide +kernel
theorem D17 : ∀ q ∈ ([(0, .aload_n 0, 1), (1, .arraylength, 1), (2, .iconst 1, 1), (3, .ishr, 1), (4, .ireturn, 1)] : List (Nat × Instr × Nat)), decode jdk_52_method_6_code q.1 = .ok q.2 := by decide +kernel
theorem D18 : ∀ q ∈ ([(0, .iload_n 0, 1), (1, .ifCond .lt 8, 3), (4, .iload_n 0, 1), (5, .iload_n 1, 1), (6, .if_icmp .lt 10, 3), (16, .iload_n 0, 1), (17, .ireturn, 1)] : List (Nat × Instr × Nat)), decode jdk_41_method_11_code q.1 = .ok q.2 := by decide +kernel
theorem D19 : ∀ q ∈ ([(0, .iload_n 0, 1), (1, .iload_n 1, 1), (2, .getstatic 1053, 3), (5, .invokestatic 1059, 3), (8, .pop, 1), (9, .return_, 1)] : List (Nat × Instr × Nat)), decode jdk_42_method_155_code q.1 = .ok q.2 := by decide +kernel
theorem D20 : ∀ q ∈ ([(0, .iload_n 0, 1), (1, .aload_n 1, 1), (2, .invokestatic 48, 3), (5, .invokestatic 414, 3), (8, .return_, 1)] : List (Nat × Instr × Nat)), decode jdk_52_method_91_code q.1 = .ok q.2 := by decide +kernel
theorem D21 : ∀ q ∈ ([(0, .iload_n 1, 1), (1, .aload_n 0, 1), (2, .invokestatic 67, 3), (5, .aload_n 0, 1), (6, .iload_n 1, 1), (7, .invokestatic 71, 3), (10, .ireturn, 1)] : List (Nat × Instr × Nat)), decode jdk_52_method_83_code q.1 = .ok q.2 := by decide +kernel
theorem D22 : ∀ q ∈ ([(0, .getstatic 38, 3), (3, .ifCond .eq 14, 3), (6, .aload_n 0, 1), (7, .getfield 15, 3), (10, .ifCond .ne 7, 3), (13, .iconst 1, 1), (14, .goto 4, 3), (17, .iconst 0, 1), (18, .ireturn, 1)] : List (Nat × Instr × Nat)), decode jdk_42_method_154_code q.1 = .ok q.2 := by decide +kernel
theorem D23 : ∀ q ∈ ([(0, .aload_n 0, 1), (1, .invokevirtual 492, 3), (4, .ifCond .eq 12, 3), (7, .aload_n 0, 1), (8, .getfield 9, 3), (11, .iload_n 1, 1), (12, .invokestatic 495, 3), (15, .ireturn, 1), (16, .aload_n 0, 1), (17, .getfield 9, 3), (20, .iload_n 1, 1), (21, .invokestatic 498, 3), (24, .ireturn, 1)] : List (Nat × Instr × Nat)), decode jdk_42_method_56_code q.1 = .ok q.2 := by decide +kernel
theorem D24 : ∀ q ∈ ([(0, .iload_n 1, 1), (1, .aload_n 0, 1), (2, .arraylength, 1), (3, .invokestatic 9, 3), (6, .aload_n 0, 1), (7, .iload_n 1, 1), (8, .baload, 1), (9, .sipush 255, 3), (12, .iand, 1), (13, .i2c, 1), (14, .ireturn, 1)] : List (Nat × Instr × Nat)), decode jdk_43_method_2_code q.1 = .ok q.2 := by decide +kernel
theorem D25 : ∀ q ∈ ([(0, .iload_n 1, 1), (1, .iload_n 0, 1), (2, .if_icmp .ge 35, 3), (37, .return_, 1)] : List (Nat × Instr × Nat)), decode jdk_65_method_131_code q.1 = .ok q.2 := by decide +kernel
theorem D26 : ∀ q ∈ ([(0, .iload_n 0, 1), (1, .iload_n 1, 1), (2, .if_icmp .gt 7, 3), (5, .iload_n 0, 1), (6, .goto 4, 3), (9, .iload_n 1, 1), (10, .ireturn, 1)] : List (Nat × Instr × Nat)), decode jdk_29_method_69_code q.1 = .ok q.2 := by decide +kernel
theorem D27 : ∀ q ∈ ([(0, .iload_n 1, 1), (1, .iload_n 2, 1), (2, .invokestatic 343, 3), (5, .iload_n 2, 1), (6, .iload_n 1, 1), (7, .isub, 1), (8, .istore_n 3, 1), (9, .iload_n 3, 1), (10, .newarray .byte, 2), (12, .astore 4, 2), (14, .aload_n 0, 1), (15, .iload_n 1, 1), (16, .aload 4, 2), (18, .iconst 0, 1), (19, .aload_n 0, 1), (20, .arraylength, 1), (21, .iload_n 1, 1), (22, .isub, 1), (23, .iload_n 3, 1), (24, .invokestatic 304, 3), (27, .invokestatic 150, 3), (30, .aload 4, 2), (32, .areturn, 1)] : List (Nat × Instr × Nat)), decode jdk_65_method_133_code q.1 = .ok q.2 := by decide +kernel
theorem D28 : ∀ q ∈ ([(0, .iload_n 1, 1), (1, .ifCond .ne 9, 3), (4, .iload_n 2, 1), (5, .aload_n 0, 1), (6, .arraylength, 1), (7, .if_icmp .eq 10, 3), (10, .aload_n 0, 1), (11, .iload_n 1, 1), (12, .iload_n 2, 1), (13, .invokestatic 339, 3), (16, .areturn, 1)] : List (Nat × Instr × Nat)), decode jdk_65_method_132_code q.1 = .ok q.2 := by decide +kernel
theorem D29 : ∀ q ∈ ([(0, .iload_n 1, 1), (1, .aload_n 0, 1), (2, .arraylength, 1), (3, .if_icmp .ne 11, 3), (14, .iload_n 1, 1), (15, .newarray .byte, 2), (17, .astore_n 2, 1), (18, .aload_n 0, 1), (19, .iconst 0, 1), (20, .aload_n 2, 1), (21, .iconst 0, 1), (22, .aload_n 0, 1), (23, .arraylength, 1), (24, .iload_n 1, 1), (25, .invokestatic 304, 3), (28, .invokestatic 150, 3), (31, .aload_n 2, 1), (32, .areturn, 1)] : List (Nat × Instr × Nat)), decode jdk_65_method_121_code q.1 = .ok q.2 := by decide +kernel
theorem D30 : ∀ q ∈ ([(0, .iload_n 0, 1), (1, .ifCond .lt 13, 3), (4, .iload_n 0, 1), (5, .iload_n 1, 1), (6, .if_icmp .gt 8, 3), (9, .iload_n 1, 1), (10, .iload_n 2, 1), (11, .if_icmp .le 11, 3), (22, .iload_n 0, 1), (23, .ireturn, 1)] : List (Nat × Instr × Nat)), decode jdk_41_method_12_code q.1 = .ok q.2 := by decide +kernel
theorem D31 : ∀ q ∈ ([(0, .iload_n 0, 1), (1, .iload_n 1, 1), (2, .iload_n 2, 1), (3, .getstatic 1053, 3), (6, .invokestatic 1062, 3), (9, .pop, 1), (10, .return_, 1)] : List (Nat × Instr × Nat)), decode jdk_42_method_158_code q.1 = .ok q.2 := by decide +kernel
theorem D32 : ∀ q ∈ ([(0, .aload_n 0, 1), (1, .invokespecial 1, 3), (4, .aload_n 0, 1), (5, .aload_n 1, 1), (6, .putfield 9, 3), (9, .aload_n 0, 1), (10, .iload_n 2, 1), (11, .putfield 15, 3), (14, .return_, 1)] : List (Nat × Instr × Nat)), decode jdk_42_method_151_code q.1 = .ok q.2 := by decide +kernel
theorem D33 : ∀ q ∈ ([(0, .iload_n 2, 1), (1, .ifCond .ne 6, 3), (7, .new 1, 3), (10, .dup, 1), (11, .aload_n 0, 1), (12, .iload_n 1, 1), (13, .iload_n 1, 1), (14, .iload_n 2, 1), (15, .iadd, 1), (16, .invokestatic 232, 3), (19, .iconst 0, 1), (20, .invokespecial 112, 3), (23, .areturn, 1)] : List (Nat × Instr × Nat)), decode jdk_43_method_47_code q.1 = .ok q.2 := by decide +kernel
theorem D34 : ∀ q ∈ ([(0, .iload_n 0, 1), (1, .iload_n 1, 1), (2, .aload_n 2, 1), (3, .invokestatic 48, 3), (6, .invokestatic 419, 3), (9, .pop, 1), (10, .return_, 1)] : List (Nat × Instr × Nat)), decode jdk_52_method_94_code q.1 = .ok q.2 := by decide +kernel
theorem D35 : ∀ q ∈ ([(0, .iload_n 1, 1), (1, .iload 4, 2), (3, .aload_n 0, 1), (4, .invokestatic 173, 3), (7, .iconst 0, 1), (8, .istore 5, 2), (10, .iload 5, 2), (12, .iload 4, 2), (14, .if_icmp .ge 39, 3), (17, .aload_n 0, 1), (18, .iload_n 1, 1), (19, .invokestatic 71, 3), (22, .istore 6, 2), (24, .iload 6, 2), (26, .sipush 255, 3), (29, .if_icmp .le 6, 3), (32, .iload 5, 2), (34, .ireturn, 1), (35, .aload_n 2, 1), (36, .iload_n 3, 1), (37, .iload 6, 2), (39, .i2b, 1), (40, .bastore, 1), (41, .iinc 1 1, 3), (44, .iinc 3 1, 3), (47, .iinc 5 1, 3), (50, .goto (-40), 3), (53, .iload 4, 2), (55, .ireturn, 1)] : List (Nat × Instr × Nat)), decode jdk_52_method_22_code q.1 = .ok q.2 := by decide +kernel
theorem D36 : ∀ q ∈ ([(0, .iload_n 2, 1), (1, .newarray .byte, 2), (3, .astore_n 3, 1), (4, .aload_n 0, 1), (5, .iload_n 1, 1), (6, .aload_n 3, 1), (7, .iconst 0, 1), (8, .iload_n 2, 1), (9, .invokestatic 123, 3), (12, .istore 4, 2), (14, .iload 4, 2), (16, .iload_n 2, 1), (17, .if_icmp .eq 47, 3), (20, .aload_n 0, 1), (21, .iload_n 1, 1), (22, .iconst 1, 1), (23, .ishl, 1), (24, .iload_n 1, 1), (25, .iload_n 2, 1), (26, .iadd, 1), (27, .invokestatic 11, 3), (30, .invokestatic 126, 3), (33, .astore 5, 2), (35, .aload 5, 2), (37, .iload 4, 2), (39, .invokestatic 71, 3), (42, .sipush 255, 3), (45, .if_icmp .gt 16, 3), (61, .aload 5, 2), (63, .areturn, 1), (64, .aload_n 3, 1), (65, .areturn, 1)] : List (Nat × Instr × Nat)), decode jdk_52_method_17_code q.1 = .ok q.2 := by decide +kernel
theorem D37 : ∀ q ∈ ([(0, .iload_n 2, 1), (1, .ifCond .ne 7, 3), (8, .getstatic 251, 3), (11, .ifCond .eq 28, 3), (14, .aload_n 0, 1), (15, .iload_n 1, 1), (16, .iload_n 2, 1), (17, .invokestatic 257, 3), (20, .astore_n 3, 1), (21, .aload_n 3, 1), (22, .iload_n 2, 1), (23, .invokestatic 259, 3), (26, .istore 4, 2), (28, .new 3, 3), (31, .dup, 1), (32, .aload_n 3, 1), (33, .iload 4, 2), (35, .invokespecial 263, 3), (38, .areturn, 1)] : List (Nat × Instr × Nat)), decode jdk_52_method_69_code q.1 = .ok q.2 := by decide +kernel
theorem D38 : ∀ q ∈ ([(0, .aload_n 0, 1), (1, .invokevirtual 505, 3), (4, .istore_n 3, 1), (5, .iload_n 1, 1), (6, .iload_n 2, 1), (7, .iload_n 3, 1), (8, .invokestatic 521, 3), (11, .iload_n 1, 1), (12, .ifCond .ne 10, 3), (15, .iload_n 2, 1), (16, .iload_n 3, 1), (17, .if_icmp .ne 5, 3), (22, .iload_n 2, 1), (23, .iload_n 1, 1), (24, .isub, 1), (25, .istore 4, 2), (27, .aload_n 0, 1), (28, .invokevirtual 492, 3), (31, .ifCond .eq 16, 3), (34, .aload_n 0, 1), (35, .getfield 9, 3), (38, .iload_n 1, 1), (39, .iload 4, 2), (41, .invokestatic 685, 3), (44, .goto 13, 3), (47, .aload_n 0, 1), (48, .getfield 9, 3), (51, .iload_n 1, 1), (52, .iload 4, 2), (54, .invokestatic 689, 3), (57, .areturn, 1)] : List (Nat × Instr × Nat)), decode jdk_42_method_92_code q.1 = .ok q.2 := by decide +kernel
theorem D39 : ∀ q ∈ ([(0, .aload_n 0, 1), (1, .invokespecial 3, 3), (4, .getstatic 18, 3), (7, .ifCond .eq 18, 3), (10, .aload_n 0, 1), (11, .iload_n 1, 1), (12, .newarray .byte, 2), (14, .putfield 15, 3), (17, .aload_n 0, 1), (18, .iconst 0, 1), (19, .putfield 22, 3), (22, .goto 16, 3), (38, .return_, 1)] : List (Nat × Instr × Nat)), decode jdk_68_method_2_code q.1 = .ok q.2 := by decide +kernel
theorem D40 : ∀ q ∈ ([(0, .aload_n 0, 1), (1, .bipush 16, 2), (3, .invokespecial 1, 3), (6, .return_, 1)] : List (Nat × Instr × Nat)), decode jdk_67_method_1_code q.1 = .ok q.2 := by decide +kernel
theorem D41 : ∀ q ∈ ([(0, .iload_n 0, 1), (1, .iload_n 1, 1), (2, .if_icmp .lt 7, 3), (5, .iload_n 0, 1), (6, .goto 4, 3), (9, .iload_n 1, 1), (10, .ireturn, 1)] : List (Nat × Instr × Nat)), decode jdk_29_method_65_code q.1 = .ok q.2 := by decide +kernel
theorem D42 : ∀ q ∈ ([(0, .iload_n 0, 1), (1, .iload_n 1, 1), (2, .iload_n 2, 1), (3, .invokestatic 194, 3), (6, .iadd, 1), (7, .istore_n 3, 1), (8, .iconst 0, 1), (9, .iload_n 3, 1), (10, .if_icmp .ge 11, 3), (13, .iload_n 3, 1), (14, .ldc 200, 2), (16, .if_icmp .gt 5, 3), (19, .iload_n 3, 1), (20, .ireturn, 1)] : List (Nat × Instr × Nat)), decode jdk_48_method_27_code q.1 = .ok q.2 := by decide +kernel
theorem D43 : ∀ q ∈ ([(0, .aload_n 0, 1), (1, .getfield 15, 3), (4, .arraylength, 1), (5, .istore_n 2, 1), (6, .iload_n 1, 1), (7, .aload_n 0, 1), (8, .getfield 22, 3), (11, .ishl, 1), (12, .istore_n 3, 1), (13, .iload_n 3, 1), (14, .iload_n 2, 1), (15, .isub, 1), (16, .istore 4, 2), (18, .iload_n 2, 1), (19, .iload 4, 2), (21, .iload_n 2, 1), (22, .iconst 2, 1), (23, .aload_n 0, 1), (24, .getfield 22, 3), (27, .ishl, 1), (28, .iadd, 1), (29, .invokestatic 114, 3), (32, .istore 5, 2), (34, .iload 5, 2), (36, .ldc 39, 2), (38, .if_icmp .ne 13, 3), (51, .iload 5, 2), (53, .aload_n 0, 1), (54, .getfield 22, 3), (57, .ishr, 1), (58, .ireturn, 1)] : List (Nat × Instr × Nat)), decode jdk_68_method_10_code q.1 = .ok q.2 := by decide +kernel
theorem D44 : ∀ q ∈ ([(0, .aload_n 0, 1), (1, .getfield 15, 3), (4, .arraylength, 1), (5, .aload_n 0, 1), (6, .getfield 22, 3), (9, .ishr, 1), (10, .istore_n 2, 1), (11, .iload_n 1, 1), (12, .iload_n 2, 1), (13, .isub, 1), (14, .ifCond .le 24, 3), (17, .aload_n 0, 1), (18, .aload_n 0, 1), (19, .getfield 15, 3), (22, .aload_n 0, 1), (23, .iload_n 1, 1), (24, .invokevirtual 104, 3), (27, .aload_n 0, 1), (28, .getfield 22, 3), (31, .ishl, 1), (32, .invokestatic 108, 3), (35, .putfield 15, 3), (38, .return_, 1)] : List (Nat × Instr × Nat)), decode jdk_68_method_9_code q.1 = .ok q.2 := by decide +kernel
theorem D45 : ∀ q ∈ ([(0, .iload_n 3, 1), (1, .iload 4, 2), (3, .aload_n 2, 1), (4, .invokestatic 173, 3), (7, .iconst 0, 1), (8, .istore 5, 2), (10, .iload 5, 2), (12, .iload 4, 2), (14, .if_icmp .ge 27, 3), (17, .aload_n 2, 1), (18, .iload_n 3, 1), (19, .iinc 3 1, 3), (22, .aload_n 0, 1), (23, .iload_n 1, 1), (24, .iinc 1 1, 3), (27, .baload, 1), (28, .sipush 255, 3), (31, .iand, 1), (32, .invokestatic 111, 3), (35, .iinc 5 1, 3), (38, .goto (-28), 3), (41, .return_, 1)] : List (Nat × Instr × Nat)), decode jdk_52_method_86_code q.1 = .ok q.2 := by decide +kernel
theorem D46 : ∀ q ∈ ([(0, .aload_n 0, 1), (1, .iload_n 1, 1), (2, .aload_n 2, 1), (3, .iload_n 3, 1), (4, .iload 4, 2), (6, .invokestatic 240, 3), (9, .return_, 1)] : List (Nat × Instr × Nat)), decode jdk_43_method_50_code q.1 = .ok q.2 := by decide +kernel
theorem D47 : ∀ q ∈ ([(0, .aload_n 0, 1), (1, .invokevirtual 83, 3), (4, .ifCond .ne 4, 3), (7, .return_, 1), (8, .aload_n 0, 1), (9, .getfield 15, 3), (12, .arraylength, 1), (13, .invokestatic 26, 3), (16, .astore_n 1, 1), (17, .aload_n 0, 1), (18, .getfield 15, 3), (21, .iconst 0, 1), (22, .aload_n 1, 1), (23, .iconst 0, 1), (24, .aload_n 0, 1), (25, .getfield 79, 3), (28, .invokestatic 125, 3), (31, .aload_n 0, 1), (32, .aload_n 1, 1), (33, .putfield 15, 3), (36, .aload_n 0, 1), (37, .iconst 1, 1), (38, .putfield 22, 3), (41, .return_, 1)] : List (Nat × Instr × Nat)), decode jdk_68_method_11_code q.1 = .ok q.2 := by decide +kernel
theorem D48 : ∀ q ∈ ([(0, .getstatic 18, 3), (3, .ifCond .eq 18, 3), (6, .aload_n 0, 1), (7, .getfield 22, 3), (10, .aload_n 1, 1), (11, .invokevirtual 40, 3), (14, .if_icmp .eq 7, 3), (17, .aload_n 0, 1), (18, .invokevirtual 195, 3), (21, .return_, 1)] : List (Nat × Instr × Nat)), decode jdk_68_method_71_code q.1 = .ok q.2 := by decide +kernel
theorem D49 : ∀ q ∈ ([(0, .aload_n 0, 1), (1, .invokevirtual 335, 3), (4, .iload_n 3, 1), (5, .if_icmp .ne 23, 3), (8, .aload_n 0, 1), (9, .getfield 9, 3), (12, .iconst 0, 1), (13, .aload_n 1, 1), (14, .iload_n 2, 1), (15, .iload_n 3, 1), (16, .ishl, 1), (17, .aload_n 0, 1), (18, .getfield 9, 3), (21, .arraylength, 1), (22, .invokestatic 212, 3), (25, .goto 18, 3), (28, .aload_n 0, 1), (29, .getfield 9, 3), (32, .iconst 0, 1), (33, .aload_n 1, 1), (34, .iload_n 2, 1), (35, .aload_n 0, 1), (36, .getfield 9, 3), (39, .arraylength, 1), (40, .invokestatic 106, 3), (43, .return_, 1)] : List (Nat × Instr × Nat)), decode jdk_42_method_147_code q.1 = .ok q.2 := by decide +kernel
theorem D50 : ∀ q ∈ ([(0, .aload_n 0, 1), (1, .aload_n 2, 1), (2, .invokevirtual 397, 3), (5, .aload_n 2, 1), (6, .aload_n 0, 1), (7, .getfield 15, 3), (10, .iload_n 1, 1), (11, .aload_n 0, 1), (12, .getfield 22, 3), (15, .invokevirtual 399, 3), (18, .return_, 1)] : List (Nat × Instr × Nat)), decode jdk_68_method_73_code q.1 = .ok q.2 := by decide +kernel
theorem D51 : ∀ q ∈ ([(0, .aload_n 1, 1), (1, .ifnonnull 8, 3), (9, .aload_n 1, 1), (10, .invokevirtual 32, 3), (13, .istore_n 2, 1), (14, .aload_n 0, 1), (15, .aload_n 0, 1), (16, .getfield 79, 3), (19, .iload_n 2, 1), (20, .iadd, 1), (21, .invokevirtual 100, 3), (24, .aload_n 0, 1), (25, .aload_n 0, 1), (26, .getfield 79, 3), (29, .aload_n 1, 1), (30, .invokevirtual 208, 3), (33, .aload_n 0, 1), (34, .dup, 1), (35, .getfield 79, 3), (38, .iload_n 2, 1), (39, .iadd, 1), (40, .putfield 79, 3), (43, .aload_n 0, 1), (44, .areturn, 1)] : List (Nat × Instr × Nat)), decode jdk_68_method_22_code q.1 = .ok q.2 := by decide +kernel
theorem D52 : ∀ q ∈ ([(0, .aload_n 0, 1), (1, .aload_n 1, 1), (2, .invokespecial 29, 3), (5, .pop, 1), (6, .aload_n 0, 1), (7, .areturn, 1)] : List (Nat × Instr × Nat)), decode jdk_67_method_7_code q.1 = .ok q.2 := by decide +kernel
theorem D53 : ∀ q ∈ ([(0, .aload_n 0, 1), (1, .invokespecial 1, 3), (4, .aload_n 1, 1), (5, .invokevirtual 552, 3), (8, .astore_n 3, 1), (9, .aload_n 1, 1), (10, .invokevirtual 549, 3), (13, .istore 4, 2), (15, .aload_n 1, 1), (16, .invokevirtual 1047, 3), (19, .ifCond .eq 22, 3), (22, .aload_n 0, 1), (23, .iconst 0, 1), (24, .putfield 15, 3), (27, .aload_n 0, 1), (28, .aload_n 3, 1), (29, .iconst 0, 1), (30, .iload 4, 2), (32, .invokestatic 54, 3), (35, .putfield 9, 3), (38, .goto 59, 3), (41, .getstatic 38, 3), (44, .ifCond .eq 35, 3), (47, .aload_n 1, 1), (48, .getfield 1048, 3), (51, .ifCond .eq 28, 3), (79, .aload_n 0, 1), (80, .iconst 1, 1), (81, .putfield 15, 3), (84, .aload_n 0, 1), (85, .aload_n 3, 1), (86, .iconst 0, 1), (87, .iload 4, 2), (89, .iconst 1, 1), (90, .ishl, 1), (91, .invokestatic 54, 3), (94, .putfield 9, 3), (97, .return_, 1)] : List (Nat × Instr × Nat)), decode jdk_42_method_150_code q.1 = .ok q.2 := by decide +kernel
theorem D54 : ∀ q ∈ ([(0, .aload_n 0, 1), (1, .aload_n 1, 1), (2, .aconst_null, 1), (3, .invokespecial 489, 3), (6, .return_, 1)] : List (Nat × Instr × Nat)), decode jdk_42_method_53_code q.1 = .ok q.2 := by decide +kernel
theorem D55 : ∀ q ∈ ([(0, .new 18, 3), (3, .dup, 1), (4, .aload_n 0, 1), (5, .invokespecial 137, 3), (8, .areturn, 1)] : List (Nat × Instr × Nat)), decode jdk_67_method_42_code q.1 = .ok q.2 := by decide +kernel
theorem D56 : ∀ q ∈ ([(0, .aload_n 0, 1), (1, .invokevirtual 7, 3), (4, .bipush 40, 2), (6, .if_icmp .gt 7, 3), (9, .aload_n 0, 1), (10, .goto 28, 3), (13, .new 15, 3), (16, .dup, 1), (17, .invokespecial 17, 3), (20, .aload_n 0, 1), (21, .iconst 0, 1), (22, .bipush 40, 2), (24, .invokevirtual 20, 3), (27, .invokevirtual 24, 3), (30, .ldc 28, 2), (32, .invokevirtual 24, 3), (35, .invokevirtual 30, 3), (38, .areturn, 1)] : List (Nat × Instr × Nat)), decode prog_7_method_2_code q.1 = .ok q.2 := by decide +kernel
theorem D57 : ∀ q ∈ ([(0, .aload_n 0, 1), (1, .aload_n 1, 1), (2, .if_acmp .ne 5, 3), (5, .iconst 1, 1), (6, .ireturn, 1)] : List (Nat × Instr × Nat)), decode jdk_42_method_66_code q.1 = .ok q.2 := by decide +kernel
abbrev y_0 : MethodName := ⟨"java/lang/StringUTF16", "compress", "([CI[BII)I"⟩
abbrev y_1 : MethodName := ⟨"java/lang/StringUTF16", "putChar", "([BII)V"⟩
abbrev y_2 : MethodName := ⟨"java/lang/StringUTF16", "getChar", "([BI)C"⟩
abbrev y_3 : MethodName := ⟨"java/lang/StringUTF16", "newBytesLength", "(I)I"⟩
abbrev y_4 : MethodName := ⟨"java/lang/StringUTF16", "newBytesFor", "(I)[B"⟩
abbrev y_5 : MethodName := ⟨"java/lang/StringUTF16", "toBytes", "([CII)[B"⟩
abbrev y_6 : MethodName := ⟨"java/lang/StringUTF16", "compress", "([CII)[B"⟩
abbrev y_7 : MethodName := ⟨"java/lang/StringUTF16", "coderFromArrayLen", "([BI)B"⟩
abbrev y_8 : MethodName := ⟨"java/lang/String", "<init>", "([CIILjava/lang/Void;)V"⟩
abbrev y_9 : MethodName := ⟨"java/lang/String", "<init>", "([C)V"⟩
abbrev y_10 : MethodName := ⟨"java/lang/String", "coder", "()B"⟩
abbrev y_11 : MethodName := ⟨"java/lang/AbstractStringBuilder", "isLatin1", "()Z"⟩
abbrev y_12 : MethodName := ⟨"java/lang/AbstractStringBuilder", "getValue", "()[B"⟩
abbrev y_13 : MethodName := ⟨"java/lang/AbstractStringBuilder", "length", "()I"⟩
abbrev y_14 : MethodName := ⟨"java/lang/StringBuilder", "length", "()I"⟩
abbrev y_15 : MethodName := ⟨"java/lang/AbstractStringBuilder", "ensureCapacityInternal", "(I)V"⟩
abbrev y_16 : MethodName := ⟨"jdk/internal/util/Preconditions", "checkFromIndexSize", "(IIILjava/util/function/BiFunction;)I"⟩
abbrev y_17 : MethodName := ⟨"java/lang/String", "checkBoundsOffCount", "(III)I"⟩
abbrev y_18 : MethodName := ⟨"java/lang/StringUTF16", "length", "([B)I"⟩
abbrev y_19 : MethodName := ⟨"jdk/internal/util/Preconditions", "checkIndex", "(IILjava/util/function/BiFunction;)I"⟩
abbrev y_20 : MethodName := ⟨"java/lang/String", "checkIndex", "(II)V"⟩
abbrev y_21 : MethodName := ⟨"java/lang/StringUTF16", "checkIndex", "(I[B)V"⟩
abbrev y_22 : MethodName := ⟨"java/lang/StringUTF16", "charAt", "([BI)C"⟩
abbrev y_23 : MethodName := ⟨"java/lang/String", "isLatin1", "()Z"⟩
abbrev y_24 : MethodName := ⟨"java/lang/String", "charAt", "(I)C"⟩
abbrev y_25 : MethodName := ⟨"java/lang/StringLatin1", "charAt", "([BI)C"⟩
abbrev y_26 : MethodName := ⟨"java/util/Arrays", "checkLength", "(II)V"⟩
abbrev y_27 : MethodName := ⟨"java/lang/Math", "min", "(II)I"⟩
abbrev y_28 : MethodName := ⟨"java/util/Arrays", "copyOfRangeByte", "([BII)[B"⟩
abbrev y_29 : MethodName := ⟨"java/util/Arrays", "copyOfRange", "([BII)[B"⟩
abbrev y_30 : MethodName := ⟨"java/util/Arrays", "copyOf", "([BI)[B"⟩
abbrev y_31 : MethodName := ⟨"jdk/internal/util/Preconditions", "checkFromToIndex", "(IIILjava/util/function/BiFunction;)I"⟩
abbrev y_32 : MethodName := ⟨"java/lang/String", "checkBoundsBeginEnd", "(III)V"⟩
abbrev y_33 : MethodName := ⟨"java/lang/String", "<init>", "([BB)V"⟩
abbrev y_34 : MethodName := ⟨"java/lang/StringLatin1", "newString", "([BII)Ljava/lang/String;"⟩
abbrev y_35 : MethodName := ⟨"java/lang/StringUTF16", "checkBoundsOffCount", "(II[B)V"⟩
abbrev y_36 : MethodName := ⟨"java/lang/StringUTF16", "compress", "([BI[BII)I"⟩
abbrev y_37 : MethodName := ⟨"java/lang/StringUTF16", "compress", "([BII)[B"⟩
abbrev y_38 : MethodName := ⟨"java/lang/StringUTF16", "newString", "([BII)Ljava/lang/String;"⟩
abbrev y_39 : MethodName := ⟨"java/lang/String", "substring", "(II)Ljava/lang/String;"⟩
abbrev y_40 : MethodName := ⟨"java/lang/String", "length", "()I"⟩
abbrev y_41 : MethodName := ⟨"java/lang/AbstractStringBuilder", "<init>", "(I)V"⟩
abbrev y_42 : MethodName := ⟨"java/lang/StringBuilder", "<init>", "()V"⟩
abbrev y_43 : MethodName := ⟨"java/lang/Math", "max", "(II)I"⟩
abbrev y_44 : MethodName := ⟨"jdk/internal/util/ArraysSupport", "newLength", "(III)I"⟩
abbrev y_45 : MethodName := ⟨"java/lang/AbstractStringBuilder", "newCapacity", "(I)I"⟩
abbrev y_46 : MethodName := ⟨"java/lang/StringUTF16", "inflate", "([BI[BII)V"⟩
abbrev y_47 : MethodName := ⟨"java/lang/StringLatin1", "inflate", "([BI[BII)V"⟩
abbrev y_48 : MethodName := ⟨"java/lang/AbstractStringBuilder", "inflate", "()V"⟩
abbrev y_49 : MethodName := ⟨"java/lang/AbstractStringBuilder", "inflateIfNeededFor", "(Ljava/lang/String;)V"⟩
abbrev y_50 : MethodName := ⟨"java/lang/String", "getBytes", "([BIB)V"⟩
abbrev y_51 : MethodName := ⟨"java/lang/AbstractStringBuilder", "putStringAt", "(ILjava/lang/String;)V"⟩
abbrev y_52 : MethodName := ⟨"java/lang/AbstractStringBuilder", "append", "(Ljava/lang/String;)Ljava/lang/AbstractStringBuilder;"⟩
abbrev y_53 : MethodName := ⟨"java/lang/StringBuilder", "append", "(Ljava/lang/String;)Ljava/lang/StringBuilder;"⟩
abbrev y_54 : MethodName := ⟨"java/lang/String", "<init>", "(Ljava/lang/AbstractStringBuilder;Ljava/lang/Void;)V"⟩
abbrev y_55 : MethodName := ⟨"java/lang/String", "<init>", "(Ljava/lang/StringBuilder;)V"⟩
abbrev y_56 : MethodName := ⟨"java/lang/StringBuilder", "toString", "()Ljava/lang/String;"⟩
abbrev y_57 : MethodName := ⟨"com/example/holdfast/holdfast/InvalidInputException", "quoted", "(Ljava/lang/String;)Ljava/lang/String;"⟩
abbrev y_58 : MethodName := ⟨"java/lang/String", "equals", "(Ljava/lang/Object;)Z"⟩
theorem own_up (cs : List Int32) (h : ∀ c ∈ cs, ¬ c < 0 ∧ ¬ (255 : Int32) < c) : ∀ c ∈ cs, ¬ c < 0 ∧ ¬ (65535 : Int32) < c := fun c hc => ⟨(h c hc).1, fun q => (h c hc).2 (by rw [Int32.lt_iff_toInt_lt] at q ⊢; have e1 : (65535 : Int32).toInt = 65535 := rfl; have e2 : (255 : Int32).toInt = 255 := rfl; omega)⟩
theorem own_hw_lenW {Z : State} {a0 : Array Value} (hw : HW Z a0) : ∀ d ∈ StrChars.Road.wordsLen, d.before a0 Z = true := fun d hd => hw d ((by decide +kernel : ∀ d ∈ StrChars.Road.wordsLen, d ∈ tables_1) d hd)
theorem own_safe_null {Z : State} {EL : List (String × Nat)} {vm : Vm} {h : Heap} {x : Addr} (hal : Z.vm.Alike vm) (E : eS Z h x) (F : fV Z h x .null) : Safe Z EL vm h x := fun B => by
  obtain ⟨cell, cf, k, i, f, h1, h2, h3, -, -, -, h7⟩ := F
  obtain ⟨p, -, u, a, -, q, -, FF, rfl | rfl⟩ := B
  · cases (show h[q.sa]? = some q.sC from FF.ha).symm.trans h1
    obtain ⟨cS, ⟨⟨-, -, -, ⟨c1, k1, i1, f1, -⟩, -, -, -, v1, -⟩, -⟩, -⟩ := FF
    obtain ⟨k3, e3⟩ := ff_back (U := Wst Z vm h) hal f1
    cases h2.symm.trans e3
    rw [v1] at h7
    cases h7
  · cases (show h[q.sd]? = some q.SA from FF.hd).symm.trans h1
    obtain ⟨cS, -, -, fB, -⟩ := FF
    obtain ⟨cell2, kk, e1, e2, e3, -, -⟩ := E
    cases h1.symm.trans e1
    have fB' : vm.findClass "[B" = some q.SA.cls := fB
    rw [hal.findClass] at fB'
    obtain ⟨k1, q1, q2⟩ := Vm.findClass_spec fB'
    obtain ⟨k2, q3, q4⟩ := Vm.findClass_spec e2
    cases q1.symm.trans q3
    exact absurd (q2.symm.trans q4) (by decide)
theorem own_hw_str {Z : State} {a0 : Array Value} (hw : HW Z a0) : ∀ d ∈ Bundle.stringAtoms, d.before a0 Z = true := fun d hd => hw d ((by decide +kernel : ∀ d ∈ Bundle.stringAtoms, d ∈ tables_1) d hd)
theorem own_EW {Z : State} {a0 : Array Value} (hw : HW Z a0) : EW Z a0 oEL := (EW.cons (ow hw 169 rfl) (by decide) (EW.cons (ow hw 15 rfl) (by decide) EW.nil))
theorem own_clamp {j : Nat} (h : j < 2 ^ 31) : (Int32.ofNat j).toNatClampNeg = j := clamp_of rfl h
theorem own_toInt {j : Nat} (h : j < 2 ^ 31) : (Int32.ofNat j).toInt = (j : Int) := toInt_of rfl h
theorem own_inb {i n : Nat} (h : i < n) (hn : n < 2 ^ 31) : ¬ (Int32.ofNat i < (0 : Int32)) ∧ Int32.ofNat i < Int32.ofNat n := by
  rw [Int32.lt_iff_toInt_lt, Int32.lt_iff_toInt_lt, own_toInt (by omega), own_toInt hn]
  have e0 : (0 : Int32).toInt = 0 := rfl
  omega
theorem own_nlt {i n : Nat} (h : n ≤ i) (hi : i < 2 ^ 31) : ¬ (Int32.ofNat i < Int32.ofNat n) := by
  rw [Int32.lt_iff_toInt_lt, own_toInt hi, own_toInt (by omega)]
  omega
theorem own_oinj {i n : Nat} (hi : i < 2 ^ 31) (hn : n < 2 ^ 31) (h : Int32.ofNat i = Int32.ofNat n) : i = n := by
  have q := congrArg Int32.toInt h
  rw [own_toInt hi, own_toInt hn] at q
  omega
theorem own_shl1 (i : Nat) : Int32.ofNat i <<< ((1 : Int32) &&& 31) = Int32.ofNat (2 * i) := by
  rw [shlm (show (1 : Int32) <<< ((1 : Int32) &&& 31) = 2 by decide), Nat.mul_comm, Int32.ofNat_mul]
  rfl
theorem own_nc {c : Int32} (h0 : ¬ c < 0) (h1 : ¬ (65535 : Int32) < c) : c.toUInt32.toUInt16.toUInt32.toInt32 = c := by
  have q := c_i2c c
  rw [Int32.lt_iff_toInt_lt] at h0 h1
  have e0 : (0 : Int32).toInt = 0 := rfl
  have e1 : (65535 : Int32).toInt = 65535 := rfl
  apply Int32.toInt_inj.mp
  omega
theorem own_i2c (x : Int32) : ¬ (x.toUInt32.toUInt16.toUInt32.toInt32) < 0 ∧ ¬ (65535 : Int32) < (x.toUInt32.toUInt16.toUInt32.toInt32) := by
  have q := c_i2c x
  rw [Int32.lt_iff_toInt_lt, Int32.lt_iff_toInt_lt]
  have e0 : (0 : Int32).toInt = 0 := rfl
  have e1 : (65535 : Int32).toInt = 65535 := rfl
  omega
theorem own_mapat {cs : List Int32} {j : Nat} {d : Value} (hj : j < cs.length) (hN : cs.length < 2 ^ 31) : (cs.map Value.int).getD (Int32.ofNat j).toNatClampNeg d = .int (cs.getD j 0) := by
  rw [own_clamp (by omega)]
  simp [List.getD_eq_getElem?_getD, hj]
theorem own_widelen : ∀ cs : List Int32, (StrChars.Road.wideBytes cs).length = 2 * cs.length
  | [] => rfl
  | c :: cs => by simp only [StrChars.Road.wideBytes, List.length_cons, own_widelen cs]; omega
theorem own_wideapp : ∀ (cs : List Int32) (c : Int32), StrChars.Road.wideBytes (cs ++ [c]) = StrChars.Road.wideBytes cs ++ [.int (StrChars.lo8 c), .int (StrChars.hi8 c)]
  | [], _ => rfl
  | d :: cs, c => by simp only [List.cons_append, StrChars.Road.wideBytes, own_wideapp cs c]
theorem own_set2 {α : Type} (A : List α) (x y a b : α) (B : List α) : ((A ++ x :: y :: B).set A.length a).set (A.length + 1) b = A ++ a :: b :: B := by
  induction A with
  | nil => rfl
  | cons z A ih => simpa using ih
theorem own_widestep {ds : List Int32} {i n : Nat} (hn : ds.length = n) (hi : i < n) (z : Value) :
    ((StrChars.Road.wideBytes (ds.take i) ++ List.replicate (2 * (n - i)) z).set (2 * i) (.int (StrChars.lo8 (ds.getD i 0)))).set (2 * i + 1) (.int (StrChars.hi8 (ds.getD i 0))) = StrChars.Road.wideBytes (ds.take (i + 1)) ++ List.replicate (2 * (n - (i + 1))) z := by
  have hl : (StrChars.Road.wideBytes (ds.take i)).length = 2 * i := by rw [own_widelen, List.length_take]; omega
  have hr : List.replicate (2 * (n - i)) z = z :: z :: List.replicate (2 * (n - (i + 1))) z := by
    rw [show 2 * (n - i) = 2 * (n - (i + 1)) + 1 + 1 by omega, List.replicate_succ, List.replicate_succ]
  have ht : ds.take (i + 1) = ds.take i ++ [ds.getD i 0] := by
    rw [List.take_add_one]
    simp [List.getD_eq_getElem?_getD, show i < ds.length by omega]
  have q := own_set2 (StrChars.Road.wideBytes (ds.take i)) z z (.int (StrChars.lo8 (ds.getD i 0))) (.int (StrChars.hi8 (ds.getD i 0))) (List.replicate (2 * (n - (i + 1))) z)
  rw [hl] at q
  rw [hr, q, ht, own_wideapp, List.append_assoc]
  rfl
theorem own_first : ∀ cs : List Int32, (∃ c ∈ cs, (255 : Int32) < c) → ∃ r, r < cs.length ∧ (∀ q, q < r → ¬ (255 : Int32) < cs.getD (0 + q) 0) ∧ (255 : Int32) < cs.getD (0 + r) 0
  | [], h => by obtain ⟨c, hc, -⟩ := h; simp at hc
  | d :: cs, h => by
    by_cases hd : (255 : Int32) < d
    · exact ⟨0, by simp, fun q hq => absurd hq (Nat.not_lt_zero q), by simpa using hd⟩
    · obtain ⟨r, h1, h2, h3⟩ := own_first cs (by
        obtain ⟨c, hc, hw⟩ := h
        rcases List.mem_cons.mp hc with rfl | hc
        · exact absurd hw hd
        · exact ⟨c, hc, hw⟩)
      refine ⟨r + 1, by simpa using h1, fun q hq => ?_, by simpa using h3⟩
      cases q with
      | zero => simpa using hd
      | succ q => simpa using h2 q (by omega)
theorem own_coder1 {n : Nat} (h0 : 0 < n) (h : 2 * n < 2 ^ 31) : (((Int32.ofNat n - Int32.ofNat (2 * n)).toUInt32 >>> ((31 : Int32) &&& 31).toUInt32).toInt32).toInt8.toInt32 = (1 : Int32) := by
  have q : ((Int32.ofNat n - Int32.ofNat (2 * n)).toUInt32 >>> ((31 : Int32) &&& 31).toUInt32).toInt32 = (1 : Int32) := by
    apply Int32.toInt_inj.mp
    rw [c_iushr _ 31 31 (by decide) (by decide)]
    have e1 := own_toInt (j := n) (by omega)
    have e2 := own_toInt (j := 2 * n) h
    have e3 := c_isub (Int32.ofNat n) (Int32.ofNat (2 * n))
    have e4 := rng32 (Int32.ofNat n - Int32.ofNat (2 * n))
    have e5 : (1 : Int32).toInt = 1 := rfl
    rw [e5]
    show _ / (2147483648 : Int) = 1
    omega
  rw [q]
  rfl
set_option maxRecDepth 65536 in
set_option maxHeartbeats 40000000 in
theorem lp_cmp5 {p : Program} {l : Launch} {e : Env} {R : Room} {s : State} {m : MethodId} {args : Array Value} {below : List Frame} {meth : Method} {c : Code} {cells slots : Nat} {Z : State} {a0 : Array Value} {n0 : Nat} (ca : Addr) (kc : ClassId) (cs : List Int32) (dv : Value) (dd : Addr) (kd : ClassId) (n : Nat) (rr : Nat) (rj : Nat) (hx : p.tables.exec = Jvm.exec) (hZ : Z.Warmed39 s.vm) (hw : HW Z a0) (hby : c.code = jdk_52_method_21_code) (hml : c.maxLocals = 7) (hown : s.vm.findClass "java/lang/StringUTF16" = some m.cls) (hcl : cells ≤ R.cells) (hsl : slots ≤ R.slots) (hfr : 0 ≤ R.frames) (hlo : 0 ≤ R.locals) (hN : cs.length < 2 ^ 31) (hy1 : n0 ≤ dd) (hy2 : ca ≠ dd) (hn31 : n < 2 ^ 31) (hrn : rr < n) (hrj : rj < cs.length) (hwide : (255 : Int32) < cs.getD rj 0) :
    ∀ (k : Nat) (i : Nat) (j : Nat) (vs : List Value) (z6 : Slot) (T0 : State) (h0 : Heap) (locs : List Loc), Stand p l e R s m args below meth c T0 locs cells slots → T0.heap = h0 → Fr n0 locs → n0 ≤ h0.size → Arv Z h0 ca kc .char (Int32.ofNat cs.length) (cs.map Value.int) dv → Arv Z h0 dd kd .byte (Int32.ofNat n) vs (.int 0) → (One z6) → (vs.length = n) → (i + k = rr) → (j + k = rj) → (∀ q, q < k → ¬ (255 : Int32) < cs.getD (j + q) 0) → ∃ (T' : State) (h' : Heap) (locs' : List Loc), Stand p l e R s m args below meth c T' locs' cells slots ∧ T'.heap = h' ∧ Fr n0 locs' ∧ Keep h0 h' ([dd] : List Addr) ∧ ∀ t, Steps p.tables e below (T'.setTop (mkF m 25 #[vR ca, vI (Int32.ofNat rj), vR dd, vI (Int32.ofNat rr), vI (Int32.ofNat n), vI (Int32.ofNat rr), vI (cs.getD rj 0)] [(.int (Int32.ofNat rr))])) t → oS p e below T0 (mkF m 3 #[vR ca, vI (Int32.ofNat j), vR dd, vI (Int32.ofNat i), vI (Int32.ofNat n), vI (Int32.ofNat i), z6] []) t := by
  intro k
  induction k with
  | zero =>
    intro i j vs z6 T0 h0 locs X0 e0 N0 Z0 q0 q1 hz6 hvl hik hjk hlow
    have pre0 : ∀ t, oS p e below T0 (mkF m 3 #[vR ca, vI (Int32.ofNat j), vR dd, vI (Int32.ofNat i), vI (Int32.ofNat n), vI (Int32.ofNat i), z6] []) t → oS p e below T0 (mkF m 3 #[vR ca, vI (Int32.ofNat j), vR dd, vI (Int32.ofNat i), vI (Int32.ofNat n), vI (Int32.ofNat i), z6] []) t := fun _ kk => kk
    have hik' : i = rr := by omega
    have hjk' : j = rj := by omega
    have hwd : (255 : Int32) < cs.getD j 0 := by rw [hjk']; exact hwide
    obtain ⟨cl1, Ar1, qq1, S1, M1, Hh1, U1⟩ := id q0
    have ib1 : ¬ ((Int32.ofNat j) < 0 ∨ cl1.slots.size ≤ ((Int32.ofNat j)).toNatClampNeg) := inb_of S1 (own_inb (by omega) hN)
    have pre2 : ∀ t, oS p e below T0 (mkF m 25 #[vR ca, vI (Int32.ofNat j), vR dd, vI (Int32.ofNat i), vI (Int32.ofNat n), vI (Int32.ofNat i), vI (cs.getD j 0)] [(.int (Int32.ofNat i))]) t → oS p e below T0 (mkF m 3 #[vR ca, vI (Int32.ofNat j), vR dd, vI (Int32.ofNat i), vI (Int32.ofNat n), vI (Int32.ofNat i), z6] []) t := fun t kk => pre0 t (by
      refine XS.iload X0.here hx rfl (oh hby D0 2 rfl) rfl ?_
      refine XS.iload X0.here hx rfl (oh hby D0 3 rfl) rfl ?_
      refine XS.icmpNo X0.here hx rfl (oh hby D0 4 rfl) rfl (tlt ((own_inb (by omega) hn31).2 : (Int32.ofNat i) < (Int32.ofNat n))).2.1 ?_
      refine XS.aloadN X0.here hx rfl (oh hby D0 5 rfl) rfl rfl ?_
      refine XS.iloadN X0.here hx rfl (oh hby D0 6 rfl) rfl ?_
      show oS p e below T0 (mkF m 12 #[vR ca, vI (Int32.ofNat j), vR dd, vI (Int32.ofNat i), vI (Int32.ofNat n), vI (Int32.ofNat i), z6] [(.int (Int32.ofNat j)), (.ref ca)]) _
      refine X0.caload hx (j := (Int32.ofNat j)) (v := (.int (cs.getD j 0))) (by rw [e0]; exact Ar1.1) (State.isArrayOf_alike hZ.alike Ar1.2.1) Ar1.2.2 ib1 (Hh1.at ib1 (own_mapat (by omega) hN)) (g := (mkF m 12 #[vR ca, vI (Int32.ofNat j), vR dd, vI (Int32.ofNat i), vI (Int32.ofNat n), vI (Int32.ofNat i), z6] [(.int (Int32.ofNat j)), (.ref ca)])) rfl rfl (oh hby D0 7 rfl) _ ?_
      show oS p e below T0 (mkF m 13 #[vR ca, vI (Int32.ofNat j), vR dd, vI (Int32.ofNat i), vI (Int32.ofNat n), vI (Int32.ofNat i), z6] [(.int (cs.getD j 0))]) _
      refine XS.istoreS X0.here hx rfl (oh hby D0 8 rfl) rfl rfl hz6 ?_
      refine XS.iload X0.here hx rfl (oh hby D0 9 rfl) rfl ?_
      refine XS.sipush X0.here hx rfl (oh hby D0 10 rfl) ?_
      refine XS.icmpNo X0.here hx rfl (oh hby D0 11 rfl) rfl (tlt (hwd : (255 : Int32) < (cs.getD j 0))).2.2.2 ?_
      refine XS.iload X0.here hx rfl (oh hby D0 12 rfl) rfl ?_
      show oS p e below T0 (mkF m 25 #[vR ca, vI (Int32.ofNat j), vR dd, vI (Int32.ofNat i), vI (Int32.ofNat n), vI (Int32.ofNat i), vI (cs.getD j 0)] [(.int (Int32.ofNat i))]) _
      exact kk)
    exact ⟨T0, h0, _, X0, e0, N0, (Keep.refl h0 ([dd] : List Addr)), (by rw [← hik', ← hjk']; exact pre2)⟩
  | succ k ih =>
    intro i j vs z6 T0 h0 locs X0 e0 N0 Z0 q0 q1 hz6 hvl hik hjk hlow
    have pre0 : ∀ t, oS p e below T0 (mkF m 3 #[vR ca, vI (Int32.ofNat j), vR dd, vI (Int32.ofNat i), vI (Int32.ofNat n), vI (Int32.ofNat i), z6] []) t → oS p e below T0 (mkF m 3 #[vR ca, vI (Int32.ofNat j), vR dd, vI (Int32.ofNat i), vI (Int32.ofNat n), vI (Int32.ofNat i), z6] []) t := fun _ kk => kk
    have hlw : ¬ (255 : Int32) < cs.getD j 0 := by simpa using hlow 0 (by omega)
    obtain ⟨cl1, Ar1, qq1, S1, M1, Hh1, U1⟩ := id q0
    have ib1 : ¬ ((Int32.ofNat j) < 0 ∨ cl1.slots.size ≤ ((Int32.ofNat j)).toNatClampNeg) := inb_of S1 (own_inb (by omega) hN)
    obtain ⟨cl2, Ar2, qq2, S2, M2, Hh2, U2⟩ := id q1
    obtain ⟨T2, h2, X2, e2, W2, st2⟩ := stB X0 hx hZ e0 Ar2 (j := (Int32.ofNat i)) (inb_of S2 (own_inb (by omega) hn31)) (g := (mkF m 31 #[vR ca, vI (Int32.ofNat j), vR dd, vI (Int32.ofNat i), vI (Int32.ofNat n), vI (Int32.ofNat i), vI (cs.getD j 0)] [(.int ((cs.getD j 0).toInt8.toInt32)), (.int (Int32.ofNat i)), (.ref dd)])) rfl rfl (oh hby D0 18 rfl)
    have N2 := Fr.snoc X2 N0 hy1
    have V2 : Arv Z h2 dd kd .byte (Int32.ofNat n) (vs.set i (.int (nar .byte ((cs.getD j 0).toInt8.toInt32)))) (.int 0) := Arv.set Ar2 qq2 S2 M2 Hh2 U2 (fits_nar_byte _) W2 i (own_clamp (by omega)) (by omega)
    have pre3 : ∀ t, oS p e below T2 (mkF m 3 #[vR ca, vI ((Int32.ofNat j) + (1 : Int32)), vR dd, vI ((Int32.ofNat i) + (1 : Int32)), vI (Int32.ofNat n), vI ((Int32.ofNat i) + (1 : Int32)), vI (cs.getD j 0)] []) t → oS p e below T0 (mkF m 3 #[vR ca, vI (Int32.ofNat j), vR dd, vI (Int32.ofNat i), vI (Int32.ofNat n), vI (Int32.ofNat i), z6] []) t := fun t kk => pre0 t (by
      refine XS.iload X0.here hx rfl (oh hby D0 2 rfl) rfl ?_
      refine XS.iload X0.here hx rfl (oh hby D0 3 rfl) rfl ?_
      refine XS.icmpNo X0.here hx rfl (oh hby D0 4 rfl) rfl (tlt ((own_inb (by omega) hn31).2 : (Int32.ofNat i) < (Int32.ofNat n))).2.1 ?_
      refine XS.aloadN X0.here hx rfl (oh hby D0 5 rfl) rfl rfl ?_
      refine XS.iloadN X0.here hx rfl (oh hby D0 6 rfl) rfl ?_
      show oS p e below T0 (mkF m 12 #[vR ca, vI (Int32.ofNat j), vR dd, vI (Int32.ofNat i), vI (Int32.ofNat n), vI (Int32.ofNat i), z6] [(.int (Int32.ofNat j)), (.ref ca)]) _
      refine X0.caload hx (j := (Int32.ofNat j)) (v := (.int (cs.getD j 0))) (by rw [e0]; exact Ar1.1) (State.isArrayOf_alike hZ.alike Ar1.2.1) Ar1.2.2 ib1 (Hh1.at ib1 (own_mapat (by omega) hN)) (g := (mkF m 12 #[vR ca, vI (Int32.ofNat j), vR dd, vI (Int32.ofNat i), vI (Int32.ofNat n), vI (Int32.ofNat i), z6] [(.int (Int32.ofNat j)), (.ref ca)])) rfl rfl (oh hby D0 7 rfl) _ ?_
      show oS p e below T0 (mkF m 13 #[vR ca, vI (Int32.ofNat j), vR dd, vI (Int32.ofNat i), vI (Int32.ofNat n), vI (Int32.ofNat i), z6] [(.int (cs.getD j 0))]) _
      refine XS.istoreS X0.here hx rfl (oh hby D0 8 rfl) rfl rfl hz6 ?_
      refine XS.iload X0.here hx rfl (oh hby D0 9 rfl) rfl ?_
      refine XS.sipush X0.here hx rfl (oh hby D0 10 rfl) ?_
      refine XS.icmpYes X0.here hx rfl (pc0 := 20) (pc' := 26) rfl (oh hby D0 11 rfl) rfl (flt (hlw : ¬ ((255 : Int32) < (cs.getD j 0)))).2.2.2 (by decide) (by decide) ?_
      refine XS.aloadN X0.here hx rfl (oh hby D0 14 rfl) rfl rfl ?_
      show oS p e below T0 (mkF m 27 #[vR ca, vI (Int32.ofNat j), vR dd, vI (Int32.ofNat i), vI (Int32.ofNat n), vI (Int32.ofNat i), vI (cs.getD j 0)] [(.ref dd)]) _
      refine XS.iloadN X0.here hx rfl (oh hby D0 15 rfl) rfl ?_
      refine XS.iload X0.here hx rfl (oh hby D0 16 rfl) rfl ?_
      refine XS.i2b X0.here hx rfl (oh hby D0 17 rfl) rfl ?_
      refine st2 _ ?_
      show oS p e below T2 (mkF m 32 #[vR ca, vI (Int32.ofNat j), vR dd, vI (Int32.ofNat i), vI (Int32.ofNat n), vI (Int32.ofNat i), vI (cs.getD j 0)] []) _
      refine XS.iinc X2.here hx rfl (oh hby D0 19 rfl) rfl (l' := #[vR ca, vI ((Int32.ofNat j) + (1 : Int32)), vR dd, vI (Int32.ofNat i), vI (Int32.ofNat n), vI (Int32.ofNat i), vI (cs.getD j 0)]) rfl ?_
      refine XS.iinc X2.here hx rfl (oh hby D0 20 rfl) rfl (l' := #[vR ca, vI ((Int32.ofNat j) + (1 : Int32)), vR dd, vI ((Int32.ofNat i) + (1 : Int32)), vI (Int32.ofNat n), vI (Int32.ofNat i), vI (cs.getD j 0)]) rfl ?_
      refine XS.iinc X2.here hx rfl (oh hby D0 21 rfl) rfl (l' := #[vR ca, vI ((Int32.ofNat j) + (1 : Int32)), vR dd, vI ((Int32.ofNat i) + (1 : Int32)), vI (Int32.ofNat n), vI ((Int32.ofNat i) + (1 : Int32)), vI (cs.getD j 0)]) rfl ?_
      refine XS.goto X2.here hx rfl (pc0 := 41) (pc' := 3) rfl (oh hby D0 22 rfl) (by decide) (by decide) ?_
      show oS p e below T2 (mkF m 3 #[vR ca, vI ((Int32.ofNat j) + (1 : Int32)), vR dd, vI ((Int32.ofNat i) + (1 : Int32)), vI (Int32.ofNat n), vI ((Int32.ofNat i) + (1 : Int32)), vI (cs.getD j 0)] []) _
      exact kk)
    have c4 := (q0.other W2 hy2)
    have preH : ∀ t, oS p e below T2 (mkF m 3 #[vR ca, vI (Int32.ofNat (j + 1)), vR dd, vI (Int32.ofNat (i + 1)), vI (Int32.ofNat n), vI (Int32.ofNat (i + 1)), (Slot.val (.int (cs.getD j 0)))] []) t → oS p e below T0 (mkF m 3 #[vR ca, vI (Int32.ofNat j), vR dd, vI (Int32.ofNat i), vI (Int32.ofNat n), vI (Int32.ofNat i), z6] []) t := by
      rw [inc_ofNat i, inc_ofNat j]
      exact pre3
    obtain ⟨T9, h9, lo9, X9, e9, N9, K9, pre9⟩ := ih ((i + 1)) ((j + 1)) ((vs.set i (.int (nar .byte ((cs.getD j 0).toInt8.toInt32))))) ((Slot.val (.int (cs.getD j 0)))) T2 h2 _ X2 e2 N2 (Nat.le_trans Z0 (Keep.of_wr W2).1) c4 V2 (One.val rfl) (by simpa using hvl) (by omega) (by omega) (fun q hq => by have z := hlow (q + 1) (by omega); rwa [show j + (q + 1) = j + 1 + q by omega] at z)
    exact ⟨T9, h9, _, X9, e9, N9, (((Keep.refl h0 ([dd] : List Addr)).wr W2 (Or.inl (by simp))).trans K9 (allS (Or.inl (by simp)) all0)), fun t kk => preH t (pre9 t kk)⟩
theorem ef_0 (m : MethodId) (x0 : Addr) (x1 : Int32) (x2 : Addr) (x3 : Int32) (x4 : Int32) : entryFrame m #[(.ref x0), (.int x1), (.ref x2), (.int x3), (.int x4)] 7 = mkF m 0 #[vR x0, vI x1, vR x2, vI x3, vI x4, .unset, .unset] [] := by first | (simp [entryFrame, mkF, argsToLocals, Value.category]; done) | rfl
theorem pn_0 : plainName "java/lang/StringUTF16" = true := by first | (simp [plainName, overriddenIn]; done) | decide +kernel
def Q_cmp5w (Z : State) (ca : Addr) (kc : ClassId) (cs : List Int32) (dv : Value) (dd : Addr) (kd : ClassId) (o : Nat) (n : Nat) (rr : Nat) (vs : List Value) (h0 : Heap) (n0 : Nat) (v : Option Value) (h : Heap) (L : List Loc) : Prop := (v = some (.int (Int32.ofNat rr))) ∧ (Fr n0 L) ∧ (Keep h0 h ([dd] : List Addr))
set_option maxRecDepth 65536 in
set_option maxHeartbeats 40000000 in
theorem rm_cmp5w (l : Launch) (Z : State) (a0 : Array Value) (hw : HW Z a0) (ws : List Jvm.Cond) (ca : Addr) (kc : ClassId) (cs : List Int32) (dv : Value) (dd : Addr) (kd : ClassId) (o : Nat) (n : Nat) (rr : Nat) (vs : List Value) (h0 : Heap) (n0 : Nat) (Z0 : n0 ≤ h0.size) (q0 : Arv Z h0 ca kc .char (Int32.ofNat cs.length) (cs.map Value.int) dv) (hN : cs.length < 2 ^ 31) (q2 : Arv Z h0 dd kd .byte (Int32.ofNat n) vs (.int 0)) (q3 : n0 ≤ dd) (q4 : ca ≠ dd) (hvl : vs.length = n) (hon : o + n ≤ cs.length) (hrn : rr < n) (hlow : ∀ q, q < rr → ¬ (255 : Int32) < cs.getD (o + q) 0) (hwide : (255 : Int32) < cs.getD (o + rr) 0) :
    mF l y_0 jdk_52_method_21_code 7 (some .int) ws (rmk 0 0 0 0) #[(.ref ca), (.int (Int32.ofNat o)), (.ref dd), (.int 0), (.int (Int32.ofNat n))] Z h0 (Q_cmp5w Z ca kc cs dv dd kd o n rr vs h0 n0) := by
  refine MetFree.of_bodySF (plainFor_of_name pn_0) hisR ?_
  intro p e s m args below meth c s₁ Bd hml0 hP hK
  obtain ⟨rfl, hZ, hh⟩ := hP
  have hx := Bd.exec
  have hby := Bd.bytes
  have hml : c.maxLocals = 7 := hml0
  have hown : s.vm.findClass "java/lang/StringUTF16" = some m.cls := findClass_of_methodNamed Bd.named
  have hnm := (name_of_methodNamed Bd.named Bd.method).1
  have X0 : Stand p l e (rmk 0 0 0 0) s m #[(.ref ca), (.int (Int32.ofNat o)), (.ref dd), (.int 0), (.int (Int32.ofNat n))] below meth c s₁ [] 0 0 := Stand.of_body Bd
  have e0 : s₁.heap = h0 := by rw [← hh, Bd.state]; rfl
  have N0 := Fr.nil n0
  have pre0 : ∀ t, oS p e below s₁ (mkF m 0 #[vR ca, vI (Int32.ofNat o), vR dd, vI 0, vI (Int32.ofNat n), .unset, .unset] []) t → oS p e below s₁ (entryFrame m #[(.ref ca), (.int (Int32.ofNat o)), (.ref dd), (.int 0), (.int (Int32.ofNat n))] 7) t := fun t k => castTop (ef_0 m ca (Int32.ofNat o) dd (0 : Int32) (Int32.ofNat n)) k
  have pre1 : ∀ t, oS p e below s₁ (mkF m 3 #[vR ca, vI (Int32.ofNat o), vR dd, vI 0, vI (Int32.ofNat n), vI 0, .unset] []) t → oS p e below s₁ (entryFrame m #[(.ref ca), (.int (Int32.ofNat o)), (.ref dd), (.int 0), (.int (Int32.ofNat n))] 7) t := fun t kk => pre0 t (by
    refine XS.iconst X0.here hx rfl (oh hby D0 0 rfl) ?_
    refine XS.istore X0.here hx rfl (oh hby D0 1 rfl) rfl (l' := #[vR ca, vI (Int32.ofNat o), vR dd, vI 0, vI (Int32.ofNat n), vI 0, .unset]) rfl ?_
    show oS p e below s₁ (mkF m 3 #[vR ca, vI (Int32.ofNat o), vR dd, vI 0, vI (Int32.ofNat n), vI 0, .unset] []) _
    exact kk)
  have preh2 : ∀ t, oS p e below s₁ (mkF m 3 #[vR ca, vI (Int32.ofNat o), vR dd, vI (Int32.ofNat 0), vI (Int32.ofNat n), vI (Int32.ofNat 0), Slot.unset] []) t → oS p e below s₁ (entryFrame m #[(.ref ca), (.int (Int32.ofNat o)), (.ref dd), (.int 0), (.int (Int32.ofNat n))] 7) t := by
    exact pre1
  obtain ⟨T2, h2, lo2, X2, e2, N2, K2, st2⟩ := lp_cmp5 (ca) (kc) (cs) (dv) (dd) (kd) (n) (rr) ((o + rr)) hx hZ hw hby hml hown (by decide : 0 ≤ _) (by decide : 0 ≤ _) (by decide) (by decide) hN q3 q4 (by omega) hrn (by omega) hwide rr (0) (o) (vs) (Slot.unset) s₁ h0 _ X0 e0 N0 Z0 q0 q2 (One.u) hvl (by omega) (rfl) (by first | assumption | decide)
  obtain ⟨fs, hr, hrun, hended, hW, hsame⟩ := X2.leave (v := some (.int (Int32.ofNat rr))) (fun h => by rw [Bd.returns] at h; cases h)
  refine ⟨_, _, preh2 _ ?_, hrun, hended, _, _, rfl, ?_, ⟨_, rfl⟩, hW, hsame.mono (by decide) (by decide)⟩
  · refine st2 _ ?_
    show oS p e below T2 (mkF m 25 #[vR ca, vI (Int32.ofNat (o + rr)), vR dd, vI (Int32.ofNat rr), vI (Int32.ofNat n), vI (Int32.ofNat rr), vI (cs.getD (o + rr) 0)] [(.int (Int32.ofNat rr))]) _
    exact retI X2 hx Bd.returns (oh hby D0 13 rfl) hr
  · show Q_cmp5w Z ca kc cs dv dd kd o n rr vs h0 n0 _ T2.heap _
    rw [e2]
    exact ⟨rfl, N2, ((Keep.refl h0 ([dd] : List Addr)).trans K2 (allS (Or.inl (by simp)) all0))⟩
theorem own_nb (x : Int32) : nar .byte (x.toInt8.toInt32) = x.toInt8.toInt32 := by
  show (x.toInt8.toInt32).toInt8.toInt32 = x.toInt8.toInt32
  rw [Int8.toInt8_toInt32]
theorem ef_1 (m : MethodId) (x0 : Addr) (x1 : Int32) (x2 : Int32) : entryFrame m #[(.ref x0), (.int x1), (.int x2)] 3 = mkF m 0 #[vR x0, vI x1, vI x2] [] := by first | (simp [entryFrame, mkF, argsToLocals, Value.category]; done) | rfl
def Q_putCh (Z : State) (dd : Addr) (ii : Nat) (xc : Int32) (kd : ClassId) (n2 : Nat) (vs : List Value) (h0 : Heap) (n0 : Nat) (v : Option Value) (h : Heap) (L : List Loc) : Prop := (v = none) ∧ (Fr n0 L) ∧ (Keep h0 h ([dd] : List Addr)) ∧ (Arv Z h dd kd .byte (Int32.ofNat n2) ((vs.set (2 * ii) (.int (StrChars.lo8 xc))).set (2 * ii + 1) (.int (StrChars.hi8 xc))) (.int 0))
set_option maxRecDepth 65536 in
set_option maxHeartbeats 40000000 in
theorem rm_putCh (l : Launch) (Z : State) (a0 : Array Value) (hw : HW Z a0) (ws : List Jvm.Cond) (dd : Addr) (ii : Nat) (xc : Int32) (kd : ClassId) (n2 : Nat) (vs : List Value) (h0 : Heap) (n0 : Nat) (Z0 : n0 ≤ h0.size) (q0 : sA Z) (q1 : sH Z) (q2 : sL Z) (q3 : Old Z n0 h0) (q4 : Arv Z h0 dd kd .byte (Int32.ofNat n2) vs (.int 0)) (q5 : n0 ≤ dd) (hi2 : 2 * ii + 1 < n2) (hn2 : n2 < 2 ^ 31) (hvl : vs.length = n2) :
    mF l y_1 jdk_52_method_4_code 3 none ws (rmk 0 0 0 0) #[(.ref dd), (.int (Int32.ofNat ii)), (.int xc)] Z h0 (Q_putCh Z dd ii xc kd n2 vs h0 n0) := by
  refine MetFree.of_bodySF (plainFor_of_name pn_0) hisR ?_
  intro p e s m args below meth c s₁ Bd hml0 hP hK
  obtain ⟨rfl, hZ, hh⟩ := hP
  have hx := Bd.exec
  have hby := Bd.bytes
  have hml : c.maxLocals = 3 := hml0
  have hown : s.vm.findClass "java/lang/StringUTF16" = some m.cls := findClass_of_methodNamed Bd.named
  have hnm := (name_of_methodNamed Bd.named Bd.method).1
  have X0 : Stand p l e (rmk 0 0 0 0) s m #[(.ref dd), (.int (Int32.ofNat ii)), (.int xc)] below meth c s₁ [] 0 0 := Stand.of_body Bd
  have e0 : s₁.heap = h0 := by rw [← hh, Bd.state]; rfl
  have N0 := Fr.nil n0
  have pre0 : ∀ t, oS p e below s₁ (mkF m 0 #[vR dd, vI (Int32.ofNat ii), vI xc] []) t → oS p e below s₁ (entryFrame m #[(.ref dd), (.int (Int32.ofNat ii)), (.int xc)] 3) t := fun t k => castTop (ef_1 m dd (Int32.ofNat ii) xc) k
  obtain ⟨T1, X1, e1, st1⟩ := getS2 X0 hx hZ hown (host := "") (Or.inl (ow hw 229 rfl)) Via.refl e0 (q0.ext q3.2) (g := (mkF m 0 #[vR dd, vI (Int32.ofNat ii), vI xc] [])) rfl (oh hby D1 0 rfl)
  obtain ⟨T2, X2, e2, st2⟩ := getS2 X1 hx hZ hown (host := "") (Or.inl (ow hw 230 rfl)) Via.refl e1 (q1.ext q3.2) (g := (mkF m 38 #[vR dd, vI (Int32.ofNat (2 * ii + 1)), vI xc] [(.int xc), (.int (Int32.ofNat (2 * ii))), (.ref dd)])) rfl (oh hby D1 10 rfl)
  obtain ⟨cl3, Ar3, qq3, S3, M3, Hh3, U3⟩ := id q4
  obtain ⟨T3, h3, X3, e3, W3, st3⟩ := stB X2 hx hZ e2 Ar3 (j := (Int32.ofNat (2 * ii))) (inb_of S3 (own_inb (by omega) hn2)) (g := (mkF m 43 #[vR dd, vI (Int32.ofNat (2 * ii + 1)), vI xc] [(.int ((xc >>> ((0 : Int32) &&& 31)).toInt8.toInt32)), (.int (Int32.ofNat (2 * ii))), (.ref dd)])) rfl rfl (oh hby D1 13 rfl)
  have N3 := Fr.snoc X3 N0 q5
  have V3 : Arv Z h3 dd kd .byte (Int32.ofNat n2) (vs.set (2 * ii) (.int (nar .byte ((xc >>> ((0 : Int32) &&& 31)).toInt8.toInt32)))) (.int 0) := Arv.set Ar3 qq3 S3 M3 Hh3 U3 (fits_nar_byte _) W3 (2 * ii) (own_clamp (by omega)) (by omega)
  have R4 : Arv Z h3 dd kd .byte (Int32.ofNat n2) (vs.set (2 * ii) (.int (StrChars.lo8 xc))) (.int 0) := by have q := V3; rw [own_nb, StrChars.shr0] at q; exact q
  have c6 := (q3.wr W3 q5)
  obtain ⟨T5, X5, e5, st5⟩ := getS2 X3 hx hZ hown (host := "") (Or.inl (ow hw 231 rfl)) Via.refl e3 (q2.ext c6.2) (g := (mkF m 47 #[vR dd, vI (Int32.ofNat (2 * ii + 1)), vI xc] [(.int xc), (.int (Int32.ofNat (2 * ii + 1))), (.ref dd)])) rfl (oh hby D1 17 rfl)
  obtain ⟨cl7, Ar7, qq7, S7, M7, Hh7, U7⟩ := id R4
  obtain ⟨T7, h7, X7, e7, W7, st7⟩ := stB X5 hx hZ e5 Ar7 (j := (Int32.ofNat (2 * ii + 1))) (inb_of S7 (own_inb hi2 hn2)) (g := (mkF m 52 #[vR dd, vI (Int32.ofNat (2 * ii + 1)), vI xc] [(.int ((xc >>> ((8 : Int32) &&& 31)).toInt8.toInt32)), (.int (Int32.ofNat (2 * ii + 1))), (.ref dd)])) rfl rfl (oh hby D1 20 rfl)
  have N7 := Fr.snoc X7 N3 q5
  have V7 : Arv Z h7 dd kd .byte (Int32.ofNat n2) ((vs.set (2 * ii) (.int (StrChars.lo8 xc))).set (2 * ii + 1) (.int (nar .byte ((xc >>> ((8 : Int32) &&& 31)).toInt8.toInt32)))) (.int 0) := Arv.set Ar7 qq7 S7 M7 Hh7 U7 (fits_nar_byte _) W7 (2 * ii + 1) (own_clamp (by omega)) (by rw [List.length_set]; omega)
  have R8 : Arv Z h7 dd kd .byte (Int32.ofNat n2) ((vs.set (2 * ii) (.int (StrChars.lo8 xc))).set (2 * ii + 1) (.int (StrChars.hi8 xc))) (.int 0) := by have q := V7; rw [own_nb] at q; exact q
  obtain ⟨fs, hr, hrun, hended, hW, hsame⟩ := X7.leave (v := none) (fun _ => rfl)
  refine ⟨_, _, pre0 _ ?_, hrun, hended, _, _, rfl, ?_, ⟨_, rfl⟩, hW, hsame.mono (by decide) (by decide)⟩
  · refine st1 _ ?_
    show oS p e below T1 (mkF m 3 #[vR dd, vI (Int32.ofNat ii), vI xc] [(.int 1)]) _
    refine XS.ifYes X1.here hx rfl (pc0 := 3) (pc' := 28) rfl (oh hby D1 1 rfl) rfl ((if0 _ _).trans (feq ((by decide) : ¬ ((1 : Int32) = (0 : Int32)))).2) (by decide) (by decide) ?_
    refine XS.iloadN X1.here hx rfl (oh hby D1 2 rfl) rfl ?_
    refine XS.iconst X1.here hx rfl (oh hby D1 3 rfl) ?_
    refine XS.ishl X1.here hx rfl (oh hby D1 4 rfl) rfl ?_
    show oS p e below T1 (mkF m 31 #[vR dd, vI (Int32.ofNat ii), vI xc] [(.int ((Int32.ofNat ii) <<< ((1 : Int32) &&& 31)))]) _
    rw [own_shl1]
    show oS p e below T1 (mkF m 31 #[vR dd, vI (Int32.ofNat ii), vI xc] [(.int (Int32.ofNat (2 * ii)))]) _
    refine XS.istoreN X1.here hx rfl (oh hby D1 5 rfl) rfl (l' := #[vR dd, vI (Int32.ofNat (2 * ii)), vI xc]) rfl ?_
    refine XS.aloadN X1.here hx rfl (oh hby D1 6 rfl) rfl rfl ?_
    refine XS.iloadN X1.here hx rfl (oh hby D1 7 rfl) rfl ?_
    refine XS.iinc X1.here hx rfl (oh hby D1 8 rfl) rfl (l' := #[vR dd, vI ((Int32.ofNat (2 * ii)) + (1 : Int32)), vI xc]) rfl ?_
    show oS p e below T1 (mkF m 37 #[vR dd, vI ((Int32.ofNat (2 * ii)) + (1 : Int32)), vI xc] [(.int (Int32.ofNat (2 * ii))), (.ref dd)]) _
    rw [← inc_ofNat]
    show oS p e below T1 (mkF m 37 #[vR dd, vI (Int32.ofNat (2 * ii + 1)), vI xc] [(.int (Int32.ofNat (2 * ii))), (.ref dd)]) _
    refine XS.iloadN X1.here hx rfl (oh hby D1 9 rfl) rfl ?_
    refine st2 _ ?_
    show oS p e below T2 (mkF m 41 #[vR dd, vI (Int32.ofNat (2 * ii + 1)), vI xc] [(.int 0), (.int xc), (.int (Int32.ofNat (2 * ii))), (.ref dd)]) _
    refine XS.ishr X2.here hx rfl (oh hby D1 11 rfl) rfl ?_
    refine XS.i2b X2.here hx rfl (oh hby D1 12 rfl) rfl ?_
    refine st3 _ ?_
    show oS p e below T3 (mkF m 44 #[vR dd, vI (Int32.ofNat (2 * ii + 1)), vI xc] []) _
    refine XS.aloadN X3.here hx rfl (oh hby D1 14 rfl) rfl rfl ?_
    refine XS.iloadN X3.here hx rfl (oh hby D1 15 rfl) rfl ?_
    refine XS.iloadN X3.here hx rfl (oh hby D1 16 rfl) rfl ?_
    refine st5 _ ?_
    show oS p e below T5 (mkF m 50 #[vR dd, vI (Int32.ofNat (2 * ii + 1)), vI xc] [(.int 8), (.int xc), (.int (Int32.ofNat (2 * ii + 1))), (.ref dd)]) _
    refine XS.ishr X5.here hx rfl (oh hby D1 18 rfl) rfl ?_
    refine XS.i2b X5.here hx rfl (oh hby D1 19 rfl) rfl ?_
    refine st7 _ ?_
    show oS p e below T7 (mkF m 53 #[vR dd, vI (Int32.ofNat (2 * ii + 1)), vI xc] []) _
    exact X7.returnOut hx Bd.returns (oh hby D1 21 rfl) hr
  · show Q_putCh Z dd ii xc kd n2 vs h0 n0 _ T7.heap _
    rw [e7]
    exact ⟨rfl, N7, (((Keep.refl h0 ([dd] : List Addr)).wr W3 (Or.inl (by simp))).wr W7 (Or.inl (by simp))), R8⟩
theorem ef_2 (m : MethodId) (x0 : Addr) (x1 : Int32) : entryFrame m #[(.ref x0), (.int x1)] 2 = mkF m 0 #[vR x0, vI x1] [] := by first | (simp [entryFrame, mkF, argsToLocals, Value.category]; done) | rfl
def Q_getCh (Z : State) (dd : Addr) (ii : Nat) (xc : Int32) (kd : ClassId) (n2 : Nat) (vs : List Value) (h0 : Heap) (n0 : Nat) (v : Option Value) (h : Heap) (L : List Loc) : Prop := (v = some (.int xc)) ∧ (Fr n0 L) ∧ (h = h0)
set_option maxRecDepth 65536 in
set_option maxHeartbeats 40000000 in
theorem rm_getCh (l : Launch) (Z : State) (a0 : Array Value) (hw : HW Z a0) (ws : List Jvm.Cond) (dd : Addr) (ii : Nat) (xc : Int32) (kd : ClassId) (n2 : Nat) (vs : List Value) (h0 : Heap) (n0 : Nat) (Z0 : n0 ≤ h0.size) (q0 : sA Z) (q1 : sH Z) (q2 : sL Z) (q3 : Old Z n0 h0) (q4 : Arv Z h0 dd kd .byte (Int32.ofNat n2) vs (.int 0)) (hi2 : 2 * ii + 1 < n2) (hn2 : n2 < 2 ^ 31) (hlo_ : vs.getD (2 * ii) (.int 0) = (.int (StrChars.lo8 xc))) (hhi_ : vs.getD (2 * ii + 1) (.int 0) = (.int (StrChars.hi8 xc))) (hc0 : ¬ xc < 0) (hc1 : ¬ (65535 : Int32) < xc) :
    mF l y_2 jdk_52_method_5_code 2 (some .char) ws (rmk 0 0 0 0) #[(.ref dd), (.int (Int32.ofNat ii))] Z h0 (Q_getCh Z dd ii xc kd n2 vs h0 n0) := by
  refine MetFree.of_bodySF (plainFor_of_name pn_0) hisR ?_
  intro p e s m args below meth c s₁ Bd hml0 hP hK
  obtain ⟨rfl, hZ, hh⟩ := hP
  have hx := Bd.exec
  have hby := Bd.bytes
  have hml : c.maxLocals = 2 := hml0
  have hown : s.vm.findClass "java/lang/StringUTF16" = some m.cls := findClass_of_methodNamed Bd.named
  have hnm := (name_of_methodNamed Bd.named Bd.method).1
  have X0 : Stand p l e (rmk 0 0 0 0) s m #[(.ref dd), (.int (Int32.ofNat ii))] below meth c s₁ [] 0 0 := Stand.of_body Bd
  have e0 : s₁.heap = h0 := by rw [← hh, Bd.state]; rfl
  have N0 := Fr.nil n0
  have pre0 : ∀ t, oS p e below s₁ (mkF m 0 #[vR dd, vI (Int32.ofNat ii)] []) t → oS p e below s₁ (entryFrame m #[(.ref dd), (.int (Int32.ofNat ii))] 2) t := fun t k => castTop (ef_2 m dd (Int32.ofNat ii)) k
  obtain ⟨T1, X1, e1, st1⟩ := getS2 X0 hx hZ hown (host := "") (Or.inl (ow hw 229 rfl)) Via.refl e0 (q0.ext q3.2) (g := (mkF m 0 #[vR dd, vI (Int32.ofNat ii)] [])) rfl (oh hby D2 0 rfl)
  obtain ⟨cl2, Ar2, qq2, S2, M2, Hh2, U2⟩ := id q4
  have ib2 : ¬ ((Int32.ofNat (2 * ii)) < 0 ∨ cl2.slots.size ≤ ((Int32.ofNat (2 * ii))).toNatClampNeg) := inb_of S2 (own_inb (by omega) hn2)
  obtain ⟨T3, X3, e3, st3⟩ := getS2 X1 hx hZ hown (host := "") (Or.inl (ow hw 230 rfl)) Via.refl e1 (q1.ext q3.2) (g := (mkF m 42 #[vR dd, vI (Int32.ofNat (2 * ii + 1))] [(.int ((StrChars.lo8 xc) &&& (255 : Int32)))])) rfl (oh hby D2 12 rfl)
  obtain ⟨cl4, Ar4, qq4, S4, M4, Hh4, U4⟩ := id q4
  have ib4 : ¬ ((Int32.ofNat (2 * ii + 1)) < 0 ∨ cl4.slots.size ≤ ((Int32.ofNat (2 * ii + 1))).toNatClampNeg) := inb_of S4 (own_inb hi2 hn2)
  obtain ⟨T5, X5, e5, st5⟩ := getS2 X3 hx hZ hown (host := "") (Or.inl (ow hw 231 rfl)) Via.refl e3 (q2.ext q3.2) (g := (mkF m 53 #[vR dd, vI (Int32.ofNat (2 * ii + 1))] [(.int ((StrChars.hi8 xc) &&& (255 : Int32))), (.int (((StrChars.lo8 xc) &&& (255 : Int32)) <<< ((0 : Int32) &&& 31)))])) rfl (oh hby D2 19 rfl)
  obtain ⟨fs, hr, hrun, hended, hW, hsame⟩ := X5.leave (v := some (.int xc)) (fun h => by rw [Bd.returns] at h; cases h)
  refine ⟨_, _, pre0 _ ?_, hrun, hended, _, _, rfl, ?_, ⟨_, rfl⟩, hW, hsame.mono (by decide) (by decide)⟩
  · refine st1 _ ?_
    show oS p e below T1 (mkF m 3 #[vR dd, vI (Int32.ofNat ii)] [(.int 1)]) _
    refine XS.ifYes X1.here hx rfl (pc0 := 3) (pc' := 28) rfl (oh hby D2 1 rfl) rfl ((if0 _ _).trans (feq ((by decide) : ¬ ((1 : Int32) = (0 : Int32)))).2) (by decide) (by decide) ?_
    refine XS.iloadN X1.here hx rfl (oh hby D2 2 rfl) rfl ?_
    refine XS.iconst X1.here hx rfl (oh hby D2 3 rfl) ?_
    refine XS.ishl X1.here hx rfl (oh hby D2 4 rfl) rfl ?_
    show oS p e below T1 (mkF m 31 #[vR dd, vI (Int32.ofNat ii)] [(.int ((Int32.ofNat ii) <<< ((1 : Int32) &&& 31)))]) _
    rw [own_shl1]
    show oS p e below T1 (mkF m 31 #[vR dd, vI (Int32.ofNat ii)] [(.int (Int32.ofNat (2 * ii)))]) _
    refine XS.istoreN X1.here hx rfl (oh hby D2 5 rfl) rfl (l' := #[vR dd, vI (Int32.ofNat (2 * ii))]) rfl ?_
    refine XS.aloadN X1.here hx rfl (oh hby D2 6 rfl) rfl rfl ?_
    refine XS.iloadN X1.here hx rfl (oh hby D2 7 rfl) rfl ?_
    refine XS.iinc X1.here hx rfl (oh hby D2 8 rfl) rfl (l' := #[vR dd, vI ((Int32.ofNat (2 * ii)) + (1 : Int32))]) rfl ?_
    show oS p e below T1 (mkF m 37 #[vR dd, vI ((Int32.ofNat (2 * ii)) + (1 : Int32))] [(.int (Int32.ofNat (2 * ii))), (.ref dd)]) _
    rw [← inc_ofNat]
    show oS p e below T1 (mkF m 37 #[vR dd, vI (Int32.ofNat (2 * ii + 1))] [(.int (Int32.ofNat (2 * ii))), (.ref dd)]) _
    refine X1.baloadBytes hx (j := (Int32.ofNat (2 * ii))) (v := (.int (StrChars.lo8 xc))) (by rw [e1]; exact Ar2.1) (State.isArrayOf_alike hZ.alike Ar2.2.1) Ar2.2.2 ib2 (Hh2.at ib2 (by rw [own_clamp (by omega)]; exact hlo_)) (g := (mkF m 37 #[vR dd, vI (Int32.ofNat (2 * ii + 1))] [(.int (Int32.ofNat (2 * ii))), (.ref dd)])) rfl rfl (oh hby D2 9 rfl) _ ?_
    show oS p e below T1 (mkF m 38 #[vR dd, vI (Int32.ofNat (2 * ii + 1))] [(.int (StrChars.lo8 xc))]) _
    refine XS.sipush X1.here hx rfl (oh hby D2 10 rfl) ?_
    refine XS.iand X1.here hx rfl (oh hby D2 11 rfl) rfl ?_
    refine st3 _ ?_
    show oS p e below T3 (mkF m 45 #[vR dd, vI (Int32.ofNat (2 * ii + 1))] [(.int 0), (.int ((StrChars.lo8 xc) &&& (255 : Int32)))]) _
    refine XS.ishl X3.here hx rfl (oh hby D2 13 rfl) rfl ?_
    refine XS.aloadN X3.here hx rfl (oh hby D2 14 rfl) rfl rfl ?_
    refine XS.iloadN X3.here hx rfl (oh hby D2 15 rfl) rfl ?_
    show oS p e below T3 (mkF m 48 #[vR dd, vI (Int32.ofNat (2 * ii + 1))] [(.int (Int32.ofNat (2 * ii + 1))), (.ref dd), (.int (((StrChars.lo8 xc) &&& (255 : Int32)) <<< ((0 : Int32) &&& 31)))]) _
    refine X3.baloadBytes hx (j := (Int32.ofNat (2 * ii + 1))) (v := (.int (StrChars.hi8 xc))) (by rw [e3]; exact Ar4.1) (State.isArrayOf_alike hZ.alike Ar4.2.1) Ar4.2.2 ib4 (Hh4.at ib4 (by rw [own_clamp (by omega)]; exact hhi_)) (g := (mkF m 48 #[vR dd, vI (Int32.ofNat (2 * ii + 1))] [(.int (Int32.ofNat (2 * ii + 1))), (.ref dd), (.int (((StrChars.lo8 xc) &&& (255 : Int32)) <<< ((0 : Int32) &&& 31)))])) rfl rfl (oh hby D2 16 rfl) _ ?_
    show oS p e below T3 (mkF m 49 #[vR dd, vI (Int32.ofNat (2 * ii + 1))] [(.int (StrChars.hi8 xc)), (.int (((StrChars.lo8 xc) &&& (255 : Int32)) <<< ((0 : Int32) &&& 31)))]) _
    refine XS.sipush X3.here hx rfl (oh hby D2 17 rfl) ?_
    refine XS.iand X3.here hx rfl (oh hby D2 18 rfl) rfl ?_
    refine st5 _ ?_
    show oS p e below T5 (mkF m 56 #[vR dd, vI (Int32.ofNat (2 * ii + 1))] [(.int 8), (.int ((StrChars.hi8 xc) &&& (255 : Int32))), (.int (((StrChars.lo8 xc) &&& (255 : Int32)) <<< ((0 : Int32) &&& 31)))]) _
    refine XS.ishl X5.here hx rfl (oh hby D2 20 rfl) rfl ?_
    refine XS.ior X5.here hx rfl (oh hby D2 21 rfl) rfl ?_
    refine XS.i2c X5.here hx rfl (oh hby D2 22 rfl) rfl ?_
    show oS p e below T5 (mkF m 59 #[vR dd, vI (Int32.ofNat (2 * ii + 1))] [(.int (((((StrChars.lo8 xc) &&& (255 : Int32)) <<< ((0 : Int32) &&& 31)) ||| (((StrChars.hi8 xc) &&& (255 : Int32)) <<< ((8 : Int32) &&& 31))).toUInt32.toUInt16.toUInt32.toInt32))]) _
    rw [(show (((((StrChars.lo8 xc) &&& (255 : Int32)) <<< ((0 : Int32) &&& 31)) ||| (((StrChars.hi8 xc) &&& (255 : Int32)) <<< ((8 : Int32) &&& 31))).toUInt32.toUInt16.toUInt32.toInt32) = xc from StrChars.pair_says hc0 hc1)]
    show oS p e below T5 (mkF m 59 #[vR dd, vI (Int32.ofNat (2 * ii + 1))] [(.int xc)]) _
    exact retN X5 hx (t := .char) Bd.returns (by simp) (oh hby D2 23 rfl) (by rw [(show nar .char xc = xc from own_nc hc0 hc1)]; exact hr)
  · show Q_getCh Z dd ii xc kd n2 vs h0 n0 _ T5.heap _
    rw [e5]
    exact ⟨rfl, N0, rfl⟩
theorem ef_3 (m : MethodId) (x0 : Int32) : entryFrame m #[(.int x0)] 1 = mkF m 0 #[vI x0] [] := by first | (simp [entryFrame, mkF, argsToLocals, Value.category]; done) | rfl
def Q_nbl (Z : State) (n : Nat) (h0 : Heap) (n0 : Nat) (v : Option Value) (h : Heap) (L : List Loc) : Prop := (v = some (.int (Int32.ofNat (2 * n)))) ∧ (Fr n0 L) ∧ (h = h0)
set_option maxRecDepth 65536 in
set_option maxHeartbeats 40000000 in
theorem rm_nbl (l : Launch) (Z : State) (a0 : Array Value) (hw : HW Z a0) (ws : List Jvm.Cond) (n : Nat) (h0 : Heap) (n0 : Nat) (Z0 : n0 ≤ h0.size) (hcap : n ≤ 44) :
    mF l y_3 jdk_52_method_3_code 1 (some .int) ws (rmk 0 0 0 0) #[(.int (Int32.ofNat n))] Z h0 (Q_nbl Z n h0 n0) := by
  refine MetFree.of_bodySF (plainFor_of_name pn_0) hisR ?_
  intro p e s m args below meth c s₁ Bd hml0 hP hK
  obtain ⟨rfl, hZ, hh⟩ := hP
  have hx := Bd.exec
  have hby := Bd.bytes
  have hml : c.maxLocals = 1 := hml0
  have hown : s.vm.findClass "java/lang/StringUTF16" = some m.cls := findClass_of_methodNamed Bd.named
  have hnm := (name_of_methodNamed Bd.named Bd.method).1
  have X0 : Stand p l e (rmk 0 0 0 0) s m #[(.int (Int32.ofNat n))] below meth c s₁ [] 0 0 := Stand.of_body Bd
  have e0 : s₁.heap = h0 := by rw [← hh, Bd.state]; rfl
  have N0 := Fr.nil n0
  have pre0 : ∀ t, oS p e below s₁ (mkF m 0 #[vI (Int32.ofNat n)] []) t → oS p e below s₁ (entryFrame m #[(.int (Int32.ofNat n))] 1) t := fun t k => castTop (ef_3 m (Int32.ofNat n)) k
  obtain ⟨fs, hr, hrun, hended, hW, hsame⟩ := X0.leave (v := some (.int (Int32.ofNat (2 * n)))) (fun h => by rw [Bd.returns] at h; cases h)
  refine ⟨_, _, pre0 _ ?_, hrun, hended, _, _, rfl, ?_, ⟨_, rfl⟩, hW, hsame.mono (by decide) (by decide)⟩
  · refine XS.iloadN X0.here hx rfl (oh hby D3 0 rfl) rfl ?_
    refine XS.ifYes X0.here hx rfl (pc0 := 1) (pc' := 12) rfl (oh hby D3 1 rfl) rfl ((if0 _ _).trans (flt ((own_nlt (Nat.zero_le _) (by omega)) : ¬ ((Int32.ofNat n) < (0 : Int32)))).2.1) (by decide) (by decide) ?_
    refine XS.iloadN X0.here hx rfl (oh hby D3 2 rfl) rfl ?_
    show oS p e below s₁ (mkF m 13 #[vI (Int32.ofNat n)] [(.int (Int32.ofNat n))]) _
    refine X0.ldcInt hx hown (mvT hZ (ow hw 225 rfl)) (g := (mkF m 13 #[vI (Int32.ofNat n)] [(.int (Int32.ofNat n))])) rfl (oh hby D3 3 rfl) _ ?_
    show oS p e below s₁ (mkF m 15 #[vI (Int32.ofNat n)] [(.int 1073741823), (.int (Int32.ofNat n))]) _
    refine XS.icmpYes X0.here hx rfl (pc0 := 15) (pc' := 55) rfl (oh hby D3 4 rfl) rfl (tlt ((by rw [Int32.lt_iff_toInt_lt, own_toInt (by omega)]; have e : (1073741823 : Int32).toInt = 1073741823 := rfl; omega) : (Int32.ofNat n) < (1073741823 : Int32))).1 (by decide) (by decide) ?_
    refine XS.iloadN X0.here hx rfl (oh hby D3 5 rfl) rfl ?_
    refine XS.iconst X0.here hx rfl (oh hby D3 6 rfl) ?_
    refine XS.ishl X0.here hx rfl (oh hby D3 7 rfl) rfl ?_
    show oS p e below s₁ (mkF m 58 #[vI (Int32.ofNat n)] [(.int ((Int32.ofNat n) <<< ((1 : Int32) &&& 31)))]) _
    rw [own_shl1]
    show oS p e below s₁ (mkF m 58 #[vI (Int32.ofNat n)] [(.int (Int32.ofNat (2 * n)))]) _
    exact retI X0 hx Bd.returns (oh hby D3 8 rfl) hr
  · show Q_nbl Z n h0 n0 _ s₁.heap _
    rw [e0]
    exact ⟨rfl, N0, rfl⟩
theorem pd_0 : parseMethodDescriptor "(I)I" = some ⟨[.int], some .int⟩ := by decide +kernel
def Q_nbf (Z : State) (n : Nat) (h0 : Heap) (n0 : Nat) (v : Option Value) (h : Heap) (L : List Loc) : Prop := ∃ (tt : Addr) (kt : ClassId), (v = some (.ref tt)) ∧ (Fr n0 L) ∧ (Keep h0 h ([] : List Addr)) ∧ (h0.size ≤ tt) ∧ (Arv Z h tt kt .byte (Int32.ofNat (2 * n)) (List.replicate (2 * n) (.int 0)) (.int 0))
set_option maxRecDepth 65536 in
set_option maxHeartbeats 40000000 in
theorem rm_nbf (l : Launch) (Z : State) (a0 : Array Value) (hw : HW Z a0) (ws : List Jvm.Cond) (n : Nat) (h0 : Heap) (n0 : Nat) (Z0 : n0 ≤ h0.size) (hcap : n ≤ 44) :
    mF l y_4 jdk_52_method_2_code 1 (some (.array .byte)) ws (rmk 1 1 88 12) #[(.int (Int32.ofNat n))] Z h0 (Q_nbf Z n h0 n0) := by
  refine MetFree.of_bodySF (plainFor_of_name pn_0) hisR ?_
  intro p e s m args below meth c s₁ Bd hml0 hP hK
  obtain ⟨rfl, hZ, hh⟩ := hP
  have hx := Bd.exec
  have hby := Bd.bytes
  have hml : c.maxLocals = 1 := hml0
  have hown : s.vm.findClass "java/lang/StringUTF16" = some m.cls := findClass_of_methodNamed Bd.named
  have hnm := (name_of_methodNamed Bd.named Bd.method).1
  have X0 : Stand p l e (rmk 1 1 88 12) s m #[(.int (Int32.ofNat n))] below meth c s₁ [] 0 0 := Stand.of_body Bd
  have e0 : s₁.heap = h0 := by rw [← hh, Bd.state]; rfl
  have N0 := Fr.nil n0
  have pre0 : ∀ t, oS p e below s₁ (mkF m 0 #[vI (Int32.ofNat n)] []) t → oS p e below s₁ (entryFrame m #[(.int (Int32.ofNat n))] 1) t := fun t k => castTop (ef_3 m (Int32.ofNat n)) k
  obtain ⟨_, _, ⟨T1, L1, k1, n1⟩, -, X1, ⟨Lc1, hQ1, l1, y1, z1⟩, st1⟩ := Jvm.LawKit.callS X0 hx (y := y_3) hown (mvT hZ (ow hw 222 rfl)) (mvT hZ (ow hw 223 rfl)) (mvT hZ (ow hw 46 rfl)) (mvT hZ (ow hw 224 rfl)) (by decide) (backOf (W := 0) (rm_nbl l Z a0 hw [] n h0 n0 Z0 hcap) hZ (ow hw 224 rfl) (ow hw 46 rfl) (by decide) (by decide)) (g := (mkF m 1 #[vI (Int32.ofNat n)] [(.int (Int32.ofNat n))])) rfl (by rw [hml]; rfl) (argsL := [(.int (Int32.ofNat n))]) (rest := []) (lenOf pd_0 rfl) rfl (by show 2 * 0 + _ ≤ _; exact Nat.le_of_eq rfl) (oh hby D4 1 rfl) (fun _ _ => ⟨rfl, e0, (by decide : 0 + 0 ≤ _), (by decide : 0 + 0 ≤ _)⟩)
  dsimp only [Pt.U, Pt.locs, Pt.cells, Pt.slots] at X1 l1 y1 z1 st1 hQ1
  subst l1 y1 z1
  obtain ⟨rfl, Nq1, e1⟩ := hQ1
  have N1 := Fr.app N0 Nq1
  obtain ⟨T2, h2, ky2, X2, e2, E2, A2, st2⟩ := newP X1 hx hZ (ow hw 16 rfl) e1 (g := (mkF m 4 #[vI (Int32.ofNat n)] [(.int (Int32.ofNat (2 * n)))])) rfl (oh hby D4 2 rfl) rfl ((own_nlt (Nat.zero_le _) (by omega)) : ¬ ((Int32.ofNat (2 * n)) < (0 : Int32))) (cap := 88) ((by rw [own_clamp (by omega)]; omega) : (Int32.ofNat (2 * n)).toNatClampNeg ≤ 88) (by decide) (by decide) (by decide)
  obtain ⟨b2, g2⟩ : ∃ z, z = h0.size := ⟨_, rfl⟩
  rw [← g2] at A2 st2
  have V2 : Arv Z h2 b2 ky2 .byte (Int32.ofNat (2 * n)) [] (.int 0) := Arv.new A2 (own_nlt (Nat.zero_le _) (by omega))
  have U2 : Arv Z h2 b2 ky2 .byte (Int32.ofNat (2 * n)) (List.replicate (2 * n) (.int 0)) (.int 0) := V2.pad (pad_rep [] (.int 0) (2 * n))
  obtain ⟨fs, hr, hrun, hended, hW, hsame⟩ := X2.leave (v := some (.ref b2)) (fun h => by rw [Bd.returns] at h; cases h)
  refine ⟨_, _, pre0 _ ?_, hrun, hended, _, _, rfl, ?_, ⟨_, rfl⟩, hW, hsame.mono (by decide) (by decide)⟩
  · refine XS.iloadN X0.here hx rfl (oh hby D4 0 rfl) rfl ?_
    refine st1 _ ?_
    show oS p e below T1 (mkF m 4 #[vI (Int32.ofNat n)] [(.int (Int32.ofNat (2 * n)))]) _
    refine st2 _ ?_
    show oS p e below T2 (mkF m 6 #[vI (Int32.ofNat n)] [(.ref b2)]) _
    jvm_step X2.here [X2.here.top, hx, (oh hby D4 3 rfl), X2.method', Bd.returns, Value.isRef, FieldType.isReference]
    first | (intro acts; rw [hr _ acts rfl rfl rfl]) | rw [hr _ _ rfl rfl rfl]
    exact Steps.refl _
  · show Q_nbf Z n h0 n0 _ T2.heap _
    rw [e2]
    exact ⟨b2, ky2, rfl, N1, ((Keep.refl h0 ([] : List Addr)).ext E2), (Nat.le_trans (Nat.le_refl _) (Nat.le_of_eq g2.symm)), U2⟩
theorem pd_1 : parseMethodDescriptor "([BII)V" = some ⟨[(.array .byte), .int, .int], none⟩ := by decide +kernel
set_option maxRecDepth 65536 in
set_option maxHeartbeats 40000000 in
theorem lp_toB {p : Program} {l : Launch} {e : Env} {R : Room} {s : State} {m : MethodId} {args : Array Value} {below : List Frame} {meth : Method} {c : Code} {cells slots : Nat} {Z : State} {a0 : Array Value} {n0 : Nat} (ca : Addr) (kc : ClassId) (cs : List Int32) (dv : Value) (dd : Addr) (kd : ClassId) (o : Nat) (n : Nat) (ds : List Int32) (ie : Nat) (je : Nat) (hx : p.tables.exec = Jvm.exec) (hZ : Z.Warmed39 s.vm) (hw : HW Z a0) (hby : c.code = jdk_52_method_14_code) (hml : c.maxLocals = 5) (hown : s.vm.findClass "java/lang/StringUTF16" = some m.cls) (hcl : cells ≤ R.cells) (hsl : slots ≤ R.slots) (hfr : 1 ≤ R.frames) (hlo : 14 ≤ R.locals) (hN : cs.length < 2 ^ 31) (hy1 : sA Z) (hy2 : sH Z) (hy3 : sL Z) (hy4 : n0 ≤ dd) (hy5 : ca ≠ dd) (hcap : n ≤ 44) (hie : ie = n) (hon : o + n ≤ cs.length) (hds : ds.length = n) (hdc : ∀ q, q < n → ds.getD q 0 = cs.getD (o + q) 0) :
    ∀ (k : Nat) (i : Nat) (j : Nat) (vs : List Value) (T0 : State) (h0 : Heap) (locs : List Loc), Stand p l e R s m args below meth c T0 locs cells slots → T0.heap = h0 → Fr n0 locs → n0 ≤ h0.size → Arv Z h0 ca kc .char (Int32.ofNat cs.length) (cs.map Value.int) dv → Arv Z h0 dd kd .byte (Int32.ofNat (2 * n)) vs (.int 0) → Old Z n0 h0 → (i + k = ie) → (j + k = je) → (j = o + i) → (vs = StrChars.Road.wideBytes (ds.take i) ++ List.replicate (2 * (n - i)) (.int 0)) → ∃ (T' : State) (h' : Heap) (locs' : List Loc), Stand p l e R s m args below meth c T' locs' cells slots ∧ T'.heap = h' ∧ Fr n0 locs' ∧ Keep h0 h' ([dd] : List Addr) ∧ (Arv Z h' dd kd .byte (Int32.ofNat (2 * n)) (StrChars.Road.wideBytes ds) (.int 0)) ∧ ∀ t, Steps p.tables e below (T'.setTop (mkF m 32 #[vR ca, vI (Int32.ofNat je), vI (Int32.ofNat n), vR dd, vI (Int32.ofNat ie)] [])) t → oS p e below T0 (mkF m 8 #[vR ca, vI (Int32.ofNat j), vI (Int32.ofNat n), vR dd, vI (Int32.ofNat i)] []) t := by
  intro k
  induction k with
  | zero =>
    intro i j vs T0 h0 locs X0 e0 N0 Z0 q0 q1 q2 hik hjk hjo hvs
    have pre0 : ∀ t, oS p e below T0 (mkF m 8 #[vR ca, vI (Int32.ofNat j), vI (Int32.ofNat n), vR dd, vI (Int32.ofNat i)] []) t → oS p e below T0 (mkF m 8 #[vR ca, vI (Int32.ofNat j), vI (Int32.ofNat n), vR dd, vI (Int32.ofNat i)] []) t := fun _ kk => kk
    have hi' : i = n := by omega
    have hi2 : i = ie := by omega
    have hj2 : j = je := by omega
    have hv' : vs = StrChars.Road.wideBytes ds := by rw [hvs, hi', Nat.sub_self, List.take_of_length_le (by omega)]; simp
    have R1 : Arv Z h0 dd kd .byte (Int32.ofNat (2 * n)) (StrChars.Road.wideBytes ds) (.int 0) := by have q := q1; rw [hv'] at q; exact q
    have pre2 : ∀ t, oS p e below T0 (mkF m 32 #[vR ca, vI (Int32.ofNat j), vI (Int32.ofNat n), vR dd, vI (Int32.ofNat i)] []) t → oS p e below T0 (mkF m 8 #[vR ca, vI (Int32.ofNat j), vI (Int32.ofNat n), vR dd, vI (Int32.ofNat i)] []) t := fun t kk => pre0 t (by
      refine XS.iload X0.here hx rfl (oh hby D5 5 rfl) rfl ?_
      refine XS.iloadN X0.here hx rfl (oh hby D5 6 rfl) rfl ?_
      refine XS.icmpYes X0.here hx rfl (pc0 := 11) (pc' := 32) rfl (oh hby D5 7 rfl) rfl (flt ((own_nlt (by omega) (by omega)) : ¬ ((Int32.ofNat i) < (Int32.ofNat n)))).2.1 (by decide) (by decide) ?_
      show oS p e below T0 (mkF m 32 #[vR ca, vI (Int32.ofNat j), vI (Int32.ofNat n), vR dd, vI (Int32.ofNat i)] []) _
      exact kk)
    exact ⟨T0, h0, _, X0, e0, N0, (Keep.refl h0 ([dd] : List Addr)), R1, (by rw [← hi2, ← hj2]; exact pre2)⟩
  | succ k ih =>
    intro i j vs T0 h0 locs X0 e0 N0 Z0 q0 q1 q2 hik hjk hjo hvs
    have pre0 : ∀ t, oS p e below T0 (mkF m 8 #[vR ca, vI (Int32.ofNat j), vI (Int32.ofNat n), vR dd, vI (Int32.ofNat i)] []) t → oS p e below T0 (mkF m 8 #[vR ca, vI (Int32.ofNat j), vI (Int32.ofNat n), vR dd, vI (Int32.ofNat i)] []) t := fun _ kk => kk
    have hj' : j < cs.length := by omega
    have hdi : ds.getD i 0 = cs.getD j 0 := by rw [hdc i (by omega), hjo]
    have hvl : vs.length = 2 * n := by rw [hvs, List.length_append, own_widelen, List.length_take, List.length_replicate]; omega
    obtain ⟨cl1, Ar1, qq1, S1, M1, Hh1, U1⟩ := id q0
    have ib1 : ¬ ((Int32.ofNat j) < 0 ∨ cl1.slots.size ≤ ((Int32.ofNat j)).toNatClampNeg) := inb_of S1 (own_inb hj' hN)
    obtain ⟨_, _, ⟨T2, L2, k2, n2⟩, -, X2, ⟨Lc2, hQ2, l2, y2, z2⟩, st2⟩ := Jvm.LawKit.callS X0 hx (y := y_1) hown (mvT hZ (ow hw 226 rfl)) (mvT hZ (ow hw 227 rfl)) (mvT hZ (ow hw 46 rfl)) (mvT hZ (ow hw 228 rfl)) (by decide) (backOf (W := 0) (rm_putCh l Z a0 hw [] dd i (cs.getD j 0) kd (2 * n) vs h0 n0 Z0 hy1 hy2 hy3 q2 q1 hy4 (by omega) (by omega) (hvl)) hZ (ow hw 228 rfl) (ow hw 46 rfl) (Nat.le_trans (by decide) hfr) (Nat.le_trans (by decide) hlo)) (g := (mkF m 20 #[vR ca, vI (Int32.ofNat j), vI (Int32.ofNat n), vR dd, vI (Int32.ofNat i)] [(.int (cs.getD j 0)), (.int (Int32.ofNat i)), (.ref dd)])) rfl (by rw [hml]; rfl) (argsL := [(.ref dd), (.int (Int32.ofNat i)), (.int (cs.getD j 0))]) (rest := []) (lenOf pd_1 rfl) rfl (by show 2 * 0 + _ ≤ _; exact Nat.le_of_eq rfl) (oh hby D5 13 rfl) (fun _ _ => ⟨rfl, e0, hcl, hsl⟩)
    dsimp only [Pt.U, Pt.locs, Pt.cells, Pt.slots] at X2 l2 y2 z2 st2 hQ2
    subst l2 y2 z2
    obtain ⟨rfl, Nq2, K2, f2_0⟩ := hQ2
    have N2 := Fr.app N0 Nq2
    have pre3 : ∀ t, oS p e below T2 (mkF m 8 #[vR ca, vI ((Int32.ofNat j) + (1 : Int32)), vI (Int32.ofNat n), vR dd, vI ((Int32.ofNat i) + (1 : Int32))] []) t → oS p e below T0 (mkF m 8 #[vR ca, vI (Int32.ofNat j), vI (Int32.ofNat n), vR dd, vI (Int32.ofNat i)] []) t := fun t kk => pre0 t (by
      refine XS.iload X0.here hx rfl (oh hby D5 5 rfl) rfl ?_
      refine XS.iloadN X0.here hx rfl (oh hby D5 6 rfl) rfl ?_
      refine XS.icmpNo X0.here hx rfl (oh hby D5 7 rfl) rfl (tlt ((own_inb (by omega) (by omega)).2 : (Int32.ofNat i) < (Int32.ofNat n))).2.1 ?_
      refine XS.aloadN X0.here hx rfl (oh hby D5 8 rfl) rfl rfl ?_
      refine XS.iload X0.here hx rfl (oh hby D5 9 rfl) rfl ?_
      show oS p e below T0 (mkF m 17 #[vR ca, vI (Int32.ofNat j), vI (Int32.ofNat n), vR dd, vI (Int32.ofNat i)] [(.int (Int32.ofNat i)), (.ref dd)]) _
      refine XS.aloadN X0.here hx rfl (oh hby D5 10 rfl) rfl rfl ?_
      refine XS.iloadN X0.here hx rfl (oh hby D5 11 rfl) rfl ?_
      show oS p e below T0 (mkF m 19 #[vR ca, vI (Int32.ofNat j), vI (Int32.ofNat n), vR dd, vI (Int32.ofNat i)] [(.int (Int32.ofNat j)), (.ref ca), (.int (Int32.ofNat i)), (.ref dd)]) _
      refine X0.caload hx (j := (Int32.ofNat j)) (v := (.int (cs.getD j 0))) (by rw [e0]; exact Ar1.1) (State.isArrayOf_alike hZ.alike Ar1.2.1) Ar1.2.2 ib1 (Hh1.at ib1 (own_mapat hj' hN)) (g := (mkF m 19 #[vR ca, vI (Int32.ofNat j), vI (Int32.ofNat n), vR dd, vI (Int32.ofNat i)] [(.int (Int32.ofNat j)), (.ref ca), (.int (Int32.ofNat i)), (.ref dd)])) rfl rfl (oh hby D5 12 rfl) _ ?_
      show oS p e below T0 (mkF m 20 #[vR ca, vI (Int32.ofNat j), vI (Int32.ofNat n), vR dd, vI (Int32.ofNat i)] [(.int (cs.getD j 0)), (.int (Int32.ofNat i)), (.ref dd)]) _
      refine st2 _ ?_
      show oS p e below T2 (mkF m 23 #[vR ca, vI (Int32.ofNat j), vI (Int32.ofNat n), vR dd, vI (Int32.ofNat i)] []) _
      refine XS.iinc X2.here hx rfl (oh hby D5 14 rfl) rfl (l' := #[vR ca, vI ((Int32.ofNat j) + (1 : Int32)), vI (Int32.ofNat n), vR dd, vI (Int32.ofNat i)]) rfl ?_
      refine XS.iinc X2.here hx rfl (oh hby D5 15 rfl) rfl (l' := #[vR ca, vI ((Int32.ofNat j) + (1 : Int32)), vI (Int32.ofNat n), vR dd, vI ((Int32.ofNat i) + (1 : Int32))]) rfl ?_
      refine XS.goto X2.here hx rfl (pc0 := 29) (pc' := 8) rfl (oh hby D5 16 rfl) (by decide) (by decide) ?_
      show oS p e below T2 (mkF m 8 #[vR ca, vI ((Int32.ofNat j) + (1 : Int32)), vI (Int32.ofNat n), vR dd, vI ((Int32.ofNat i) + (1 : Int32))] []) _
      exact kk)
    have c4 := (q0.keep K2 (ninS hy5 nin0))
    have c5 := (q2.keep K2 (allS hy4 all0))
    have preH : ∀ t, oS p e below T2 (mkF m 8 #[vR ca, vI (Int32.ofNat (j + 1)), vI (Int32.ofNat n), vR dd, vI (Int32.ofNat (i + 1))] []) t → oS p e below T0 (mkF m 8 #[vR ca, vI (Int32.ofNat j), vI (Int32.ofNat n), vR dd, vI (Int32.ofNat i)] []) t := by
      rw [inc_ofNat i, inc_ofNat j]
      exact pre3
    obtain ⟨T9, h9, lo9, X9, e9, N9, K9, g9_0, pre9⟩ := ih ((i + 1)) ((j + 1)) (((vs.set (2 * i) (.int (StrChars.lo8 (cs.getD j 0)))).set (2 * i + 1) (.int (StrChars.hi8 (cs.getD j 0))))) T2 T2.heap _ X2 rfl N2 (Nat.le_trans Z0 K2.1) c4 f2_0 c5 (by omega) (by omega) (by omega) (by rw [← hdi, hvs]; exact own_widestep hds (by omega) _)
    exact ⟨T9, h9, _, X9, e9, N9, (((Keep.refl h0 ([dd] : List Addr)).trans K2 (allS (Or.inl (by simp)) all0)).trans K9 (allS (Or.inl (by simp)) all0)), g9_0, fun t kk => preH t (pre9 t kk)⟩
theorem pd_2 : parseMethodDescriptor "(I)[B" = some ⟨[.int], some (.array .byte)⟩ := by decide +kernel
theorem ef_4 (m : MethodId) (x0 : Addr) (x1 : Int32) (x2 : Int32) : entryFrame m #[(.ref x0), (.int x1), (.int x2)] 5 = mkF m 0 #[vR x0, vI x1, vI x2, .unset, .unset] [] := by first | (simp [entryFrame, mkF, argsToLocals, Value.category]; done) | rfl
def Q_toByt (Z : State) (ca : Addr) (kc : ClassId) (cs : List Int32) (dv : Value) (o : Nat) (n : Nat) (ds : List Int32) (h0 : Heap) (n0 : Nat) (v : Option Value) (h : Heap) (L : List Loc) : Prop := ∃ (tt : Addr) (kt : ClassId), (v = some (.ref tt)) ∧ (Fr n0 L) ∧ (Keep h0 h ([] : List Addr)) ∧ (h0.size ≤ tt) ∧ (Arv Z h tt kt .byte (Int32.ofNat (2 * n)) (StrChars.Road.wideBytes ds) (.int 0))
set_option maxRecDepth 65536 in
set_option maxHeartbeats 40000000 in
theorem rm_toByt (l : Launch) (Z : State) (a0 : Array Value) (hw : HW Z a0) (ws : List Jvm.Cond) (ca : Addr) (kc : ClassId) (cs : List Int32) (dv : Value) (o : Nat) (n : Nat) (ds : List Int32) (h0 : Heap) (n0 : Nat) (Z0 : n0 ≤ h0.size) (q0 : Arv Z h0 ca kc .char (Int32.ofNat cs.length) (cs.map Value.int) dv) (hN : cs.length < 2 ^ 31) (q2 : sA Z) (q3 : sH Z) (q4 : sL Z) (q5 : Old Z n0 h0) (hcap : n ≤ 44) (hon : o + n ≤ cs.length) (hds : ds.length = n) (hdc : ∀ q, q < n → ds.getD q 0 = cs.getD (o + q) 0) :
    mF l y_5 jdk_52_method_14_code 5 (some (.array .byte)) ws (rmk 2 1 88 24) #[(.ref ca), (.int (Int32.ofNat o)), (.int (Int32.ofNat n))] Z h0 (Q_toByt Z ca kc cs dv o n ds h0 n0) := by
  refine MetFree.of_bodySF (plainFor_of_name pn_0) hisR ?_
  intro p e s m args below meth c s₁ Bd hml0 hP hK
  obtain ⟨rfl, hZ, hh⟩ := hP
  have hx := Bd.exec
  have hby := Bd.bytes
  have hml : c.maxLocals = 5 := hml0
  have hown : s.vm.findClass "java/lang/StringUTF16" = some m.cls := findClass_of_methodNamed Bd.named
  have hnm := (name_of_methodNamed Bd.named Bd.method).1
  have X0 : Stand p l e (rmk 2 1 88 24) s m #[(.ref ca), (.int (Int32.ofNat o)), (.int (Int32.ofNat n))] below meth c s₁ [] 0 0 := Stand.of_body Bd
  have e0 : s₁.heap = h0 := by rw [← hh, Bd.state]; rfl
  have N0 := Fr.nil n0
  have pre0 : ∀ t, oS p e below s₁ (mkF m 0 #[vR ca, vI (Int32.ofNat o), vI (Int32.ofNat n), .unset, .unset] []) t → oS p e below s₁ (entryFrame m #[(.ref ca), (.int (Int32.ofNat o)), (.int (Int32.ofNat n))] 5) t := fun t k => castTop (ef_4 m ca (Int32.ofNat o) (Int32.ofNat n)) k
  obtain ⟨_, _, ⟨T1, L1, k1, n1⟩, -, X1, ⟨Lc1, hQ1, l1, y1, z1⟩, st1⟩ := Jvm.LawKit.callS X0 hx (y := y_4) hown (mvT hZ (ow hw 219 rfl)) (mvT hZ (ow hw 220 rfl)) (mvT hZ (ow hw 46 rfl)) (mvT hZ (ow hw 221 rfl)) (by decide) (backOf (W := 0) (rm_nbf l Z a0 hw [] n h0 n0 Z0 hcap) hZ (ow hw 221 rfl) (ow hw 46 rfl) (by decide) (by decide)) (g := (mkF m 1 #[vR ca, vI (Int32.ofNat o), vI (Int32.ofNat n), .unset, .unset] [(.int (Int32.ofNat n))])) rfl (by rw [hml]; rfl) (argsL := [(.int (Int32.ofNat n))]) (rest := []) (lenOf pd_2 rfl) rfl (by show 2 * 0 + _ ≤ _; exact Nat.le_of_eq rfl) (oh hby D5 1 rfl) (fun _ _ => ⟨rfl, e0, (by decide : 0 + 1 ≤ _), (by decide : 0 + 88 ≤ _)⟩)
  dsimp only [Pt.U, Pt.locs, Pt.cells, Pt.slots] at X1 l1 y1 z1 st1 hQ1
  subst l1 y1 z1
  obtain ⟨tt_1, kt_1, rfl, Nq1, K1, f1_0, f1_1⟩ := hQ1
  have N1 := Fr.app N0 Nq1
  have pre2 : ∀ t, oS p e below T1 (mkF m 8 #[vR ca, vI (Int32.ofNat o), vI (Int32.ofNat n), vR tt_1, vI 0] []) t → oS p e below s₁ (entryFrame m #[(.ref ca), (.int (Int32.ofNat o)), (.int (Int32.ofNat n))] 5) t := fun t kk => pre0 t (by
    refine XS.iloadN X0.here hx rfl (oh hby D5 0 rfl) rfl ?_
    refine st1 _ ?_
    show oS p e below T1 (mkF m 4 #[vR ca, vI (Int32.ofNat o), vI (Int32.ofNat n), .unset, .unset] [(.ref tt_1)]) _
    refine XS.astoreN X1.here hx rfl (oh hby D5 2 rfl) rfl rfl (l' := #[vR ca, vI (Int32.ofNat o), vI (Int32.ofNat n), vR tt_1, .unset]) rfl ?_
    refine XS.iconst X1.here hx rfl (oh hby D5 3 rfl) ?_
    refine XS.istore X1.here hx rfl (oh hby D5 4 rfl) rfl (l' := #[vR ca, vI (Int32.ofNat o), vI (Int32.ofNat n), vR tt_1, vI 0]) rfl ?_
    show oS p e below T1 (mkF m 8 #[vR ca, vI (Int32.ofNat o), vI (Int32.ofNat n), vR tt_1, vI 0] []) _
    exact kk)
  have c3 := (q0.keep K1 nin0)
  have ge4 : n0 ≤ tt_1 := Nat.le_trans Z0 (Nat.le_trans (Nat.le_refl _) f1_0)
  have ne5 : ca ≠ tt_1 := Nat.ne_of_lt (Nat.lt_of_lt_of_le q0.lt f1_0)
  have c6 := (q5.keep K1 all0)
  have preh7 : ∀ t, oS p e below T1 (mkF m 8 #[vR ca, vI (Int32.ofNat o), vI (Int32.ofNat n), vR tt_1, vI (Int32.ofNat 0)] []) t → oS p e below s₁ (entryFrame m #[(.ref ca), (.int (Int32.ofNat o)), (.int (Int32.ofNat n))] 5) t := by
    exact pre2
  obtain ⟨T7, h7, lo7, X7, e7, N7, K7, f7_0, st7⟩ := lp_toB (ca) (kc) (cs) (dv) (tt_1) (kt_1) (o) (n) (ds) (n) ((o + n)) hx hZ hw hby hml hown (by decide : 1 ≤ _) (by decide : 88 ≤ _) (by decide) (by decide) hN q2 q3 q4 ge4 ne5 hcap (rfl) hon hds hdc n (0) (o) ((List.replicate (2 * n) (.int 0))) T1 T1.heap _ X1 rfl N1 (Nat.le_trans Z0 K1.1) c3 f1_1 c6 (by omega) (rfl) (rfl) (by simp [StrChars.Road.wideBytes])
  obtain ⟨fs, hr, hrun, hended, hW, hsame⟩ := X7.leave (v := some (.ref tt_1)) (fun h => by rw [Bd.returns] at h; cases h)
  refine ⟨_, _, preh7 _ ?_, hrun, hended, _, _, rfl, ?_, ⟨_, rfl⟩, hW, hsame.mono (by decide) (by decide)⟩
  · refine st7 _ ?_
    show oS p e below T7 (mkF m 32 #[vR ca, vI (Int32.ofNat (o + n)), vI (Int32.ofNat n), vR tt_1, vI (Int32.ofNat n)] []) _
    refine XS.aloadN X7.here hx rfl (oh hby D5 17 rfl) rfl rfl ?_
    show oS p e below T7 (mkF m 33 #[vR ca, vI (Int32.ofNat (o + n)), vI (Int32.ofNat n), vR tt_1, vI (Int32.ofNat n)] [(.ref tt_1)]) _
    jvm_step X7.here [X7.here.top, hx, (oh hby D5 18 rfl), X7.method', Bd.returns, Value.isRef, FieldType.isReference]
    first | (intro acts; rw [hr _ acts rfl rfl rfl]) | rw [hr _ _ rfl rfl rfl]
    exact Steps.refl _
  · show Q_toByt Z ca kc cs dv o n ds h0 n0 _ T7.heap _
    rw [e7]
    exact ⟨tt_1, kt_1, rfl, N7, (((Keep.refl h0 ([] : List Addr)).trans K1 all0).trans K7 (allS (Or.inr (Nat.le_trans (Nat.le_refl _) f1_0)) all0)), (Nat.le_trans (Nat.le_refl _) f1_0), f7_0⟩
theorem pd_3 : parseMethodDescriptor "([CI[BII)I" = some ⟨[(.array .char), .int, (.array .byte), .int, .int], some .int⟩ := by decide +kernel
theorem pd_4 : parseMethodDescriptor "([CII)[B" = some ⟨[(.array .char), .int, .int], some (.array .byte)⟩ := by decide +kernel
theorem pd_5 : parseMethodDescriptor "([BI)C" = some ⟨[(.array .byte), .int], some .char⟩ := by decide +kernel
theorem ef_5 (m : MethodId) (x0 : Addr) (x1 : Int32) (x2 : Int32) : entryFrame m #[(.ref x0), (.int x1), (.int x2)] 6 = mkF m 0 #[vR x0, vI x1, vI x2, .unset, .unset, .unset] [] := by first | (simp [entryFrame, mkF, argsToLocals, Value.category]; done) | rfl
def Q_cmp3w (Z : State) (ca : Addr) (kc : ClassId) (cs : List Int32) (dv : Value) (o : Nat) (n : Nat) (rr : Nat) (ds : List Int32) (h0 : Heap) (n0 : Nat) (v : Option Value) (h : Heap) (L : List Loc) : Prop := ∃ (tt : Addr) (kt : ClassId), (v = some (.ref tt)) ∧ (Fr n0 L) ∧ (Keep h0 h ([] : List Addr)) ∧ (h0.size ≤ tt) ∧ (Arv Z h tt kt .byte (Int32.ofNat (2 * n)) (StrChars.Road.wideBytes ds) (.int 0))
set_option maxRecDepth 65536 in
set_option maxHeartbeats 40000000 in
theorem rm_cmp3w (l : Launch) (Z : State) (a0 : Array Value) (hw : HW Z a0) (ws : List Jvm.Cond) (ca : Addr) (kc : ClassId) (cs : List Int32) (dv : Value) (o : Nat) (n : Nat) (rr : Nat) (ds : List Int32) (h0 : Heap) (n0 : Nat) (Z0 : n0 ≤ h0.size) (q0 : Arv Z h0 ca kc .char (Int32.ofNat cs.length) (cs.map Value.int) dv) (hN : cs.length < 2 ^ 31) (q2 : sA Z) (q3 : sH Z) (q4 : sL Z) (q5 : Old Z n0 h0) (hcap : n ≤ 44) (hon : o + n ≤ cs.length) (hds : ds.length = n) (hdc : ∀ q, q < n → ds.getD q 0 = cs.getD (o + q) 0) (hrn : rr < n) (hlow : ∀ q, q < rr → ¬ (255 : Int32) < cs.getD (o + q) 0) (hwide : (255 : Int32) < cs.getD (o + rr) 0) (hc0 : ¬ cs.getD (o + rr) 0 < 0) (hc1 : ¬ (65535 : Int32) < cs.getD (o + rr) 0) :
    mF l y_6 jdk_52_method_16_code 6 (some (.array .byte)) ws (rmk 3 2 132 40) #[(.ref ca), (.int (Int32.ofNat o)), (.int (Int32.ofNat n))] Z h0 (Q_cmp3w Z ca kc cs dv o n rr ds h0 n0) := by
  refine MetFree.of_bodySF (plainFor_of_name pn_0) hisR ?_
  intro p e s m args below meth c s₁ Bd hml0 hP hK
  obtain ⟨rfl, hZ, hh⟩ := hP
  have hx := Bd.exec
  have hby := Bd.bytes
  have hml : c.maxLocals = 6 := hml0
  have hown : s.vm.findClass "java/lang/StringUTF16" = some m.cls := findClass_of_methodNamed Bd.named
  have hnm := (name_of_methodNamed Bd.named Bd.method).1
  have X0 : Stand p l e (rmk 3 2 132 40) s m #[(.ref ca), (.int (Int32.ofNat o)), (.int (Int32.ofNat n))] below meth c s₁ [] 0 0 := Stand.of_body Bd
  have e0 : s₁.heap = h0 := by rw [← hh, Bd.state]; rfl
  have N0 := Fr.nil n0
  have pre0 : ∀ t, oS p e below s₁ (mkF m 0 #[vR ca, vI (Int32.ofNat o), vI (Int32.ofNat n), .unset, .unset, .unset] []) t → oS p e below s₁ (entryFrame m #[(.ref ca), (.int (Int32.ofNat o)), (.int (Int32.ofNat n))] 6) t := fun t k => castTop (ef_5 m ca (Int32.ofNat o) (Int32.ofNat n)) k
  have hdr : ds.getD rr 0 = cs.getD (o + rr) 0 := hdc rr hrn
  obtain ⟨T1, h1, ky1, X1, e1, E1, A1, st1⟩ := newP X0 hx hZ (ow hw 16 rfl) e0 (g := (mkF m 1 #[vR ca, vI (Int32.ofNat o), vI (Int32.ofNat n), .unset, .unset, .unset] [(.int (Int32.ofNat n))])) rfl (oh hby D6 1 rfl) rfl ((own_nlt (Nat.zero_le _) (by omega)) : ¬ ((Int32.ofNat n) < (0 : Int32))) (cap := 44) ((by rw [own_clamp (by omega)]; omega) : (Int32.ofNat n).toNatClampNeg ≤ 44) (by decide) (by decide) (by decide)
  obtain ⟨b1, g1⟩ : ∃ z, z = h0.size := ⟨_, rfl⟩
  rw [← g1] at A1 st1
  have V1 : Arv Z h1 b1 ky1 .byte (Int32.ofNat n) [] (.int 0) := Arv.new A1 (own_nlt (Nat.zero_le _) (by omega))
  have U1 : Arv Z h1 b1 ky1 .byte (Int32.ofNat n) (List.replicate n (.int 0)) (.int 0) := V1.pad (pad_rep [] (.int 0) n)
  have c2 := (q0.ext E1)
  have ge3 : n0 ≤ b1 := Nat.le_trans Z0 (Nat.le_trans (Nat.le_refl _) (Nat.le_of_eq g1.symm))
  have ne4 : ca ≠ b1 := Nat.ne_of_lt (Nat.lt_of_lt_of_le q0.lt (Nat.le_of_eq g1.symm))
  obtain ⟨_, _, ⟨T5, L5, k5, n5⟩, -, X5, ⟨Lc5, hQ5, l5, y5, z5⟩, st5⟩ := Jvm.LawKit.callS X1 hx (y := y_0) hown (mvT hZ (ow hw 48 rfl)) (mvT hZ (ow hw 49 rfl)) (mvT hZ (ow hw 46 rfl)) (mvT hZ (ow hw 50 rfl)) (by decide) (backOf (W := 0) (rm_cmp5w l Z a0 hw [] ca kc cs dv b1 ky1 o n rr (List.replicate n (.int 0)) h1 n0 (Nat.le_trans Z0 E1.1) c2 hN U1 ge3 ne4 (by simp) hon hrn hlow hwide) hZ (ow hw 50 rfl) (ow hw 46 rfl) (by decide) (by decide)) (g := (mkF m 9 #[vR ca, vI (Int32.ofNat o), vI (Int32.ofNat n), vR b1, .unset, .unset] [(.int (Int32.ofNat n)), (.int 0), (.ref b1), (.int (Int32.ofNat o)), (.ref ca)])) rfl (by rw [hml]; rfl) (argsL := [(.ref ca), (.int (Int32.ofNat o)), (.ref b1), (.int 0), (.int (Int32.ofNat n))]) (rest := []) (lenOf pd_3 rfl) rfl (by show 2 * 0 + _ ≤ _; exact Nat.le_of_eq rfl) (oh hby D6 8 rfl) (fun _ _ => ⟨rfl, e1, (by decide : 1 + 0 ≤ _), (by decide : 44 + 0 ≤ _)⟩)
  dsimp only [Pt.U, Pt.locs, Pt.cells, Pt.slots] at X5 l5 y5 z5 st5 hQ5
  subst l5 y5 z5
  obtain ⟨rfl, Nq5, K5⟩ := hQ5
  have N5 := Fr.app N0 Nq5
  have c6 := (c2.keep K5 (ninS ne4 nin0))
  have c7 := ((q5.ext E1).keep K5 (allS ge3 all0))
  obtain ⟨_, _, ⟨T8, L8, k8, n8⟩, -, X8, ⟨Lc8, hQ8, l8, y8, z8⟩, st8⟩ := Jvm.LawKit.callS X5 hx (y := y_5) hown (mvT hZ (ow hw 216 rfl)) (mvT hZ (ow hw 217 rfl)) (mvT hZ (ow hw 46 rfl)) (mvT hZ (ow hw 218 rfl)) (by decide) (backOf (W := 0) (rm_toByt l Z a0 hw [] ca kc cs dv o n ds T5.heap n0 (Nat.le_trans Z0 (Nat.le_trans E1.1 K5.1)) c6 hN q2 q3 q4 c7 hcap hon hds hdc) hZ (ow hw 218 rfl) (ow hw 46 rfl) (by decide) (by decide)) (g := (mkF m 23 #[vR ca, vI (Int32.ofNat o), vI (Int32.ofNat n), vR b1, vI (Int32.ofNat rr), .unset] [(.int (Int32.ofNat n)), (.int (Int32.ofNat o)), (.ref ca)])) rfl (by rw [hml]; rfl) (argsL := [(.ref ca), (.int (Int32.ofNat o)), (.int (Int32.ofNat n))]) (rest := []) (lenOf pd_4 rfl) rfl (by show 2 * 0 + _ ≤ _; exact Nat.le_of_eq rfl) (oh hby D6 16 rfl) (fun _ _ => ⟨rfl, rfl, (by decide : 1 + 1 ≤ _), (by decide : 44 + 88 ≤ _)⟩)
  dsimp only [Pt.U, Pt.locs, Pt.cells, Pt.slots] at X8 l8 y8 z8 st8 hQ8
  subst l8 y8 z8
  obtain ⟨tt_8, kt_8, rfl, Nq8, K8, f8_0, f8_1⟩ := hQ8
  have N8 := Fr.app N5 Nq8
  have c9 := (c7.keep K8 all0)
  obtain ⟨_, _, ⟨T10, L10, k10, n10⟩, -, X10, ⟨Lc10, hQ10, l10, y10, z10⟩, st10⟩ := Jvm.LawKit.callS X8 hx (y := y_2) hown (mvT hZ (ow hw 232 rfl)) (mvT hZ (ow hw 233 rfl)) (mvT hZ (ow hw 46 rfl)) (mvT hZ (ow hw 234 rfl)) (by decide) (backOf (W := 0) (rm_getCh l Z a0 hw [] tt_8 rr (cs.getD (o + rr) 0) kt_8 (2 * n) (StrChars.Road.wideBytes ds) T8.heap n0 (Nat.le_trans Z0 (Nat.le_trans (Nat.le_trans E1.1 K5.1) K8.1)) q2 q3 q4 c9 f8_1 (by omega) (by omega) (by rw [← hdr]; exact StrChars.Road.wide_lo _ _ _ (by omega)) (by rw [← hdr]; exact StrChars.Road.wide_hi _ _ _ (by omega)) (by first | assumption | decide) (by first | assumption | decide)) hZ (ow hw 234 rfl) (ow hw 46 rfl) (by decide) (by decide)) (g := (mkF m 32 #[vR ca, vI (Int32.ofNat o), vI (Int32.ofNat n), vR b1, vI (Int32.ofNat rr), vR tt_8] [(.int (Int32.ofNat rr)), (.ref tt_8)])) rfl (by rw [hml]; rfl) (argsL := [(.ref tt_8), (.int (Int32.ofNat rr))]) (rest := []) (lenOf pd_5 rfl) rfl (by show 2 * 0 + _ ≤ _; exact Nat.le_of_eq rfl) (oh hby D6 20 rfl) (fun _ _ => ⟨rfl, rfl, (by decide : 2 + 0 ≤ _), (by decide : 132 + 0 ≤ _)⟩)
  dsimp only [Pt.U, Pt.locs, Pt.cells, Pt.slots] at X10 l10 y10 z10 st10 hQ10
  subst l10 y10 z10
  obtain ⟨rfl, Nq10, e10⟩ := hQ10
  have N10 := Fr.app N8 Nq10
  obtain ⟨fs, hr, hrun, hended, hW, hsame⟩ := X10.leave (v := some (.ref tt_8)) (fun h => by rw [Bd.returns] at h; cases h)
  refine ⟨_, _, pre0 _ ?_, hrun, hended, _, _, rfl, ?_, ⟨_, rfl⟩, hW, hsame.mono (by decide) (by decide)⟩
  · refine XS.iloadN X0.here hx rfl (oh hby D6 0 rfl) rfl ?_
    refine st1 _ ?_
    show oS p e below T1 (mkF m 3 #[vR ca, vI (Int32.ofNat o), vI (Int32.ofNat n), .unset, .unset, .unset] [(.ref b1)]) _
    refine XS.astoreN X1.here hx rfl (oh hby D6 2 rfl) rfl rfl (l' := #[vR ca, vI (Int32.ofNat o), vI (Int32.ofNat n), vR b1, .unset, .unset]) rfl ?_
    refine XS.aloadN X1.here hx rfl (oh hby D6 3 rfl) rfl rfl ?_
    refine XS.iloadN X1.here hx rfl (oh hby D6 4 rfl) rfl ?_
    refine XS.aloadN X1.here hx rfl (oh hby D6 5 rfl) rfl rfl ?_
    refine XS.iconst X1.here hx rfl (oh hby D6 6 rfl) ?_
    show oS p e below T1 (mkF m 8 #[vR ca, vI (Int32.ofNat o), vI (Int32.ofNat n), vR b1, .unset, .unset] [(.int 0), (.ref b1), (.int (Int32.ofNat o)), (.ref ca)]) _
    refine XS.iloadN X1.here hx rfl (oh hby D6 7 rfl) rfl ?_
    refine st5 _ ?_
    show oS p e below T5 (mkF m 12 #[vR ca, vI (Int32.ofNat o), vI (Int32.ofNat n), vR b1, .unset, .unset] [(.int (Int32.ofNat rr))]) _
    refine XS.istore X5.here hx rfl (oh hby D6 9 rfl) rfl (l' := #[vR ca, vI (Int32.ofNat o), vI (Int32.ofNat n), vR b1, vI (Int32.ofNat rr), .unset]) rfl ?_
    refine XS.iload X5.here hx rfl (oh hby D6 10 rfl) rfl ?_
    refine XS.iloadN X5.here hx rfl (oh hby D6 11 rfl) rfl ?_
    refine XS.icmpNo X5.here hx rfl (oh hby D6 12 rfl) rfl (feq ((fun q => absurd (own_oinj (by omega) (by omega) q) (by omega)) : ¬ ((Int32.ofNat rr) = (Int32.ofNat n)))).1 ?_
    refine XS.aloadN X5.here hx rfl (oh hby D6 13 rfl) rfl rfl ?_
    show oS p e below T5 (mkF m 21 #[vR ca, vI (Int32.ofNat o), vI (Int32.ofNat n), vR b1, vI (Int32.ofNat rr), .unset] [(.ref ca)]) _
    refine XS.iloadN X5.here hx rfl (oh hby D6 14 rfl) rfl ?_
    refine XS.iloadN X5.here hx rfl (oh hby D6 15 rfl) rfl ?_
    refine st8 _ ?_
    show oS p e below T8 (mkF m 26 #[vR ca, vI (Int32.ofNat o), vI (Int32.ofNat n), vR b1, vI (Int32.ofNat rr), .unset] [(.ref tt_8)]) _
    refine XS.astore X8.here hx rfl (oh hby D6 17 rfl) rfl rfl (l' := #[vR ca, vI (Int32.ofNat o), vI (Int32.ofNat n), vR b1, vI (Int32.ofNat rr), vR tt_8]) rfl ?_
    refine XS.aload X8.here hx rfl (oh hby D6 18 rfl) rfl rfl ?_
    refine XS.iload X8.here hx rfl (oh hby D6 19 rfl) rfl ?_
    refine st10 _ ?_
    show oS p e below T10 (mkF m 35 #[vR ca, vI (Int32.ofNat o), vI (Int32.ofNat n), vR b1, vI (Int32.ofNat rr), vR tt_8] [(.int (cs.getD (o + rr) 0))]) _
    refine XS.sipush X10.here hx rfl (oh hby D6 21 rfl) ?_
    refine XS.icmpYes X10.here hx rfl (pc0 := 38) (pc' := 54) rfl (oh hby D6 22 rfl) rfl (tlt (hwide : (255 : Int32) < (cs.getD (o + rr) 0))).2.2.1 (by decide) (by decide) ?_
    refine XS.aload X10.here hx rfl (oh hby D6 23 rfl) rfl rfl ?_
    show oS p e below T10 (mkF m 56 #[vR ca, vI (Int32.ofNat o), vI (Int32.ofNat n), vR b1, vI (Int32.ofNat rr), vR tt_8] [(.ref tt_8)]) _
    jvm_step X10.here [X10.here.top, hx, (oh hby D6 24 rfl), X10.method', Bd.returns, Value.isRef, FieldType.isReference]
    first | (intro acts; rw [hr _ acts rfl rfl rfl]) | rw [hr _ _ rfl rfl rfl]
    exact Steps.refl _
  · show Q_cmp3w Z ca kc cs dv o n rr ds h0 n0 _ T10.heap _
    rw [e10]
    exact ⟨tt_8, kt_8, rfl, N10, ((((Keep.refl h0 ([] : List Addr)).ext E1).trans K5 (allS (Or.inr (Nat.le_trans (Nat.le_refl _) (Nat.le_of_eq g1.symm))) all0)).trans K8 all0), (Nat.le_trans (Nat.le_trans E1.1 K5.1) f8_0), f8_1⟩
def Q_codL1 (Z : State) (dd : Addr) (n : Nat) (kd : ClassId) (vs : List Value) (h0 : Heap) (n0 : Nat) (v : Option Value) (h : Heap) (L : List Loc) : Prop := (v = some (.int 1)) ∧ (Fr n0 L) ∧ (h = h0)
set_option maxRecDepth 65536 in
set_option maxHeartbeats 40000000 in
theorem rm_codL1 (l : Launch) (Z : State) (a0 : Array Value) (hw : HW Z a0) (ws : List Jvm.Cond) (dd : Addr) (n : Nat) (kd : ClassId) (vs : List Value) (h0 : Heap) (n0 : Nat) (Z0 : n0 ≤ h0.size) (q0 : Arv Z h0 dd kd .byte (Int32.ofNat (2 * n)) vs (.int 0)) (hn1 : 0 < n) (hcap : n ≤ 44) :
    mF l y_7 jdk_52_method_15_code 2 (some .byte) ws (rmk 0 0 0 0) #[(.ref dd), (.int (Int32.ofNat n))] Z h0 (Q_codL1 Z dd n kd vs h0 n0) := by
  refine MetFree.of_bodySF (plainFor_of_name pn_0) hisR ?_
  intro p e s m args below meth c s₁ Bd hml0 hP hK
  obtain ⟨rfl, hZ, hh⟩ := hP
  have hx := Bd.exec
  have hby := Bd.bytes
  have hml : c.maxLocals = 2 := hml0
  have hown : s.vm.findClass "java/lang/StringUTF16" = some m.cls := findClass_of_methodNamed Bd.named
  have hnm := (name_of_methodNamed Bd.named Bd.method).1
  have X0 : Stand p l e (rmk 0 0 0 0) s m #[(.ref dd), (.int (Int32.ofNat n))] below meth c s₁ [] 0 0 := Stand.of_body Bd
  have e0 : s₁.heap = h0 := by rw [← hh, Bd.state]; rfl
  have N0 := Fr.nil n0
  have pre0 : ∀ t, oS p e below s₁ (mkF m 0 #[vR dd, vI (Int32.ofNat n)] []) t → oS p e below s₁ (entryFrame m #[(.ref dd), (.int (Int32.ofNat n))] 2) t := fun t k => castTop (ef_2 m dd (Int32.ofNat n)) k
  obtain ⟨cl1, Ar1, -, S1, M1, -, -⟩ := id q0
  obtain ⟨fs, hr, hrun, hended, hW, hsame⟩ := X0.leave (v := some (.int 1)) (fun h => by rw [Bd.returns] at h; cases h)
  refine ⟨_, _, pre0 _ ?_, hrun, hended, _, _, rfl, ?_, ⟨_, rfl⟩, hW, hsame.mono (by decide) (by decide)⟩
  · refine XS.iloadN X0.here hx rfl (oh hby D7 0 rfl) rfl ?_
    refine XS.aloadN X0.here hx rfl (oh hby D7 1 rfl) rfl rfl ?_
    show oS p e below s₁ (mkF m 2 #[vR dd, vI (Int32.ofNat n)] [(.ref dd), (.int (Int32.ofNat n))]) _
    refine X0.arraylength hx (by rw [e0]; exact Ar1.1) (State.isArrayOf_alike hZ.alike Ar1.2.1) (g := (mkF m 2 #[vR dd, vI (Int32.ofNat n)] [(.ref dd), (.int (Int32.ofNat n))])) rfl rfl (oh hby D7 2 rfl) _ ?_
    rw [len_of S1 M1]
    show oS p e below s₁ (mkF m 3 #[vR dd, vI (Int32.ofNat n)] [(.int (Int32.ofNat (2 * n))), (.int (Int32.ofNat n))]) _
    refine XS.isub X0.here hx rfl (oh hby D7 3 rfl) rfl ?_
    refine XS.bipush X0.here hx rfl (oh hby D7 4 rfl) ?_
    refine XS.iushr X0.here hx rfl (oh hby D7 5 rfl) rfl ?_
    refine XS.i2b X0.here hx rfl (oh hby D7 6 rfl) rfl ?_
    show oS p e below s₁ (mkF m 8 #[vR dd, vI (Int32.ofNat n)] [(.int (((((Int32.ofNat n) - (Int32.ofNat (2 * n))).toUInt32 >>> ((31 : Int32) &&& 31).toUInt32).toInt32).toInt8.toInt32))]) _
    rw [own_coder1 hn1 (by omega)]
    show oS p e below s₁ (mkF m 8 #[vR dd, vI (Int32.ofNat n)] [(.int 1)]) _
    exact retN X0 hx (t := .byte) Bd.returns (by simp) (oh hby D7 7 rfl) hr
  · show Q_codL1 Z dd n kd vs h0 n0 _ s₁.heap _
    rw [e0]
    exact ⟨rfl, N0, rfl⟩
theorem pd_6 : parseMethodDescriptor "([BI)B" = some ⟨[(.array .byte), .int], some .byte⟩ := by decide +kernel
theorem ef_6 (m : MethodId) (x0 : Addr) (x1 : Addr) (x2 : Int32) (x3 : Int32) : entryFrame m #[(.ref x0), (.ref x1), (.int x2), (.int x3), .null] 6 = mkF m 0 #[vR x0, vR x1, vI x2, vI x3, .val .null, .unset] [] := by first | (simp [entryFrame, mkF, argsToLocals, Value.category]; done) | rfl
theorem pn_1 : plainName "java/lang/String" = true := by first | (simp [plainName, overriddenIn]; done) | decide +kernel
def Q_new4w (Z : State) (xs : Addr) (ca : Addr) (kc : ClassId) (cs : List Int32) (dv : Value) (o : Nat) (n : Nat) (rr : Nat) (ds : List Int32) (G : Int32) (h0 : Heap) (n0 : Nat) (v : Option Value) (h : Heap) (L : List Loc) : Prop := ∃ (tt : Addr) (kt : ClassId), (v = none) ∧ (Fr n0 L) ∧ (Keep h0 h ([xs] : List Addr)) ∧ (fV Z h xs (.ref tt)) ∧ (fC Z h xs (.int 1)) ∧ (h0.size ≤ tt) ∧ (Arv Z h tt kt .byte (Int32.ofNat (2 * n)) (StrChars.Road.wideBytes ds) (.int 0))
set_option maxRecDepth 65536 in
set_option maxHeartbeats 40000000 in
theorem rm_new4w (l : Launch) (Z : State) (a0 : Array Value) (hw : HW Z a0) (ws : List Jvm.Cond) (xs : Addr) (ca : Addr) (kc : ClassId) (cs : List Int32) (dv : Value) (o : Nat) (n : Nat) (rr : Nat) (ds : List Int32) (G : Int32) (h0 : Heap) (n0 : Nat) (Z0 : n0 ≤ h0.size) (q0 : sC Z G) (hCS : ¬ (G = (0 : Int32))) (q2 : sA Z) (q3 : sH Z) (q4 : sL Z) (q5 : Old Z n0 h0) (hcap : n ≤ 44) (hds : ds.length = n) (hrn : rr < n) (q9 : Arv Z h0 ca kc .char (Int32.ofNat cs.length) (cs.map Value.int) dv) (hN : cs.length < 2 ^ 31) (hon : o + n ≤ cs.length) (hdc : ∀ q, q < n → ds.getD q 0 = cs.getD (o + q) 0) (hlow : ∀ q, q < rr → ¬ (255 : Int32) < cs.getD (o + q) 0) (hwide : (255 : Int32) < cs.getD (o + rr) 0) (hc0 : ¬ cs.getD (o + rr) 0 < 0) (hc1 : ¬ (65535 : Int32) < cs.getD (o + rr) 0) (q17 : eS Z h0 xs) (q18 : fV Z h0 xs .null) (q19 : fC Z h0 xs (.int 0)) (q20 : n0 ≤ xs) :
    mF l y_8 jdk_42_method_149_code 6 none ws (rmk 4 2 132 57) #[(.ref xs), (.ref ca), (.int (Int32.ofNat o)), (.int (Int32.ofNat n)), .null] Z h0 (Q_new4w Z xs ca kc cs dv o n rr ds G h0 n0) := by
  refine MetFree.of_bodySF (plainFor_of_name pn_1) hisR ?_
  intro p e s m args below meth c s₁ Bd hml0 hP hK
  obtain ⟨rfl, hZ, hh⟩ := hP
  have hx := Bd.exec
  have hby := Bd.bytes
  have hml : c.maxLocals = 6 := hml0
  have hown : s.vm.findClass "java/lang/String" = some m.cls := findClass_of_methodNamed Bd.named
  have hnm := (name_of_methodNamed Bd.named Bd.method).1
  have X0 : Stand p l e (rmk 4 2 132 57) s m #[(.ref xs), (.ref ca), (.int (Int32.ofNat o)), (.int (Int32.ofNat n)), .null] below meth c s₁ [] 0 0 := Stand.of_body Bd
  have e0 : s₁.heap = h0 := by rw [← hh, Bd.state]; rfl
  have N0 := Fr.nil n0
  have pre0 : ∀ t, oS p e below s₁ (mkF m 0 #[vR xs, vR ca, vI (Int32.ofNat o), vI (Int32.ofNat n), .val .null, .unset] []) t → oS p e below s₁ (entryFrame m #[(.ref xs), (.ref ca), (.int (Int32.ofNat o)), (.int (Int32.ofNat n)), .null] 6) t := fun t k => castTop (ef_6 m xs ca (Int32.ofNat o) (Int32.ofNat n)) k
  obtain ⟨T1, X1, e1, st1⟩ := initO X0 hx hZ hown (ow hw 12 rfl) (ow hw 13 rfl) (ow hw 14 rfl) e0 (g := (mkF m 1 #[vR xs, vR ca, vI (Int32.ofNat o), vI (Int32.ofNat n), .val .null, .unset] [(.ref xs)])) rfl (by rw [hml]; rfl) rfl (oh hby D8 1 rfl) (by decide) (W := 0) (by show 2 * 0 + _ ≤ _; exact Nat.le_of_eq rfl) (by decide)
  obtain ⟨T2, X2, e2, st2⟩ := getS2 X1 hx hZ hown (host := "") (Or.inl (ow hw 37 rfl)) Via.refl e1 (q0.ext q5.2) (g := (mkF m 27 #[vR xs, vR ca, vI (Int32.ofNat o), vI (Int32.ofNat n), .val .null, .unset] [])) rfl (oh hby D8 13 rfl)
  obtain ⟨_, _, ⟨T3, L3, k3, n3⟩, -, X3, ⟨Lc3, hQ3, l3, y3, z3⟩, st3⟩ := Jvm.LawKit.callS X2 hx (y := y_6) hown (mvT hZ (ow hw 44 rfl)) (mvT hZ (ow hw 45 rfl)) (mvT hZ (ow hw 46 rfl)) (mvT hZ (ow hw 47 rfl)) (by decide) (backOf (W := 0) (rm_cmp3w l Z a0 hw [] ca kc cs dv o n rr ds h0 n0 Z0 q9 hN q2 q3 q4 q5 hcap hon hds hdc hrn hlow hwide hc0 hc1) hZ (ow hw 47 rfl) (ow hw 46 rfl) (by decide) (by decide)) (g := (mkF m 36 #[vR xs, vR ca, vI (Int32.ofNat o), vI (Int32.ofNat n), .val .null, .unset] [(.int (Int32.ofNat n)), (.int (Int32.ofNat o)), (.ref ca)])) rfl (by rw [hml]; rfl) (argsL := [(.ref ca), (.int (Int32.ofNat o)), (.int (Int32.ofNat n))]) (rest := []) (lenOf pd_4 rfl) rfl (by show 2 * 0 + _ ≤ _; exact Nat.le_of_eq rfl) (oh hby D8 18 rfl) (fun _ _ => ⟨rfl, e2, (by decide : 0 + 2 ≤ _), (by decide : 0 + 132 ≤ _)⟩)
  dsimp only [Pt.U, Pt.locs, Pt.cells, Pt.slots] at X3 l3 y3 z3 st3 hQ3
  subst l3 y3 z3
  obtain ⟨tt_3, kt_3, rfl, Nq3, K3, f3_0, f3_1⟩ := hQ3
  have N3 := Fr.app N0 Nq3
  obtain ⟨_, _, ⟨T4, L4, k4, n4⟩, -, X4, ⟨Lc4, hQ4, l4, y4, z4⟩, st4⟩ := Jvm.LawKit.callS X3 hx (y := y_7) hown (mvT hZ (ow hw 51 rfl)) (mvT hZ (ow hw 52 rfl)) (mvT hZ (ow hw 46 rfl)) (mvT hZ (ow hw 53 rfl)) (by decide) (backOf (W := 1) (rm_codL1 l Z a0 hw [] tt_3 n kt_3 (StrChars.Road.wideBytes ds) T3.heap n0 (Nat.le_trans Z0 K3.1) f3_1 (by omega) hcap) hZ (ow hw 53 rfl) (ow hw 46 rfl) (by decide) (by decide)) (g := (mkF m 45 #[vR xs, vR ca, vI (Int32.ofNat o), vI (Int32.ofNat n), .val .null, vR tt_3] [(.int (Int32.ofNat n)), (.ref tt_3), (.ref xs)])) rfl (by rw [hml]; rfl) (argsL := [(.ref tt_3), (.int (Int32.ofNat n))]) (rest := [(.ref xs)]) (lenOf pd_6 rfl) rfl (by show 2 * 0 + _ ≤ _; exact Nat.le_of_eq rfl) (oh hby D8 23 rfl) (fun _ _ => ⟨rfl, rfl, (by decide : 2 + 0 ≤ _), (by decide : 132 + 0 ≤ _)⟩)
  dsimp only [Pt.U, Pt.locs, Pt.cells, Pt.slots] at X4 l4 y4 z4 st4 hQ4
  subst l4 y4 z4
  obtain ⟨rfl, Nq4, e4⟩ := hQ4
  have N4 := Fr.app N3 Nq4
  have c5 := (q19.keep K3 nin0)
  have c6 := (q17.keep K3)
  obtain ⟨T7, h7, X7, e7, W7, st7⟩ := putFN X4 hx hZ hown (ow hw 22 rfl) Via.refl e4 c5 c6 (Or.inr ⟨(ow hw 18 rfl), rfl, hnm⟩) (ow hw 3 rfl) (ty := .byte) (v' := (.int 1)) (by decide) rfl rfl (g := (mkF m 48 #[vR xs, vR ca, vI (Int32.ofNat o), vI (Int32.ofNat n), .val .null, vR tt_3] [(.int 1), (.ref xs)])) rfl rfl (oh hby D8 24 rfl)
  have N7 := Fr.snoc X7 N4 q20
  have F7 : fC Z h7 xs (.int 1) := c5.same W7
  have c8 := ((q18.keep K3 nin0).other W7 (Or.inr (slot_ne (Or.inr (ow hw 17 rfl)) (Or.inr (ow hw 18 rfl)) (by decide) (t := (.array .byte)) (t' := .byte) (by decide) (by decide))))
  have c9 := (c6.wr W7)
  obtain ⟨T10, h10, X10, e10, W10, st10⟩ := putF X7 hx hZ hown (host := "") (Or.inl (ow hw 21 rfl)) Via.refl e7 c8 c9 (Or.inr ⟨(ow hw 17 rfl), rfl, hnm⟩) (ow hw 3 rfl) (ty := (.array .byte)) (by decide) rfl rfl (g := (mkF m 54 #[vR xs, vR ca, vI (Int32.ofNat o), vI (Int32.ofNat n), .val .null, vR tt_3] [(.ref tt_3), (.ref xs)])) rfl rfl (oh hby D8 27 rfl)
  have N10 := Fr.snoc X10 N7 q20
  have F10 : fV Z h10 xs (.ref tt_3) := c8.same W10
  have ne11 : xs ≠ tt_3 := Nat.ne_of_lt (Nat.lt_of_lt_of_le q19.lt f3_0)
  have c12 := ((f3_1.other W7 (Ne.symm ne11)).other W10 (Ne.symm ne11))
  have c13 := (F7.other W10 (Or.inr (slot_ne (Or.inr (ow hw 18 rfl)) (Or.inr (ow hw 17 rfl)) (by decide) (t := .byte) (t' := (.array .byte)) (by decide) (by decide))))
  obtain ⟨fs, hr, hrun, hended, hW, hsame⟩ := X10.leave (v := none) (fun _ => rfl)
  refine ⟨_, _, pre0 _ ?_, hrun, hended, _, _, rfl, ?_, ⟨_, rfl⟩, hW, hsame.mono (by decide) (by decide)⟩
  · refine XS.aloadN X0.here hx rfl (oh hby D8 0 rfl) rfl rfl ?_
    refine st1 _ ?_
    show oS p e below T1 (mkF m 4 #[vR xs, vR ca, vI (Int32.ofNat o), vI (Int32.ofNat n), .val .null, .unset] []) _
    refine XS.iloadN X1.here hx rfl (oh hby D8 2 rfl) rfl ?_
    refine XS.ifYes X1.here hx rfl (pc0 := 5) (pc' := 27) rfl (oh hby D8 3 rfl) rfl ((if0 _ _).trans (feq ((fun q => absurd (own_oinj (i := n) (n := 0) (by omega) (by omega) q) (by omega)) : ¬ ((Int32.ofNat n) = (0 : Int32)))).2) (by decide) (by decide) ?_
    refine st2 _ ?_
    show oS p e below T2 (mkF m 30 #[vR xs, vR ca, vI (Int32.ofNat o), vI (Int32.ofNat n), .val .null, .unset] [(.int G)]) _
    refine XS.ifNo X2.here hx rfl (oh hby D8 14 rfl) rfl ((if0 _ _).trans (feq (hCS : ¬ (G = (0 : Int32)))).1) ?_
    refine XS.aloadN X2.here hx rfl (oh hby D8 15 rfl) rfl rfl ?_
    refine XS.iloadN X2.here hx rfl (oh hby D8 16 rfl) rfl ?_
    refine XS.iloadN X2.here hx rfl (oh hby D8 17 rfl) rfl ?_
    refine st3 _ ?_
    show oS p e below T3 (mkF m 39 #[vR xs, vR ca, vI (Int32.ofNat o), vI (Int32.ofNat n), .val .null, .unset] [(.ref tt_3)]) _
    refine XS.astore X3.here hx rfl (oh hby D8 19 rfl) rfl rfl (l' := #[vR xs, vR ca, vI (Int32.ofNat o), vI (Int32.ofNat n), .val .null, vR tt_3]) rfl ?_
    refine XS.aloadN X3.here hx rfl (oh hby D8 20 rfl) rfl rfl ?_
    refine XS.aload X3.here hx rfl (oh hby D8 21 rfl) rfl rfl ?_
    refine XS.iloadN X3.here hx rfl (oh hby D8 22 rfl) rfl ?_
    refine st4 _ ?_
    show oS p e below T4 (mkF m 48 #[vR xs, vR ca, vI (Int32.ofNat o), vI (Int32.ofNat n), .val .null, vR tt_3] [(.int 1), (.ref xs)]) _
    refine st7 _ ?_
    show oS p e below T7 (mkF m 51 #[vR xs, vR ca, vI (Int32.ofNat o), vI (Int32.ofNat n), .val .null, vR tt_3] []) _
    refine XS.aloadN X7.here hx rfl (oh hby D8 25 rfl) rfl rfl ?_
    refine XS.aload X7.here hx rfl (oh hby D8 26 rfl) rfl rfl ?_
    refine st10 _ ?_
    show oS p e below T10 (mkF m 57 #[vR xs, vR ca, vI (Int32.ofNat o), vI (Int32.ofNat n), .val .null, vR tt_3] []) _
    exact X10.returnOut hx Bd.returns (oh hby D8 28 rfl) hr
  · show Q_new4w Z xs ca kc cs dv o n rr ds G h0 n0 _ T10.heap _
    rw [e10]
    exact ⟨tt_3, kt_3, rfl, N10, ((((Keep.refl h0 ([xs] : List Addr)).trans K3 all0).wr W7 (Or.inl (by simp))).wr W10 (Or.inl (by simp))), F10, c13, (Nat.le_trans (Nat.le_refl _) f3_0), c12⟩
theorem pd_7 : parseMethodDescriptor "([CIILjava/lang/Void;)V" = some ⟨[(.array .char), .int, .int, (.object "java/lang/Void")], none⟩ := by decide +kernel
theorem ef_7 (m : MethodId) (x0 : Addr) (x1 : Addr) : entryFrame m #[(.ref x0), (.ref x1)] 2 = mkF m 0 #[vR x0, vR x1] [] := by first | (simp [entryFrame, mkF, argsToLocals, Value.category]; done) | rfl
def Q_new1w (Z : State) (xs : Addr) (ca : Addr) (kc : ClassId) (cs : List Int32) (dv : Value) (rr : Nat) (G : Int32) (h0 : Heap) (n0 : Nat) (v : Option Value) (h : Heap) (L : List Loc) : Prop := ∃ (tt : Addr) (kt : ClassId), (v = none) ∧ (Fr n0 L) ∧ (Keep h0 h ([xs] : List Addr)) ∧ (fV Z h xs (.ref tt)) ∧ (fC Z h xs (.int 1)) ∧ (h0.size ≤ tt) ∧ (Arv Z h tt kt .byte (Int32.ofNat (2 * cs.length)) (StrChars.Road.wideBytes cs) (.int 0))
set_option maxRecDepth 65536 in
set_option maxHeartbeats 40000000 in
theorem rm_new1w (l : Launch) (Z : State) (a0 : Array Value) (hw : HW Z a0) (ws : List Jvm.Cond) (xs : Addr) (ca : Addr) (kc : ClassId) (cs : List Int32) (dv : Value) (rr : Nat) (G : Int32) (h0 : Heap) (n0 : Nat) (Z0 : n0 ≤ h0.size) (q0 : sC Z G) (hCS : ¬ (G = (0 : Int32))) (q2 : sA Z) (q3 : sH Z) (q4 : sL Z) (q5 : Old Z n0 h0) (q6 : Arv Z h0 ca kc .char (Int32.ofNat cs.length) (cs.map Value.int) dv) (hcap : cs.length ≤ 44) (hrn : rr < cs.length) (hlow : ∀ q, q < rr → ¬ (255 : Int32) < cs.getD (0 + q) 0) (hwide : (255 : Int32) < cs.getD (0 + rr) 0) (hc0 : ¬ cs.getD (0 + rr) 0 < 0) (hc1 : ¬ (65535 : Int32) < cs.getD (0 + rr) 0) (q13 : eS Z h0 xs) (q14 : fV Z h0 xs .null) (q15 : fC Z h0 xs (.int 0)) (q16 : n0 ≤ xs) :
    mF l y_9 jdk_42_method_3_code 2 none ws (rmk 5 2 132 74) #[(.ref xs), (.ref ca)] Z h0 (Q_new1w Z xs ca kc cs dv rr G h0 n0) := by
  refine MetFree.of_bodySF (plainFor_of_name pn_1) hisR ?_
  intro p e s m args below meth c s₁ Bd hml0 hP hK
  obtain ⟨rfl, hZ, hh⟩ := hP
  have hx := Bd.exec
  have hby := Bd.bytes
  have hml : c.maxLocals = 2 := hml0
  have hown : s.vm.findClass "java/lang/String" = some m.cls := findClass_of_methodNamed Bd.named
  have hnm := (name_of_methodNamed Bd.named Bd.method).1
  have X0 : Stand p l e (rmk 5 2 132 74) s m #[(.ref xs), (.ref ca)] below meth c s₁ [] 0 0 := Stand.of_body Bd
  have e0 : s₁.heap = h0 := by rw [← hh, Bd.state]; rfl
  have N0 := Fr.nil n0
  have pre0 : ∀ t, oS p e below s₁ (mkF m 0 #[vR xs, vR ca] []) t → oS p e below s₁ (entryFrame m #[(.ref xs), (.ref ca)] 2) t := fun t k => castTop (ef_7 m xs ca) k
  obtain ⟨cl1, Ar1, -, S1, M1, -, -⟩ := id q6
  obtain ⟨_, _, ⟨T2, L2, k2, n2⟩, -, X2, ⟨Lc2, hQ2, l2, y2, z2⟩, st2⟩ := X0.specialBack hx (y := y_8) rfl hown (mvT hZ (ow hw 8 rfl)) (mvT hZ (ow hw 9 rfl)) (mvT hZ (ow hw 11 rfl)) (by decide) (backOf (W := 0) (rm_new4w l Z a0 hw [] xs ca kc cs dv 0 cs.length rr cs G h0 n0 Z0 q0 hCS q2 q3 q4 q5 hcap (rfl) hrn q6 (by omega) (by omega) (fun q _ => by rw [Nat.zero_add]) hlow hwide hc0 hc1 q13 q14 q15 q16) hZ (ow hw 11 rfl) (ow hw 4 rfl) (by decide) (by decide)) (g := (mkF m 6 #[vR xs, vR ca] [.null, (.int (Int32.ofNat cs.length)), (.int 0), (.ref ca), (.ref xs)])) rfl (by rw [hml]; rfl) (Steps.refl _) (a := xs) (argsL := [(.ref ca), (.int 0), (.int (Int32.ofNat cs.length)), .null]) (rest := []) (lenOf pd_7 rfl) rfl (by show 2 * 0 + _ ≤ _; exact Nat.le_of_eq rfl) (oh hby D9 6 rfl) (fun _ _ => ⟨rfl, e0, (by decide : 0 + 2 ≤ _), (by decide : 0 + 132 ≤ _)⟩)
  dsimp only [Pt.U, Pt.locs, Pt.cells, Pt.slots] at X2 l2 y2 z2 st2 hQ2
  subst l2 y2 z2
  obtain ⟨tt_2, kt_2, rfl, Nq2, K2, f2_0, f2_1, f2_2, f2_3⟩ := hQ2
  have N2 := Fr.app N0 Nq2
  obtain ⟨fs, hr, hrun, hended, hW, hsame⟩ := X2.leave (v := none) (fun _ => rfl)
  refine ⟨_, _, pre0 _ ?_, hrun, hended, _, _, rfl, ?_, ⟨_, rfl⟩, hW, hsame.mono (by decide) (by decide)⟩
  · refine XS.aloadN X0.here hx rfl (oh hby D9 0 rfl) rfl rfl ?_
    refine XS.aloadN X0.here hx rfl (oh hby D9 1 rfl) rfl rfl ?_
    refine XS.iconst X0.here hx rfl (oh hby D9 2 rfl) ?_
    refine XS.aloadN X0.here hx rfl (oh hby D9 3 rfl) rfl rfl ?_
    show oS p e below s₁ (mkF m 4 #[vR xs, vR ca] [(.ref ca), (.int 0), (.ref ca), (.ref xs)]) _
    refine X0.arraylength hx (by rw [e0]; exact Ar1.1) (State.isArrayOf_alike hZ.alike Ar1.2.1) (g := (mkF m 4 #[vR xs, vR ca] [(.ref ca), (.int 0), (.ref ca), (.ref xs)])) rfl rfl (oh hby D9 4 rfl) _ ?_
    rw [len_of S1 M1]
    show oS p e below s₁ (mkF m 5 #[vR xs, vR ca] [(.int (Int32.ofNat cs.length)), (.int 0), (.ref ca), (.ref xs)]) _
    refine XS.aconstNull X0.here hx rfl (oh hby D9 5 rfl) ?_
    refine st2.trans ?_
    show oS p e below T2 (mkF m 9 #[vR xs, vR ca] []) _
    exact X2.returnOut hx Bd.returns (oh hby D9 7 rfl) hr
  · show Q_new1w Z xs ca kc cs dv rr G h0 n0 _ T2.heap _
    exact ⟨tt_2, kt_2, rfl, N2, ((Keep.refl h0 ([xs] : List Addr)).trans K2 (allS (Or.inl (by simp)) all0)), f2_0, f2_1, (Nat.le_trans (Nat.le_refl _) f2_2), f2_3⟩
abbrev own_bs (cs : List Int32) : List Value := cs.map fun c => Value.int (StrChars.lo8 c)
abbrev own_bv (cs : List Int32) : List Value := own_bs cs ++ List.replicate (16 - cs.length) (.int 0)
theorem own_bsl (cs : List Int32) : (own_bs cs).length = cs.length := by simp
theorem own_bvl {cs : List Int32} (h : cs.length ≤ 16) : (own_bv cs).length = 16 := by simp; omega
theorem own_cod0 {cs : List Int32} {nn : Int32} {vs : List Value} (h : StrChars.Road.CodA cs 0 nn vs) : nn = Int32.ofNat cs.length ∧ vs = own_bs cs := by
  rcases h with ⟨-, h1, h2, -⟩ | ⟨h1, -⟩
  · exact ⟨h1, h2⟩
  · exact absurd h1 (by decide)
theorem own_codlat {cs : List Int32} {nn : Int32} {vs : List Value} (h : StrChars.Road.CodA cs 0 nn vs) : ∀ c ∈ cs, ¬ (255 : Int32) < c := by
  rcases h with ⟨-, -, -, h⟩ | ⟨h1, -⟩
  · exact h
  · exact absurd h1 (by decide)
theorem own_range {n : Nat} (l : List Value) (d : Value) (h : l.length = n) : ((List.range n).map fun i => l.getD i d) = l := by
  subst h
  apply List.ext_getElem
  · simp
  · intro i h1 h2
    simp only [List.getElem_map, List.getElem_range, List.getD_eq_getElem?_getD]
    rw [List.getElem?_eq_getElem h2]
    rfl
theorem own_cat16 {cs ds : List Int32} (h : cs.length + ds.length ≤ 16) : (own_bv cs).take (Int32.ofNat cs.length).toNatClampNeg ++ ((List.range (Int32.ofNat ds.length).toNatClampNeg).map fun i => (own_bs ds).getD ((0 : Int32).toNatClampNeg + i) (.int 0)) ++ (own_bv cs).drop ((Int32.ofNat cs.length).toNatClampNeg + (Int32.ofNat ds.length).toNatClampNeg) = own_bv (cs ++ ds) := by
  rw [own_clamp (j := cs.length) (by omega), own_clamp (j := ds.length) (by omega)]
  have e : (fun i => (own_bs ds).getD ((0 : Int32).toNatClampNeg + i) (.int 0)) = fun i => (own_bs ds).getD i (.int 0) := by
    funext i
    have z : (0 : Int32).toNatClampNeg = 0 := by decide
    rw [z, Nat.zero_add]
  rw [e, own_range (own_bs ds) _ (own_bsl ds)]
  have t1 : (own_bv cs).take cs.length = own_bs cs := by
    rw [List.take_append_of_le_length (by rw [own_bsl]; exact Nat.le_refl _), List.take_of_length_le (by rw [own_bsl]; exact Nat.le_refl _)]
  have t2 : (own_bv cs).drop (cs.length + ds.length) = List.replicate (16 - (cs ++ ds).length) (.int 0) := by
    rw [List.drop_append, List.drop_of_length_le (by rw [own_bsl]; omega), own_bsl, List.drop_replicate, List.nil_append, List.length_append]
    congr 1
    omega
  rw [t1, t2]
  simp only [own_bv, own_bs, List.map_append]
theorem own_cut {cs : List Int32} (h : cs.length ≤ 16) : (List.replicate cs.length (.int 0)).take (0 : Int32).toNatClampNeg ++ ((List.range (Int32.ofNat cs.length).toNatClampNeg).map fun i => (own_bv cs).getD ((0 : Int32).toNatClampNeg + i) (.int 0)) ++ (List.replicate cs.length (.int 0)).drop ((0 : Int32).toNatClampNeg + (Int32.ofNat cs.length).toNatClampNeg) = own_bs cs := by
  have z : (0 : Int32).toNatClampNeg = 0 := by decide
  rw [own_clamp (j := cs.length) (by omega), z, Nat.zero_add, List.take_zero, List.nil_append, List.drop_of_length_le (by simp), List.append_nil]
  have e : ((List.range cs.length).map fun i => (own_bv cs).getD (0 + i) (.int 0)) = (List.range cs.length).map fun i => (own_bs cs).getD i (.int 0) := by
    apply List.map_congr_left
    intro i hi
    have hi' : i < cs.length := List.mem_range.mp hi
    rw [Nat.zero_add, List.getD_eq_getElem?_getD, List.getD_eq_getElem?_getD, List.getElem?_append_left (by rw [own_bsl]; exact hi')]
  rw [e, own_range (own_bs cs) _ (own_bsl cs)]
theorem own_push16 {cs : List Int32} (c : Int32) (h : cs.length < 16) : (own_bv cs).set cs.length (.int (nar .byte (c.toInt8.toInt32))) = own_bv (cs ++ [c]) := by
  have hr : List.replicate (16 - cs.length) (Value.int 0) = .int 0 :: List.replicate (16 - (cs.length + 1)) (.int 0) := by
    rw [show 16 - cs.length = 16 - (cs.length + 1) + 1 by omega, List.replicate_succ]
  rw [own_nb]
  simp only [own_bv]
  rw [hr, List.set_append, if_neg (by rw [own_bsl]; omega), own_bsl, Nat.sub_self]
  simp [own_bs, StrChars.lo8]
theorem own_shl0 (x : Int32) : x <<< ((0 : Int32) &&& 31) = x := by
  rw [shlm (show (1 : Int32) <<< ((0 : Int32) &&& 31) = 1 by decide), Int32.mul_one]
theorem own_irr (x : Int32) : ¬ (x < x) := by rw [Int32.lt_iff_toInt_lt]; omega
theorem own_addn (a b : Nat) : Int32.ofNat a + Int32.ofNat b = Int32.ofNat (a + b) := (Int32.ofNat_add a b).symm
theorem own_fit16 {a : Nat} (h : a ≤ 16) : ¬ ((0 : Int32) < Int32.ofNat a - (16 : Int32)) := by
  rw [Int32.lt_iff_toInt_lt]
  have e1 := own_toInt (j := a) (by omega)
  have e2 := c_isub (Int32.ofNat a) 16
  have e3 := rng32 (Int32.ofNat a - 16)
  have e4 : (16 : Int32).toInt = 16 := rfl
  have e5 : (0 : Int32).toInt = 0 := rfl
  omega
theorem own_selpriv {y : MethodName} {s : State} {args : Array Value} {C : String} (hy : y.cls ≠ "java/lang/invoke/MethodHandle" ∧ y.cls ≠ "java/lang/invoke/VarHandle") (hsel : (Jvm.Cond.selects C y y).before args s = true) (hpriv : (Jvm.Cond.privateMethod y).before args s = true) (hinst : (Jvm.Cond.instanceMethod y).before args s = true) : (Jvm.Cond.selects y.cls y y).before args s = true := by
  obtain ⟨c, r, m, q1, q2, q3, q4, kP, hkP, hkPi⟩ := Cond.selects_spec hsel
  obtain ⟨mk, methM, hnamed, hmethM, -, -⟩ := Cond.instanceMethod_spec hinst
  have e : m = mk := Option.some.inj (q3.symm.trans hnamed)
  subst e
  have hfound : s.methodFound? y.cls y.name y.desc = some m := State.methodFound?_of_named hnamed hy
  have hcls : s.vm.findClass y.cls = some m.cls := findClass_of_methodNamed hnamed
  have hs : selectMethod {} s.vm m.cls m = .method m := selectMethod_private hmethM (Cond.privateMethod_at hpriv m methM hnamed hmethM)
  simp only [Cond.before, Cond.holds, Cond.value, hcls, hfound, hnamed, hs, hkP]
  simp; exact hkPi
theorem own_notface {s : State} {args : Array Value} {C : String} {y z : MethodName} (hc : z.cls = y.cls) (w : (Jvm.Cond.selects C z z).before args s = true) : NotFace s y := fun r0 h0 => by
  obtain ⟨c2, r2, m2, q1, q2, q3, q4, kP, hkP, hkPi⟩ := Cond.selects_spec w
  have e1 := findClass_of_methodNamed h0
  have e2 := findClass_of_methodNamed q3
  rw [hc] at e2
  have e : r0.cls = m2.cls := Option.some.inj (e1.symm.trans e2)
  exact ⟨kP, by rw [e]; exact hkP, hkPi⟩
theorem own_same {s : State} {args : Array Value} {C : String} {y z : MethodName} (hy : y.cls ≠ "java/lang/invoke/MethodHandle" ∧ y.cls ≠ "java/lang/invoke/VarHandle") (hc : z.cls = y.cls) (w : (Jvm.Cond.selects C z z).before args s = true) (hi : (Jvm.Cond.instanceMethod y).before args s = true) : (Jvm.Cond.sameMethod y.cls y.cls y.name y.desc).before args s = true := by
  obtain ⟨mk, methM, hnamed, hmethM, -, -⟩ := Cond.instanceMethod_spec hi
  obtain ⟨kP, hkP, hkPi⟩ := own_notface hc w mk hnamed
  have hfound : s.methodFound? y.cls y.name y.desc = some mk := State.methodFound?_of_named hnamed hy
  have hcls : s.vm.findClass y.cls = some mk.cls := findClass_of_methodNamed hnamed
  simp only [Cond.before, Cond.holds, Cond.value, hcls, hfound, hnamed, hkP]
  simp [hkPi]
theorem ef_8 (m : MethodId) (x0 : Addr) : entryFrame m #[(.ref x0)] 1 = mkF m 0 #[vR x0] [] := by first | (simp [entryFrame, mkF, argsToLocals, Value.category]; done) | rfl
def Q_scod (Z : State) (xs : Addr) (G : Int32) (cd : Int32) (h0 : Heap) (n0 : Nat) (v : Option Value) (h : Heap) (L : List Loc) : Prop := (v = some (.int cd)) ∧ (Fr n0 L) ∧ (h = h0)
set_option maxRecDepth 65536 in
set_option maxHeartbeats 40000000 in
theorem rm_scod (l : Launch) (Z : State) (a0 : Array Value) (hw : HW Z a0) (ws : List Jvm.Cond) (xs : Addr) (G : Int32) (cd : Int32) (h0 : Heap) (n0 : Nat) (Z0 : n0 ≤ h0.size) (q0 : sC Z G) (hCS : ¬ (G = (0 : Int32))) (q2 : Old Z n0 h0) (q3 : fC Z h0 xs (.int cd)) (hncd : nar .byte cd = cd) :
    mF l y_10 jdk_42_method_152_code 1 (some .byte) ws (rmk 0 0 0 0) #[(.ref xs)] Z h0 (Q_scod Z xs G cd h0 n0) := by
  refine MetFree.of_bodySF (plainFor_of_name pn_1) hisR ?_
  intro p e s m args below meth c s₁ Bd hml0 hP hK
  obtain ⟨rfl, hZ, hh⟩ := hP
  have hx := Bd.exec
  have hby := Bd.bytes
  have hml : c.maxLocals = 1 := hml0
  have hown : s.vm.findClass "java/lang/String" = some m.cls := findClass_of_methodNamed Bd.named
  have hnm := (name_of_methodNamed Bd.named Bd.method).1
  have X0 : Stand p l e (rmk 0 0 0 0) s m #[(.ref xs)] below meth c s₁ [] 0 0 := Stand.of_body Bd
  have e0 : s₁.heap = h0 := by rw [← hh, Bd.state]; rfl
  have N0 := Fr.nil n0
  have pre0 : ∀ t, oS p e below s₁ (mkF m 0 #[vR xs] []) t → oS p e below s₁ (entryFrame m #[(.ref xs)] 1) t := fun t k => castTop (ef_8 m xs) k
  obtain ⟨T1, X1, e1, st1⟩ := getS2 X0 hx hZ hown (host := "") (Or.inl (ow hw 37 rfl)) Via.refl e0 (q0.ext q2.2) (g := (mkF m 0 #[vR xs] [])) rfl (oh hby D10 0 rfl)
  obtain ⟨T2, X2, e2, st2⟩ := getF X1 hx hZ hown (host := "") (Or.inl (ow hw 22 rfl)) Via.refl e1 q3 (g := (mkF m 7 #[vR xs] [(.ref xs)])) rfl rfl (oh hby D10 3 rfl)
  obtain ⟨fs, hr, hrun, hended, hW, hsame⟩ := X2.leave (v := some (.int cd)) (fun h => by rw [Bd.returns] at h; cases h)
  refine ⟨_, _, pre0 _ ?_, hrun, hended, _, _, rfl, ?_, ⟨_, rfl⟩, hW, hsame.mono (by decide) (by decide)⟩
  · refine st1 _ ?_
    show oS p e below T1 (mkF m 3 #[vR xs] [(.int G)]) _
    refine XS.ifNo X1.here hx rfl (oh hby D10 1 rfl) rfl ((if0 _ _).trans (feq (hCS : ¬ (G = (0 : Int32)))).1) ?_
    refine XS.aloadN X1.here hx rfl (oh hby D10 2 rfl) rfl rfl ?_
    refine st2 _ ?_
    show oS p e below T2 (mkF m 10 #[vR xs] [(.int cd)]) _
    refine XS.goto X2.here hx rfl (pc0 := 10) (pc' := 14) rfl (oh hby D10 4 rfl) (by decide) (by decide) ?_
    show oS p e below T2 (mkF m 14 #[vR xs] [(.int cd)]) _
    exact retN X2 hx (t := .byte) Bd.returns (by simp) (oh hby D10 5 rfl) (by rw [hncd]; exact hr)
  · show Q_scod Z xs G cd h0 n0 _ T2.heap _
    rw [e2]
    exact ⟨rfl, N0, rfl⟩
theorem pn_2 : plainName "java/lang/AbstractStringBuilder" = true := by first | (simp [plainName, overriddenIn]; done) | decide +kernel
def Q_bLat (Z : State) (xb : Addr) (G : Int32) (h0 : Heap) (n0 : Nat) (v : Option Value) (h : Heap) (L : List Loc) : Prop := (v = some (.int 1)) ∧ (Fr n0 L) ∧ (h = h0)
set_option maxRecDepth 65536 in
set_option maxHeartbeats 40000000 in
theorem rm_bLat (l : Launch) (Z : State) (a0 : Array Value) (hw : HW Z a0) (ws : List Jvm.Cond) (xb : Addr) (G : Int32) (h0 : Heap) (n0 : Nat) (Z0 : n0 ≤ h0.size) (q0 : sC Z G) (hCS : ¬ (G = (0 : Int32))) (q2 : Old Z n0 h0) (q3 : fB Z h0 xb "coder" "B" (.int 0)) :
    mF l y_11 jdk_68_method_68_code 1 (some .boolean) ws (rmk 0 0 0 0) #[(.ref xb)] Z h0 (Q_bLat Z xb G h0 n0) := by
  refine MetFree.of_bodySF (plainFor_of_name pn_2) hisR ?_
  intro p e s m args below meth c s₁ Bd hml0 hP hK
  obtain ⟨rfl, hZ, hh⟩ := hP
  have hx := Bd.exec
  have hby := Bd.bytes
  have hml : c.maxLocals = 1 := hml0
  have hown : s.vm.findClass "java/lang/AbstractStringBuilder" = some m.cls := findClass_of_methodNamed Bd.named
  have hnm := (name_of_methodNamed Bd.named Bd.method).1
  have X0 : Stand p l e (rmk 0 0 0 0) s m #[(.ref xb)] below meth c s₁ [] 0 0 := Stand.of_body Bd
  have e0 : s₁.heap = h0 := by rw [← hh, Bd.state]; rfl
  have N0 := Fr.nil n0
  have pre0 : ∀ t, oS p e below s₁ (mkF m 0 #[vR xb] []) t → oS p e below s₁ (entryFrame m #[(.ref xb)] 1) t := fun t k => castTop (ef_8 m xb) k
  obtain ⟨T1, X1, e1, st1⟩ := getS2 X0 hx hZ hown (host := "") (Or.inl (ow hw 67 rfl)) Via.refl e0 (q0.ext q2.2) (g := (mkF m 0 #[vR xb] [])) rfl (oh hby D11 0 rfl)
  obtain ⟨T2, X2, e2, st2⟩ := getF X1 hx hZ hown (host := "") (Or.inl (ow hw 70 rfl)) Via.refl e1 q3 (g := (mkF m 7 #[vR xb] [(.ref xb)])) rfl rfl (oh hby D11 3 rfl)
  obtain ⟨fs, hr, hrun, hended, hW, hsame⟩ := X2.leave (v := some (.int 1)) (fun h => by rw [Bd.returns] at h; cases h)
  refine ⟨_, _, pre0 _ ?_, hrun, hended, _, _, rfl, ?_, ⟨_, rfl⟩, hW, hsame.mono (by decide) (by decide)⟩
  · refine st1 _ ?_
    show oS p e below T1 (mkF m 3 #[vR xb] [(.int G)]) _
    refine XS.ifNo X1.here hx rfl (oh hby D11 1 rfl) rfl ((if0 _ _).trans (feq (hCS : ¬ (G = (0 : Int32)))).1) ?_
    refine XS.aloadN X1.here hx rfl (oh hby D11 2 rfl) rfl rfl ?_
    refine st2 _ ?_
    show oS p e below T2 (mkF m 10 #[vR xb] [(.int 0)]) _
    refine XS.ifNo X2.here hx rfl (oh hby D11 4 rfl) rfl ((if0 _ _).trans (teq ((by decide) : (0 : Int32) = (0 : Int32))).2) ?_
    refine XS.iconst X2.here hx rfl (oh hby D11 5 rfl) ?_
    refine XS.goto X2.here hx rfl (pc0 := 14) (pc' := 18) rfl (oh hby D11 6 rfl) (by decide) (by decide) ?_
    show oS p e below T2 (mkF m 18 #[vR xb] [(.int 1)]) _
    exact retN X2 hx (t := .boolean) Bd.returns (by simp) (oh hby D11 8 rfl) hr
  · show Q_bLat Z xb G h0 n0 _ T2.heap _
    rw [e2]
    exact ⟨rfl, N0, rfl⟩
def Q_gval (Z : State) (xb : Addr) (va : Addr) (h0 : Heap) (n0 : Nat) (v : Option Value) (h : Heap) (L : List Loc) : Prop := (v = some (.ref va)) ∧ (Fr n0 L) ∧ (h = h0)
set_option maxRecDepth 65536 in
set_option maxHeartbeats 40000000 in
theorem rm_gval (l : Launch) (Z : State) (a0 : Array Value) (hw : HW Z a0) (ws : List Jvm.Cond) (xb : Addr) (va : Addr) (h0 : Heap) (n0 : Nat) (Z0 : n0 ≤ h0.size) (q0 : fB Z h0 xb "value" "[B" (.ref va)) :
    mF l y_12 jdk_68_method_64_code 1 (some (.array .byte)) ws (rmk 0 0 0 0) #[(.ref xb)] Z h0 (Q_gval Z xb va h0 n0) := by
  refine MetFree.of_bodySF (plainFor_of_name pn_2) hisR ?_
  intro p e s m args below meth c s₁ Bd hml0 hP hK
  obtain ⟨rfl, hZ, hh⟩ := hP
  have hx := Bd.exec
  have hby := Bd.bytes
  have hml : c.maxLocals = 1 := hml0
  have hown : s.vm.findClass "java/lang/AbstractStringBuilder" = some m.cls := findClass_of_methodNamed Bd.named
  have hnm := (name_of_methodNamed Bd.named Bd.method).1
  have X0 : Stand p l e (rmk 0 0 0 0) s m #[(.ref xb)] below meth c s₁ [] 0 0 := Stand.of_body Bd
  have e0 : s₁.heap = h0 := by rw [← hh, Bd.state]; rfl
  have N0 := Fr.nil n0
  have pre0 : ∀ t, oS p e below s₁ (mkF m 0 #[vR xb] []) t → oS p e below s₁ (entryFrame m #[(.ref xb)] 1) t := fun t k => castTop (ef_8 m xb) k
  obtain ⟨T1, X1, e1, st1⟩ := getF X0 hx hZ hown (host := "") (Or.inl (ow hw 68 rfl)) Via.refl e0 q0 (g := (mkF m 1 #[vR xb] [(.ref xb)])) rfl rfl (oh hby D12 1 rfl)
  obtain ⟨fs, hr, hrun, hended, hW, hsame⟩ := X1.leave (v := some (.ref va)) (fun h => by rw [Bd.returns] at h; cases h)
  refine ⟨_, _, pre0 _ ?_, hrun, hended, _, _, rfl, ?_, ⟨_, rfl⟩, hW, hsame.mono (by decide) (by decide)⟩
  · refine XS.aloadN X0.here hx rfl (oh hby D12 0 rfl) rfl rfl ?_
    refine st1 _ ?_
    show oS p e below T1 (mkF m 4 #[vR xb] [(.ref va)]) _
    jvm_step X1.here [X1.here.top, hx, (oh hby D12 2 rfl), X1.method', Bd.returns, Value.isRef, FieldType.isReference]
    first | (intro acts; rw [hr _ acts rfl rfl rfl]) | rw [hr _ _ rfl rfl rfl]
    exact Steps.refl _
  · show Q_gval Z xb va h0 n0 _ T1.heap _
    rw [e1]
    exact ⟨rfl, N0, rfl⟩
def Q_alen (Z : State) (xb : Addr) (ct : Int32) (h0 : Heap) (n0 : Nat) (v : Option Value) (h : Heap) (L : List Loc) : Prop := (v = some (.int ct)) ∧ (Fr n0 L) ∧ (h = h0)
set_option maxRecDepth 65536 in
set_option maxHeartbeats 40000000 in
theorem rm_alen (l : Launch) (Z : State) (a0 : Array Value) (hw : HW Z a0) (ws : List Jvm.Cond) (xb : Addr) (ct : Int32) (h0 : Heap) (n0 : Nat) (Z0 : n0 ≤ h0.size) (q0 : fB Z h0 xb "count" "I" (.int ct)) :
    mF l y_13 jdk_68_method_6_code 1 (some .int) ws (rmk 0 0 0 0) #[(.ref xb)] Z h0 (Q_alen Z xb ct h0 n0) := by
  refine MetFree.of_bodySF (plainFor_of_name pn_2) hisR ?_
  intro p e s m args below meth c s₁ Bd hml0 hP hK
  obtain ⟨rfl, hZ, hh⟩ := hP
  have hx := Bd.exec
  have hby := Bd.bytes
  have hml : c.maxLocals = 1 := hml0
  have hown : s.vm.findClass "java/lang/AbstractStringBuilder" = some m.cls := findClass_of_methodNamed Bd.named
  have hnm := (name_of_methodNamed Bd.named Bd.method).1
  have X0 : Stand p l e (rmk 0 0 0 0) s m #[(.ref xb)] below meth c s₁ [] 0 0 := Stand.of_body Bd
  have e0 : s₁.heap = h0 := by rw [← hh, Bd.state]; rfl
  have N0 := Fr.nil n0
  have pre0 : ∀ t, oS p e below s₁ (mkF m 0 #[vR xb] []) t → oS p e below s₁ (entryFrame m #[(.ref xb)] 1) t := fun t k => castTop (ef_8 m xb) k
  obtain ⟨T1, X1, e1, st1⟩ := getF X0 hx hZ hown (host := "") (Or.inl (ow hw 128 rfl)) Via.refl e0 q0 (g := (mkF m 1 #[vR xb] [(.ref xb)])) rfl rfl (oh hby D13 1 rfl)
  obtain ⟨fs, hr, hrun, hended, hW, hsame⟩ := X1.leave (v := some (.int ct)) (fun h => by rw [Bd.returns] at h; cases h)
  refine ⟨_, _, pre0 _ ?_, hrun, hended, _, _, rfl, ?_, ⟨_, rfl⟩, hW, hsame.mono (by decide) (by decide)⟩
  · refine XS.aloadN X0.here hx rfl (oh hby D13 0 rfl) rfl rfl ?_
    refine st1 _ ?_
    show oS p e below T1 (mkF m 4 #[vR xb] [(.int ct)]) _
    exact retI X1 hx Bd.returns (oh hby D13 2 rfl) hr
  · show Q_alen Z xb ct h0 n0 _ T1.heap _
    rw [e1]
    exact ⟨rfl, N0, rfl⟩
theorem pd_8 : parseMethodDescriptor "()I" = some ⟨[], some .int⟩ := by decide +kernel
theorem pn_3 : plainName "java/lang/StringBuilder" = true := by first | (simp [plainName, overriddenIn]; done) | decide +kernel
def Q_blen (Z : State) (xb : Addr) (ct : Int32) (h0 : Heap) (n0 : Nat) (v : Option Value) (h : Heap) (L : List Loc) : Prop := (v = some (.int ct)) ∧ (Fr n0 L) ∧ (h = h0)
set_option maxRecDepth 65536 in
set_option maxHeartbeats 40000000 in
theorem rm_blen (l : Launch) (Z : State) (a0 : Array Value) (hw : HW Z a0) (ws : List Jvm.Cond) (xb : Addr) (ct : Int32) (h0 : Heap) (n0 : Nat) (Z0 : n0 ≤ h0.size) (q0 : Exa Z h0 xb "java/lang/StringBuilder") (q1 : fB Z h0 xb "count" "I" (.int ct)) :
    mF l y_14 jdk_67_method_93_code 1 (some .int) ws (rmk 1 0 0 12) #[(.ref xb)] Z h0 (Q_blen Z xb ct h0 n0) := by
  refine MetFree.of_bodySF (plainFor_of_name pn_3) hisR ?_
  intro p e s m args below meth c s₁ Bd hml0 hP hK
  obtain ⟨rfl, hZ, hh⟩ := hP
  have hx := Bd.exec
  have hby := Bd.bytes
  have hml : c.maxLocals = 1 := hml0
  have hown : s.vm.findClass "java/lang/StringBuilder" = some m.cls := findClass_of_methodNamed Bd.named
  have hnm := (name_of_methodNamed Bd.named Bd.method).1
  have X0 : Stand p l e (rmk 1 0 0 12) s m #[(.ref xb)] below meth c s₁ [] 0 0 := Stand.of_body Bd
  have e0 : s₁.heap = h0 := by rw [← hh, Bd.state]; rfl
  have N0 := Fr.nil n0
  have pre0 : ∀ t, oS p e below s₁ (mkF m 0 #[vR xb] []) t → oS p e below s₁ (entryFrame m #[(.ref xb)] 1) t := fun t k => castTop (ef_8 m xb) k
  obtain ⟨_, _, ⟨T1, L1, k1, n1⟩, -, X1, ⟨Lc1, hQ1, l1, y1, z1⟩, st1⟩ := superBack X0 hx hZ (K := "java/lang/StringBuilder") (y := y_13) hown (ow hw 193 rfl) (own_same (z := y_15) (by decide) rfl (ow hw 133 rfl) (ow hw 189 rfl)) (ow hw 189 rfl) (ow hw 124 rfl) (by decide) (backOf (W := 0) (rm_alen l Z a0 hw [] xb ct h0 n0 Z0 q1) hZ (ow hw 194 rfl) (ow hw 64 rfl) (by decide) (by decide)) e0 (Ins.self q0) (g := (mkF m 1 #[vR xb] [(.ref xb)])) rfl (by rw [hml]; rfl) (ow hw 194 rfl) (argsL := []) (rest := []) (lenOf pd_8 rfl) rfl (by show 2 * 0 + _ ≤ _; exact Nat.le_of_eq rfl) (oh hby D14 1 rfl) (fun _ _ => ⟨rfl, e0, (by decide : 0 + 0 ≤ _), (by decide : 0 + 0 ≤ _)⟩)
  dsimp only [Pt.U, Pt.locs, Pt.cells, Pt.slots] at X1 l1 y1 z1 st1 hQ1
  subst l1 y1 z1
  obtain ⟨rfl, Nq1, e1⟩ := hQ1
  have N1 := Fr.app N0 Nq1
  obtain ⟨fs, hr, hrun, hended, hW, hsame⟩ := X1.leave (v := some (.int ct)) (fun h => by rw [Bd.returns] at h; cases h)
  refine ⟨_, _, pre0 _ ?_, hrun, hended, _, _, rfl, ?_, ⟨_, rfl⟩, hW, hsame.mono (by decide) (by decide)⟩
  · refine XS.aloadN X0.here hx rfl (oh hby D14 0 rfl) rfl rfl ?_
    refine st1.trans ?_
    show oS p e below T1 (mkF m 4 #[vR xb] [(.int ct)]) _
    exact retI X1 hx Bd.returns (oh hby D14 2 rfl) hr
  · show Q_blen Z xb ct h0 n0 _ T1.heap _
    rw [e1]
    exact ⟨rfl, N1, rfl⟩
theorem own_getmem {cs : List Int32} {i : Nat} (h : i < cs.length) : cs.getD i 0 ∈ cs := by
  have e : cs.getD i 0 = cs[i] := by simp [List.getD_eq_getElem?_getD, h]
  rw [e]; exact List.getElem_mem _
theorem own_latstep {ds : List Int32} {i n : Nat} (hn : ds.length = n) (hi : i < n) (z : Value) :
    (own_bs (ds.take i) ++ List.replicate (n - i) z).set i (.int (StrChars.lo8 (ds.getD i 0))) = own_bs (ds.take (i + 1)) ++ List.replicate (n - (i + 1)) z := by
  have hl : (own_bs (ds.take i)).length = i := by rw [own_bsl, List.length_take]; omega
  have hr : List.replicate (n - i) z = z :: List.replicate (n - (i + 1)) z := by
    rw [show n - i = n - (i + 1) + 1 by omega, List.replicate_succ]
  have ht : ds.take (i + 1) = ds.take i ++ [ds.getD i 0] := by
    rw [List.take_add_one]
    simp [List.getD_eq_getElem?_getD, show i < ds.length by omega]
  rw [hr, List.set_append, if_neg (by omega), hl, Nat.sub_self, ht]
  show _ = List.map (fun c => Value.int (StrChars.lo8 c)) (ds.take i ++ [ds.getD i 0]) ++ _
  rw [List.map_append, List.append_assoc]
  rfl
theorem own_nar8 (x : Int32) : nar .byte (x.toInt8.toInt32) = StrChars.lo8 x := own_nb x
theorem own_coder0 (x : Int32) : (((x - x).toUInt32 >>> ((31 : Int32) &&& 31).toUInt32).toInt32).toInt8.toInt32 = (0 : Int32) := by
  rw [Int32.sub_self]
  decide
theorem own_cut1 {cs : List Int32} {o n : Nat} (h : o + n ≤ cs.length) : ((cs.drop o).take n).length = n := by
  rw [List.length_take, List.length_drop]; omega
theorem own_cut2 {cs : List Int32} {o n : Nat} : ∀ q, q < n → ((cs.drop o).take n).getD q 0 = cs.getD (o + q) 0 := by
  intro q hq
  rw [List.getD_eq_getElem?_getD, List.getD_eq_getElem?_getD, List.getElem?_take, if_pos hq, List.getElem?_drop]
set_option maxRecDepth 65536 in
set_option maxHeartbeats 40000000 in
theorem lp_cmpl {p : Program} {l : Launch} {e : Env} {R : Room} {s : State} {m : MethodId} {args : Array Value} {below : List Frame} {meth : Method} {c : Code} {cells slots : Nat} {Z : State} {a0 : Array Value} {n0 : Nat} (ca : Addr) (kc : ClassId) (cs : List Int32) (dv : Value) (dd : Addr) (kd : ClassId) (o : Nat) (n : Nat) (ds : List Int32) (ie : Nat) (je : Nat) (hx : p.tables.exec = Jvm.exec) (hZ : Z.Warmed39 s.vm) (hw : HW Z a0) (hby : c.code = jdk_52_method_21_code) (hml : c.maxLocals = 7) (hown : s.vm.findClass "java/lang/StringUTF16" = some m.cls) (hcl : cells ≤ R.cells) (hsl : slots ≤ R.slots) (hfr : 0 ≤ R.frames) (hlo : 0 ≤ R.locals) (hN : cs.length < 2 ^ 31) (hy1 : n0 ≤ dd) (hy2 : ca ≠ dd) (hie : ie = n) (hcap : n ≤ 44) (hon : o + n ≤ cs.length) (hds : ds.length = n) (hdc : ∀ q, q < n → ds.getD q 0 = cs.getD (o + q) 0) (hlat : ∀ c ∈ ds, ¬ (255 : Int32) < c) :
    ∀ (k : Nat) (i : Nat) (j : Nat) (vs : List Value) (z6 : Slot) (T0 : State) (h0 : Heap) (locs : List Loc), Stand p l e R s m args below meth c T0 locs cells slots → T0.heap = h0 → Fr n0 locs → n0 ≤ h0.size → Arv Z h0 ca kc .char (Int32.ofNat cs.length) (cs.map Value.int) dv → Arv Z h0 dd kd .byte (Int32.ofNat n) vs (.int 0) → (One z6) → (i + k = ie) → (j + k = je) → (j = o + i) → (vs = own_bs (ds.take i) ++ List.replicate (n - i) (.int 0)) → ∃ zx : Slot, ∃ (T' : State) (h' : Heap) (locs' : List Loc), Stand p l e R s m args below meth c T' locs' cells slots ∧ T'.heap = h' ∧ Fr n0 locs' ∧ Keep h0 h' ([dd] : List Addr) ∧ (One zx) ∧ (Arv Z h' dd kd .byte (Int32.ofNat n) (own_bs ds) (.int 0)) ∧ ∀ t, Steps p.tables e below (T'.setTop (mkF m 44 #[vR ca, vI (Int32.ofNat je), vR dd, vI (Int32.ofNat ie), vI (Int32.ofNat n), vI (Int32.ofNat ie), zx] [])) t → oS p e below T0 (mkF m 3 #[vR ca, vI (Int32.ofNat j), vR dd, vI (Int32.ofNat i), vI (Int32.ofNat n), vI (Int32.ofNat i), z6] []) t := by
  intro k
  induction k with
  | zero =>
    intro i j vs z6 T0 h0 locs X0 e0 N0 Z0 q0 q1 hz6 hik hjk hjo hvs
    have pre0 : ∀ t, oS p e below T0 (mkF m 3 #[vR ca, vI (Int32.ofNat j), vR dd, vI (Int32.ofNat i), vI (Int32.ofNat n), vI (Int32.ofNat i), z6] []) t → oS p e below T0 (mkF m 3 #[vR ca, vI (Int32.ofNat j), vR dd, vI (Int32.ofNat i), vI (Int32.ofNat n), vI (Int32.ofNat i), z6] []) t := fun _ kk => kk
    have hi' : i = n := by omega
    have hi2 : i = ie := by omega
    have hj2 : j = je := by omega
    have hv' : vs = own_bs ds := by rw [hvs, hi', Nat.sub_self, List.take_of_length_le (by omega)]; simp
    have R1 : Arv Z h0 dd kd .byte (Int32.ofNat n) (own_bs ds) (.int 0) := by have q := q1; rw [hv'] at q; exact q
    have pre2 : ∀ t, oS p e below T0 (mkF m 44 #[vR ca, vI (Int32.ofNat j), vR dd, vI (Int32.ofNat i), vI (Int32.ofNat n), vI (Int32.ofNat i), z6] []) t → oS p e below T0 (mkF m 3 #[vR ca, vI (Int32.ofNat j), vR dd, vI (Int32.ofNat i), vI (Int32.ofNat n), vI (Int32.ofNat i), z6] []) t := fun t kk => pre0 t (by
      refine XS.iload X0.here hx rfl (oh hby D0 2 rfl) rfl ?_
      refine XS.iload X0.here hx rfl (oh hby D0 3 rfl) rfl ?_
      refine XS.icmpYes X0.here hx rfl (pc0 := 7) (pc' := 44) rfl (oh hby D0 4 rfl) rfl (flt ((own_nlt (by omega) (by omega)) : ¬ ((Int32.ofNat i) < (Int32.ofNat n)))).2.1 (by decide) (by decide) ?_
      show oS p e below T0 (mkF m 44 #[vR ca, vI (Int32.ofNat j), vR dd, vI (Int32.ofNat i), vI (Int32.ofNat n), vI (Int32.ofNat i), z6] []) _
      exact kk)
    exact ⟨z6, T0, h0, _, X0, e0, N0, (Keep.refl h0 ([dd] : List Addr)), hz6, R1, (by rw [← hi2, ← hj2]; exact pre2)⟩
  | succ k ih =>
    intro i j vs z6 T0 h0 locs X0 e0 N0 Z0 q0 q1 hz6 hik hjk hjo hvs
    have pre0 : ∀ t, oS p e below T0 (mkF m 3 #[vR ca, vI (Int32.ofNat j), vR dd, vI (Int32.ofNat i), vI (Int32.ofNat n), vI (Int32.ofNat i), z6] []) t → oS p e below T0 (mkF m 3 #[vR ca, vI (Int32.ofNat j), vR dd, vI (Int32.ofNat i), vI (Int32.ofNat n), vI (Int32.ofNat i), z6] []) t := fun _ kk => kk
    have hj' : j < cs.length := by omega
    have hdi : ds.getD i 0 = cs.getD j 0 := by rw [hdc i (by omega), hjo]
    have hlw : ¬ (255 : Int32) < cs.getD j 0 := by rw [← hdi]; exact hlat _ (own_getmem (by omega))
    have hvl : vs.length = n := by rw [hvs, List.length_append, own_bsl, List.length_take, List.length_replicate]; omega
    obtain ⟨cl1, Ar1, qq1, S1, M1, Hh1, U1⟩ := id q0
    have ib1 : ¬ ((Int32.ofNat j) < 0 ∨ cl1.slots.size ≤ ((Int32.ofNat j)).toNatClampNeg) := inb_of S1 (own_inb hj' hN)
    obtain ⟨cl2, Ar2, qq2, S2, M2, Hh2, U2⟩ := id q1
    obtain ⟨T2, h2, X2, e2, W2, st2⟩ := stB X0 hx hZ e0 Ar2 (j := (Int32.ofNat i)) (inb_of S2 (own_inb (by omega) (by omega))) (g := (mkF m 31 #[vR ca, vI (Int32.ofNat j), vR dd, vI (Int32.ofNat i), vI (Int32.ofNat n), vI (Int32.ofNat i), vI (cs.getD j 0)] [(.int ((cs.getD j 0).toInt8.toInt32)), (.int (Int32.ofNat i)), (.ref dd)])) rfl rfl (oh hby D0 18 rfl)
    have N2 := Fr.snoc X2 N0 hy1
    have V2 : Arv Z h2 dd kd .byte (Int32.ofNat n) (vs.set i (.int (nar .byte ((cs.getD j 0).toInt8.toInt32)))) (.int 0) := Arv.set Ar2 qq2 S2 M2 Hh2 U2 (fits_nar_byte _) W2 i (own_clamp (by omega)) (by omega)
    have pre3 : ∀ t, oS p e below T2 (mkF m 3 #[vR ca, vI ((Int32.ofNat j) + (1 : Int32)), vR dd, vI ((Int32.ofNat i) + (1 : Int32)), vI (Int32.ofNat n), vI ((Int32.ofNat i) + (1 : Int32)), vI (cs.getD j 0)] []) t → oS p e below T0 (mkF m 3 #[vR ca, vI (Int32.ofNat j), vR dd, vI (Int32.ofNat i), vI (Int32.ofNat n), vI (Int32.ofNat i), z6] []) t := fun t kk => pre0 t (by
      refine XS.iload X0.here hx rfl (oh hby D0 2 rfl) rfl ?_
      refine XS.iload X0.here hx rfl (oh hby D0 3 rfl) rfl ?_
      refine XS.icmpNo X0.here hx rfl (oh hby D0 4 rfl) rfl (tlt ((own_inb (by omega) (by omega)).2 : (Int32.ofNat i) < (Int32.ofNat n))).2.1 ?_
      refine XS.aloadN X0.here hx rfl (oh hby D0 5 rfl) rfl rfl ?_
      refine XS.iloadN X0.here hx rfl (oh hby D0 6 rfl) rfl ?_
      show oS p e below T0 (mkF m 12 #[vR ca, vI (Int32.ofNat j), vR dd, vI (Int32.ofNat i), vI (Int32.ofNat n), vI (Int32.ofNat i), z6] [(.int (Int32.ofNat j)), (.ref ca)]) _
      refine X0.caload hx (j := (Int32.ofNat j)) (v := (.int (cs.getD j 0))) (by rw [e0]; exact Ar1.1) (State.isArrayOf_alike hZ.alike Ar1.2.1) Ar1.2.2 ib1 (Hh1.at ib1 (own_mapat hj' hN)) (g := (mkF m 12 #[vR ca, vI (Int32.ofNat j), vR dd, vI (Int32.ofNat i), vI (Int32.ofNat n), vI (Int32.ofNat i), z6] [(.int (Int32.ofNat j)), (.ref ca)])) rfl rfl (oh hby D0 7 rfl) _ ?_
      show oS p e below T0 (mkF m 13 #[vR ca, vI (Int32.ofNat j), vR dd, vI (Int32.ofNat i), vI (Int32.ofNat n), vI (Int32.ofNat i), z6] [(.int (cs.getD j 0))]) _
      refine XS.istoreS X0.here hx rfl (oh hby D0 8 rfl) rfl rfl hz6 ?_
      refine XS.iload X0.here hx rfl (oh hby D0 9 rfl) rfl ?_
      refine XS.sipush X0.here hx rfl (oh hby D0 10 rfl) ?_
      refine XS.icmpYes X0.here hx rfl (pc0 := 20) (pc' := 26) rfl (oh hby D0 11 rfl) rfl (flt (hlw : ¬ ((255 : Int32) < (cs.getD j 0)))).2.2.2 (by decide) (by decide) ?_
      refine XS.aloadN X0.here hx rfl (oh hby D0 14 rfl) rfl rfl ?_
      show oS p e below T0 (mkF m 27 #[vR ca, vI (Int32.ofNat j), vR dd, vI (Int32.ofNat i), vI (Int32.ofNat n), vI (Int32.ofNat i), vI (cs.getD j 0)] [(.ref dd)]) _
      refine XS.iloadN X0.here hx rfl (oh hby D0 15 rfl) rfl ?_
      refine XS.iload X0.here hx rfl (oh hby D0 16 rfl) rfl ?_
      refine XS.i2b X0.here hx rfl (oh hby D0 17 rfl) rfl ?_
      refine st2 _ ?_
      show oS p e below T2 (mkF m 32 #[vR ca, vI (Int32.ofNat j), vR dd, vI (Int32.ofNat i), vI (Int32.ofNat n), vI (Int32.ofNat i), vI (cs.getD j 0)] []) _
      refine XS.iinc X2.here hx rfl (oh hby D0 19 rfl) rfl (l' := #[vR ca, vI ((Int32.ofNat j) + (1 : Int32)), vR dd, vI (Int32.ofNat i), vI (Int32.ofNat n), vI (Int32.ofNat i), vI (cs.getD j 0)]) rfl ?_
      refine XS.iinc X2.here hx rfl (oh hby D0 20 rfl) rfl (l' := #[vR ca, vI ((Int32.ofNat j) + (1 : Int32)), vR dd, vI ((Int32.ofNat i) + (1 : Int32)), vI (Int32.ofNat n), vI (Int32.ofNat i), vI (cs.getD j 0)]) rfl ?_
      refine XS.iinc X2.here hx rfl (oh hby D0 21 rfl) rfl (l' := #[vR ca, vI ((Int32.ofNat j) + (1 : Int32)), vR dd, vI ((Int32.ofNat i) + (1 : Int32)), vI (Int32.ofNat n), vI ((Int32.ofNat i) + (1 : Int32)), vI (cs.getD j 0)]) rfl ?_
      refine XS.goto X2.here hx rfl (pc0 := 41) (pc' := 3) rfl (oh hby D0 22 rfl) (by decide) (by decide) ?_
      show oS p e below T2 (mkF m 3 #[vR ca, vI ((Int32.ofNat j) + (1 : Int32)), vR dd, vI ((Int32.ofNat i) + (1 : Int32)), vI (Int32.ofNat n), vI ((Int32.ofNat i) + (1 : Int32)), vI (cs.getD j 0)] []) _
      exact kk)
    have c4 := (q0.other W2 hy2)
    have preH : ∀ t, oS p e below T2 (mkF m 3 #[vR ca, vI (Int32.ofNat (j + 1)), vR dd, vI (Int32.ofNat (i + 1)), vI (Int32.ofNat n), vI (Int32.ofNat (i + 1)), (Slot.val (.int (cs.getD j 0)))] []) t → oS p e below T0 (mkF m 3 #[vR ca, vI (Int32.ofNat j), vR dd, vI (Int32.ofNat i), vI (Int32.ofNat n), vI (Int32.ofNat i), z6] []) t := by
      rw [inc_ofNat i, inc_ofNat j]
      exact pre3
    obtain ⟨zx_, T9, h9, lo9, X9, e9, N9, K9, g9_0, g9_1, pre9⟩ := ih ((i + 1)) ((j + 1)) ((vs.set i (.int (nar .byte ((cs.getD j 0).toInt8.toInt32))))) ((Slot.val (.int (cs.getD j 0)))) T2 h2 _ X2 e2 N2 (Nat.le_trans Z0 (Keep.of_wr W2).1) c4 V2 (One.val rfl) (by omega) (by omega) (by omega) (by rw [own_nar8, ← hdi, hvs]; exact own_latstep hds (by omega) _)
    exact ⟨zx_, T9, h9, _, X9, e9, N9, (((Keep.refl h0 ([dd] : List Addr)).wr W2 (Or.inl (by simp))).trans K9 (allS (Or.inl (by simp)) all0)), g9_0, g9_1, fun t kk => preH t (pre9 t kk)⟩
def Q_cmp5l (Z : State) (ca : Addr) (kc : ClassId) (cs : List Int32) (dv : Value) (o : Nat) (n : Nat) (ds : List Int32) (dd : Addr) (kd : ClassId) (vs : List Value) (h0 : Heap) (n0 : Nat) (v : Option Value) (h : Heap) (L : List Loc) : Prop := (v = some (.int (Int32.ofNat n))) ∧ (Fr n0 L) ∧ (Keep h0 h ([dd] : List Addr)) ∧ (Arv Z h dd kd .byte (Int32.ofNat n) (own_bs ds) (.int 0))
set_option maxRecDepth 65536 in
set_option maxHeartbeats 40000000 in
theorem rm_cmp5l (l : Launch) (Z : State) (a0 : Array Value) (hw : HW Z a0) (ws : List Jvm.Cond) (ca : Addr) (kc : ClassId) (cs : List Int32) (dv : Value) (o : Nat) (n : Nat) (ds : List Int32) (dd : Addr) (kd : ClassId) (vs : List Value) (h0 : Heap) (n0 : Nat) (Z0 : n0 ≤ h0.size) (q0 : Arv Z h0 ca kc .char (Int32.ofNat cs.length) (cs.map Value.int) dv) (hN : cs.length < 2 ^ 31) (q2 : Arv Z h0 dd kd .byte (Int32.ofNat n) vs (.int 0)) (q3 : n0 ≤ dd) (q4 : ca ≠ dd) (hcap : n ≤ 44) (hon : o + n ≤ cs.length) (hds : ds.length = n) (hdc : ∀ q, q < n → ds.getD q 0 = cs.getD (o + q) 0) (hlat : ∀ c ∈ ds, ¬ (255 : Int32) < c) (hv0 : vs = List.replicate n (.int 0)) :
    mF l y_0 jdk_52_method_21_code 7 (some .int) ws (rmk 0 0 0 0) #[(.ref ca), (.int (Int32.ofNat o)), (.ref dd), (.int 0), (.int (Int32.ofNat n))] Z h0 (Q_cmp5l Z ca kc cs dv o n ds dd kd vs h0 n0) := by
  refine MetFree.of_bodySF (plainFor_of_name pn_0) hisR ?_
  intro p e s m args below meth c s₁ Bd hml0 hP hK
  obtain ⟨rfl, hZ, hh⟩ := hP
  have hx := Bd.exec
  have hby := Bd.bytes
  have hml : c.maxLocals = 7 := hml0
  have hown : s.vm.findClass "java/lang/StringUTF16" = some m.cls := findClass_of_methodNamed Bd.named
  have hnm := (name_of_methodNamed Bd.named Bd.method).1
  have X0 : Stand p l e (rmk 0 0 0 0) s m #[(.ref ca), (.int (Int32.ofNat o)), (.ref dd), (.int 0), (.int (Int32.ofNat n))] below meth c s₁ [] 0 0 := Stand.of_body Bd
  have e0 : s₁.heap = h0 := by rw [← hh, Bd.state]; rfl
  have N0 := Fr.nil n0
  have pre0 : ∀ t, oS p e below s₁ (mkF m 0 #[vR ca, vI (Int32.ofNat o), vR dd, vI 0, vI (Int32.ofNat n), .unset, .unset] []) t → oS p e below s₁ (entryFrame m #[(.ref ca), (.int (Int32.ofNat o)), (.ref dd), (.int 0), (.int (Int32.ofNat n))] 7) t := fun t k => castTop (ef_0 m ca (Int32.ofNat o) dd (0 : Int32) (Int32.ofNat n)) k
  have pre1 : ∀ t, oS p e below s₁ (mkF m 3 #[vR ca, vI (Int32.ofNat o), vR dd, vI 0, vI (Int32.ofNat n), vI 0, .unset] []) t → oS p e below s₁ (entryFrame m #[(.ref ca), (.int (Int32.ofNat o)), (.ref dd), (.int 0), (.int (Int32.ofNat n))] 7) t := fun t kk => pre0 t (by
    refine XS.iconst X0.here hx rfl (oh hby D0 0 rfl) ?_
    refine XS.istore X0.here hx rfl (oh hby D0 1 rfl) rfl (l' := #[vR ca, vI (Int32.ofNat o), vR dd, vI 0, vI (Int32.ofNat n), vI 0, .unset]) rfl ?_
    show oS p e below s₁ (mkF m 3 #[vR ca, vI (Int32.ofNat o), vR dd, vI 0, vI (Int32.ofNat n), vI 0, .unset] []) _
    exact kk)
  have preh2 : ∀ t, oS p e below s₁ (mkF m 3 #[vR ca, vI (Int32.ofNat o), vR dd, vI (Int32.ofNat 0), vI (Int32.ofNat n), vI (Int32.ofNat 0), Slot.unset] []) t → oS p e below s₁ (entryFrame m #[(.ref ca), (.int (Int32.ofNat o)), (.ref dd), (.int 0), (.int (Int32.ofNat n))] 7) t := by
    exact pre1
  obtain ⟨zx_2, T2, h2, lo2, X2, e2, N2, K2, f2_0, f2_1, st2⟩ := lp_cmpl (ca) (kc) (cs) (dv) (dd) (kd) (o) (n) (ds) (n) ((o + n)) hx hZ hw hby hml hown (by decide : 0 ≤ _) (by decide : 0 ≤ _) (by decide) (by decide) hN q3 q4 (rfl) hcap hon hds hdc hlat n (0) (o) (vs) (Slot.unset) s₁ h0 _ X0 e0 N0 Z0 q0 q2 (One.u) (by omega) (rfl) (rfl) (by rw [hv0]; simp)
  obtain ⟨fs, hr, hrun, hended, hW, hsame⟩ := X2.leave (v := some (.int (Int32.ofNat n))) (fun h => by rw [Bd.returns] at h; cases h)
  refine ⟨_, _, preh2 _ ?_, hrun, hended, _, _, rfl, ?_, ⟨_, rfl⟩, hW, hsame.mono (by decide) (by decide)⟩
  · refine st2 _ ?_
    show oS p e below T2 (mkF m 44 #[vR ca, vI (Int32.ofNat (o + n)), vR dd, vI (Int32.ofNat n), vI (Int32.ofNat n), vI (Int32.ofNat n), zx_2] []) _
    refine XS.iload X2.here hx rfl (oh hby D0 23 rfl) rfl ?_
    show oS p e below T2 (mkF m 46 #[vR ca, vI (Int32.ofNat (o + n)), vR dd, vI (Int32.ofNat n), vI (Int32.ofNat n), vI (Int32.ofNat n), zx_2] [(.int (Int32.ofNat n))]) _
    exact retI X2 hx Bd.returns (oh hby D0 24 rfl) hr
  · show Q_cmp5l Z ca kc cs dv o n ds dd kd vs h0 n0 _ T2.heap _
    rw [e2]
    exact ⟨rfl, N2, ((Keep.refl h0 ([dd] : List Addr)).trans K2 (allS (Or.inl (by simp)) all0)), f2_1⟩
def Q_cmp3l (Z : State) (ca : Addr) (kc : ClassId) (cs : List Int32) (dv : Value) (o : Nat) (n : Nat) (ds : List Int32) (h0 : Heap) (n0 : Nat) (v : Option Value) (h : Heap) (L : List Loc) : Prop := ∃ (tt : Addr) (kt : ClassId), (v = some (.ref tt)) ∧ (Fr n0 L) ∧ (Keep h0 h ([] : List Addr)) ∧ (h0.size ≤ tt) ∧ (Arv Z h tt kt .byte (Int32.ofNat n) (own_bs ds) (.int 0))
set_option maxRecDepth 65536 in
set_option maxHeartbeats 40000000 in
theorem rm_cmp3l (l : Launch) (Z : State) (a0 : Array Value) (hw : HW Z a0) (ws : List Jvm.Cond) (ca : Addr) (kc : ClassId) (cs : List Int32) (dv : Value) (o : Nat) (n : Nat) (ds : List Int32) (h0 : Heap) (n0 : Nat) (Z0 : n0 ≤ h0.size) (q0 : Arv Z h0 ca kc .char (Int32.ofNat cs.length) (cs.map Value.int) dv) (hN : cs.length < 2 ^ 31) (hcap : n ≤ 44) (hon : o + n ≤ cs.length) (hds : ds.length = n) (hdc : ∀ q, q < n → ds.getD q 0 = cs.getD (o + q) 0) (hlat : ∀ c ∈ ds, ¬ (255 : Int32) < c) :
    mF l y_6 jdk_52_method_16_code 6 (some (.array .byte)) ws (rmk 1 1 44 18) #[(.ref ca), (.int (Int32.ofNat o)), (.int (Int32.ofNat n))] Z h0 (Q_cmp3l Z ca kc cs dv o n ds h0 n0) := by
  refine MetFree.of_bodySF (plainFor_of_name pn_0) hisR ?_
  intro p e s m args below meth c s₁ Bd hml0 hP hK
  obtain ⟨rfl, hZ, hh⟩ := hP
  have hx := Bd.exec
  have hby := Bd.bytes
  have hml : c.maxLocals = 6 := hml0
  have hown : s.vm.findClass "java/lang/StringUTF16" = some m.cls := findClass_of_methodNamed Bd.named
  have hnm := (name_of_methodNamed Bd.named Bd.method).1
  have X0 : Stand p l e (rmk 1 1 44 18) s m #[(.ref ca), (.int (Int32.ofNat o)), (.int (Int32.ofNat n))] below meth c s₁ [] 0 0 := Stand.of_body Bd
  have e0 : s₁.heap = h0 := by rw [← hh, Bd.state]; rfl
  have N0 := Fr.nil n0
  have pre0 : ∀ t, oS p e below s₁ (mkF m 0 #[vR ca, vI (Int32.ofNat o), vI (Int32.ofNat n), .unset, .unset, .unset] []) t → oS p e below s₁ (entryFrame m #[(.ref ca), (.int (Int32.ofNat o)), (.int (Int32.ofNat n))] 6) t := fun t k => castTop (ef_5 m ca (Int32.ofNat o) (Int32.ofNat n)) k
  obtain ⟨T1, h1, ky1, X1, e1, E1, A1, st1⟩ := newP X0 hx hZ (ow hw 16 rfl) e0 (g := (mkF m 1 #[vR ca, vI (Int32.ofNat o), vI (Int32.ofNat n), .unset, .unset, .unset] [(.int (Int32.ofNat n))])) rfl (oh hby D6 1 rfl) rfl ((own_nlt (Nat.zero_le _) (by omega)) : ¬ ((Int32.ofNat n) < (0 : Int32))) (cap := 44) ((by rw [own_clamp (by omega)]; omega) : (Int32.ofNat n).toNatClampNeg ≤ 44) (by decide) (by decide) (by decide)
  obtain ⟨b1, g1⟩ : ∃ z, z = h0.size := ⟨_, rfl⟩
  rw [← g1] at A1 st1
  have V1 : Arv Z h1 b1 ky1 .byte (Int32.ofNat n) [] (.int 0) := Arv.new A1 (own_nlt (Nat.zero_le _) (by omega))
  have U1 : Arv Z h1 b1 ky1 .byte (Int32.ofNat n) (List.replicate n (.int 0)) (.int 0) := V1.pad (pad_rep [] (.int 0) n)
  have c2 := (q0.ext E1)
  have ge3 : n0 ≤ b1 := Nat.le_trans Z0 (Nat.le_trans (Nat.le_refl _) (Nat.le_of_eq g1.symm))
  have ne4 : ca ≠ b1 := Nat.ne_of_lt (Nat.lt_of_lt_of_le q0.lt (Nat.le_of_eq g1.symm))
  obtain ⟨_, _, ⟨T5, L5, k5, n5⟩, -, X5, ⟨Lc5, hQ5, l5, y5, z5⟩, st5⟩ := Jvm.LawKit.callS X1 hx (y := y_0) hown (mvT hZ (ow hw 48 rfl)) (mvT hZ (ow hw 49 rfl)) (mvT hZ (ow hw 46 rfl)) (mvT hZ (ow hw 50 rfl)) (by decide) (backOf (W := 0) (rm_cmp5l l Z a0 hw [] ca kc cs dv o n ds b1 ky1 (List.replicate n (.int 0)) h1 n0 (Nat.le_trans Z0 E1.1) c2 hN U1 ge3 ne4 hcap hon hds hdc hlat (rfl)) hZ (ow hw 50 rfl) (ow hw 46 rfl) (by decide) (by decide)) (g := (mkF m 9 #[vR ca, vI (Int32.ofNat o), vI (Int32.ofNat n), vR b1, .unset, .unset] [(.int (Int32.ofNat n)), (.int 0), (.ref b1), (.int (Int32.ofNat o)), (.ref ca)])) rfl (by rw [hml]; rfl) (argsL := [(.ref ca), (.int (Int32.ofNat o)), (.ref b1), (.int 0), (.int (Int32.ofNat n))]) (rest := []) (lenOf pd_3 rfl) rfl (by show 2 * 0 + _ ≤ _; exact Nat.le_of_eq rfl) (oh hby D6 8 rfl) (fun _ _ => ⟨rfl, e1, (by decide : 1 + 0 ≤ _), (by decide : 44 + 0 ≤ _)⟩)
  dsimp only [Pt.U, Pt.locs, Pt.cells, Pt.slots] at X5 l5 y5 z5 st5 hQ5
  subst l5 y5 z5
  obtain ⟨rfl, Nq5, K5, f5_0⟩ := hQ5
  have N5 := Fr.app N0 Nq5
  obtain ⟨fs, hr, hrun, hended, hW, hsame⟩ := X5.leave (v := some (.ref b1)) (fun h => by rw [Bd.returns] at h; cases h)
  refine ⟨_, _, pre0 _ ?_, hrun, hended, _, _, rfl, ?_, ⟨_, rfl⟩, hW, hsame.mono (by decide) (by decide)⟩
  · refine XS.iloadN X0.here hx rfl (oh hby D6 0 rfl) rfl ?_
    refine st1 _ ?_
    show oS p e below T1 (mkF m 3 #[vR ca, vI (Int32.ofNat o), vI (Int32.ofNat n), .unset, .unset, .unset] [(.ref b1)]) _
    refine XS.astoreN X1.here hx rfl (oh hby D6 2 rfl) rfl rfl (l' := #[vR ca, vI (Int32.ofNat o), vI (Int32.ofNat n), vR b1, .unset, .unset]) rfl ?_
    refine XS.aloadN X1.here hx rfl (oh hby D6 3 rfl) rfl rfl ?_
    refine XS.iloadN X1.here hx rfl (oh hby D6 4 rfl) rfl ?_
    refine XS.aloadN X1.here hx rfl (oh hby D6 5 rfl) rfl rfl ?_
    refine XS.iconst X1.here hx rfl (oh hby D6 6 rfl) ?_
    show oS p e below T1 (mkF m 8 #[vR ca, vI (Int32.ofNat o), vI (Int32.ofNat n), vR b1, .unset, .unset] [(.int 0), (.ref b1), (.int (Int32.ofNat o)), (.ref ca)]) _
    refine XS.iloadN X1.here hx rfl (oh hby D6 7 rfl) rfl ?_
    refine st5 _ ?_
    show oS p e below T5 (mkF m 12 #[vR ca, vI (Int32.ofNat o), vI (Int32.ofNat n), vR b1, .unset, .unset] [(.int (Int32.ofNat n))]) _
    refine XS.istore X5.here hx rfl (oh hby D6 9 rfl) rfl (l' := #[vR ca, vI (Int32.ofNat o), vI (Int32.ofNat n), vR b1, vI (Int32.ofNat n), .unset]) rfl ?_
    refine XS.iload X5.here hx rfl (oh hby D6 10 rfl) rfl ?_
    refine XS.iloadN X5.here hx rfl (oh hby D6 11 rfl) rfl ?_
    refine XS.icmpYes X5.here hx rfl (pc0 := 17) (pc' := 57) rfl (oh hby D6 12 rfl) rfl (teq (rfl : (Int32.ofNat n) = (Int32.ofNat n))).1 (by decide) (by decide) ?_
    refine XS.aloadN X5.here hx rfl (oh hby D6 25 rfl) rfl rfl ?_
    show oS p e below T5 (mkF m 58 #[vR ca, vI (Int32.ofNat o), vI (Int32.ofNat n), vR b1, vI (Int32.ofNat n), .unset] [(.ref b1)]) _
    jvm_step X5.here [X5.here.top, hx, (oh hby D6 26 rfl), X5.method', Bd.returns, Value.isRef, FieldType.isReference]
    first | (intro acts; rw [hr _ acts rfl rfl rfl]) | rw [hr _ _ rfl rfl rfl]
    exact Steps.refl _
  · show Q_cmp3l Z ca kc cs dv o n ds h0 n0 _ T5.heap _
    exact ⟨b1, ky1, rfl, N5, (((Keep.refl h0 ([] : List Addr)).ext E1).trans K5 (allS (Or.inr (Nat.le_trans (Nat.le_refl _) (Nat.le_of_eq g1.symm))) all0)), (Nat.le_trans (Nat.le_refl _) (Nat.le_of_eq g1.symm)), f5_0⟩
def Q_codL0 (Z : State) (dd : Addr) (n : Nat) (kd : ClassId) (vs : List Value) (h0 : Heap) (n0 : Nat) (v : Option Value) (h : Heap) (L : List Loc) : Prop := (v = some (.int 0)) ∧ (Fr n0 L) ∧ (h = h0)
set_option maxRecDepth 65536 in
set_option maxHeartbeats 40000000 in
theorem rm_codL0 (l : Launch) (Z : State) (a0 : Array Value) (hw : HW Z a0) (ws : List Jvm.Cond) (dd : Addr) (n : Nat) (kd : ClassId) (vs : List Value) (h0 : Heap) (n0 : Nat) (Z0 : n0 ≤ h0.size) (q0 : Arv Z h0 dd kd .byte (Int32.ofNat n) vs (.int 0)) :
    mF l y_7 jdk_52_method_15_code 2 (some .byte) ws (rmk 0 0 0 0) #[(.ref dd), (.int (Int32.ofNat n))] Z h0 (Q_codL0 Z dd n kd vs h0 n0) := by
  refine MetFree.of_bodySF (plainFor_of_name pn_0) hisR ?_
  intro p e s m args below meth c s₁ Bd hml0 hP hK
  obtain ⟨rfl, hZ, hh⟩ := hP
  have hx := Bd.exec
  have hby := Bd.bytes
  have hml : c.maxLocals = 2 := hml0
  have hown : s.vm.findClass "java/lang/StringUTF16" = some m.cls := findClass_of_methodNamed Bd.named
  have hnm := (name_of_methodNamed Bd.named Bd.method).1
  have X0 : Stand p l e (rmk 0 0 0 0) s m #[(.ref dd), (.int (Int32.ofNat n))] below meth c s₁ [] 0 0 := Stand.of_body Bd
  have e0 : s₁.heap = h0 := by rw [← hh, Bd.state]; rfl
  have N0 := Fr.nil n0
  have pre0 : ∀ t, oS p e below s₁ (mkF m 0 #[vR dd, vI (Int32.ofNat n)] []) t → oS p e below s₁ (entryFrame m #[(.ref dd), (.int (Int32.ofNat n))] 2) t := fun t k => castTop (ef_2 m dd (Int32.ofNat n)) k
  obtain ⟨cl1, Ar1, -, S1, M1, -, -⟩ := id q0
  obtain ⟨fs, hr, hrun, hended, hW, hsame⟩ := X0.leave (v := some (.int 0)) (fun h => by rw [Bd.returns] at h; cases h)
  refine ⟨_, _, pre0 _ ?_, hrun, hended, _, _, rfl, ?_, ⟨_, rfl⟩, hW, hsame.mono (by decide) (by decide)⟩
  · refine XS.iloadN X0.here hx rfl (oh hby D7 0 rfl) rfl ?_
    refine XS.aloadN X0.here hx rfl (oh hby D7 1 rfl) rfl rfl ?_
    show oS p e below s₁ (mkF m 2 #[vR dd, vI (Int32.ofNat n)] [(.ref dd), (.int (Int32.ofNat n))]) _
    refine X0.arraylength hx (by rw [e0]; exact Ar1.1) (State.isArrayOf_alike hZ.alike Ar1.2.1) (g := (mkF m 2 #[vR dd, vI (Int32.ofNat n)] [(.ref dd), (.int (Int32.ofNat n))])) rfl rfl (oh hby D7 2 rfl) _ ?_
    rw [len_of S1 M1]
    show oS p e below s₁ (mkF m 3 #[vR dd, vI (Int32.ofNat n)] [(.int (Int32.ofNat n)), (.int (Int32.ofNat n))]) _
    refine XS.isub X0.here hx rfl (oh hby D7 3 rfl) rfl ?_
    refine XS.bipush X0.here hx rfl (oh hby D7 4 rfl) ?_
    refine XS.iushr X0.here hx rfl (oh hby D7 5 rfl) rfl ?_
    refine XS.i2b X0.here hx rfl (oh hby D7 6 rfl) rfl ?_
    show oS p e below s₁ (mkF m 8 #[vR dd, vI (Int32.ofNat n)] [(.int (((((Int32.ofNat n) - (Int32.ofNat n)).toUInt32 >>> ((31 : Int32) &&& 31).toUInt32).toInt32).toInt8.toInt32))]) _
    rw [own_coder0 (Int32.ofNat n)]
    show oS p e below s₁ (mkF m 8 #[vR dd, vI (Int32.ofNat n)] [(.int 0)]) _
    exact retN X0 hx (t := .byte) Bd.returns (by simp) (oh hby D7 7 rfl) hr
  · show Q_codL0 Z dd n kd vs h0 n0 _ s₁.heap _
    rw [e0]
    exact ⟨rfl, N0, rfl⟩
def Q_new4l (Z : State) (xs : Addr) (ca : Addr) (kc : ClassId) (cs : List Int32) (dv : Value) (o : Nat) (n : Nat) (ds : List Int32) (G : Int32) (h0 : Heap) (n0 : Nat) (v : Option Value) (h : Heap) (L : List Loc) : Prop := ∃ (tt : Addr) (kt : ClassId), (v = none) ∧ (Fr n0 L) ∧ (Keep h0 h ([xs] : List Addr)) ∧ (fV Z h xs (.ref tt)) ∧ (fC Z h xs (.int 0)) ∧ (h0.size ≤ tt) ∧ (Arv Z h tt kt .byte (Int32.ofNat n) (own_bs ds) (.int 0))
set_option maxRecDepth 65536 in
set_option maxHeartbeats 40000000 in
theorem rm_new4l (l : Launch) (Z : State) (a0 : Array Value) (hw : HW Z a0) (ws : List Jvm.Cond) (xs : Addr) (ca : Addr) (kc : ClassId) (cs : List Int32) (dv : Value) (o : Nat) (n : Nat) (ds : List Int32) (G : Int32) (h0 : Heap) (n0 : Nat) (Z0 : n0 ≤ h0.size) (q0 : sC Z G) (hCS : ¬ (G = (0 : Int32))) (q2 : Old Z n0 h0) (hn1 : 0 < n) (q4 : Arv Z h0 ca kc .char (Int32.ofNat cs.length) (cs.map Value.int) dv) (hN : cs.length < 2 ^ 31) (hcap : n ≤ 44) (hon : o + n ≤ cs.length) (hds : ds.length = n) (hdc : ∀ q, q < n → ds.getD q 0 = cs.getD (o + q) 0) (hlat : ∀ c ∈ ds, ¬ (255 : Int32) < c) (q11 : eS Z h0 xs) (q12 : fV Z h0 xs .null) (q13 : fC Z h0 xs (.int 0)) (q14 : n0 ≤ xs) :
    mF l y_8 jdk_42_method_149_code 6 none ws (rmk 2 1 44 35) #[(.ref xs), (.ref ca), (.int (Int32.ofNat o)), (.int (Int32.ofNat n)), .null] Z h0 (Q_new4l Z xs ca kc cs dv o n ds G h0 n0) := by
  refine MetFree.of_bodySF (plainFor_of_name pn_1) hisR ?_
  intro p e s m args below meth c s₁ Bd hml0 hP hK
  obtain ⟨rfl, hZ, hh⟩ := hP
  have hx := Bd.exec
  have hby := Bd.bytes
  have hml : c.maxLocals = 6 := hml0
  have hown : s.vm.findClass "java/lang/String" = some m.cls := findClass_of_methodNamed Bd.named
  have hnm := (name_of_methodNamed Bd.named Bd.method).1
  have X0 : Stand p l e (rmk 2 1 44 35) s m #[(.ref xs), (.ref ca), (.int (Int32.ofNat o)), (.int (Int32.ofNat n)), .null] below meth c s₁ [] 0 0 := Stand.of_body Bd
  have e0 : s₁.heap = h0 := by rw [← hh, Bd.state]; rfl
  have N0 := Fr.nil n0
  have pre0 : ∀ t, oS p e below s₁ (mkF m 0 #[vR xs, vR ca, vI (Int32.ofNat o), vI (Int32.ofNat n), .val .null, .unset] []) t → oS p e below s₁ (entryFrame m #[(.ref xs), (.ref ca), (.int (Int32.ofNat o)), (.int (Int32.ofNat n)), .null] 6) t := fun t k => castTop (ef_6 m xs ca (Int32.ofNat o) (Int32.ofNat n)) k
  obtain ⟨T1, X1, e1, st1⟩ := initO X0 hx hZ hown (ow hw 12 rfl) (ow hw 13 rfl) (ow hw 14 rfl) e0 (g := (mkF m 1 #[vR xs, vR ca, vI (Int32.ofNat o), vI (Int32.ofNat n), .val .null, .unset] [(.ref xs)])) rfl (by rw [hml]; rfl) rfl (oh hby D8 1 rfl) (by decide) (W := 0) (by show 2 * 0 + _ ≤ _; exact Nat.le_of_eq rfl) (by decide)
  obtain ⟨T2, X2, e2, st2⟩ := getS2 X1 hx hZ hown (host := "") (Or.inl (ow hw 37 rfl)) Via.refl e1 (q0.ext q2.2) (g := (mkF m 27 #[vR xs, vR ca, vI (Int32.ofNat o), vI (Int32.ofNat n), .val .null, .unset] [])) rfl (oh hby D8 13 rfl)
  obtain ⟨_, _, ⟨T3, L3, k3, n3⟩, -, X3, ⟨Lc3, hQ3, l3, y3, z3⟩, st3⟩ := Jvm.LawKit.callS X2 hx (y := y_6) hown (mvT hZ (ow hw 44 rfl)) (mvT hZ (ow hw 45 rfl)) (mvT hZ (ow hw 46 rfl)) (mvT hZ (ow hw 47 rfl)) (by decide) (backOf (W := 0) (rm_cmp3l l Z a0 hw [] ca kc cs dv o n ds h0 n0 Z0 q4 hN hcap hon hds hdc hlat) hZ (ow hw 47 rfl) (ow hw 46 rfl) (by decide) (by decide)) (g := (mkF m 36 #[vR xs, vR ca, vI (Int32.ofNat o), vI (Int32.ofNat n), .val .null, .unset] [(.int (Int32.ofNat n)), (.int (Int32.ofNat o)), (.ref ca)])) rfl (by rw [hml]; rfl) (argsL := [(.ref ca), (.int (Int32.ofNat o)), (.int (Int32.ofNat n))]) (rest := []) (lenOf pd_4 rfl) rfl (by show 2 * 0 + _ ≤ _; exact Nat.le_of_eq rfl) (oh hby D8 18 rfl) (fun _ _ => ⟨rfl, e2, (by decide : 0 + 1 ≤ _), (by decide : 0 + 44 ≤ _)⟩)
  dsimp only [Pt.U, Pt.locs, Pt.cells, Pt.slots] at X3 l3 y3 z3 st3 hQ3
  subst l3 y3 z3
  obtain ⟨tt_3, kt_3, rfl, Nq3, K3, f3_0, f3_1⟩ := hQ3
  have N3 := Fr.app N0 Nq3
  obtain ⟨_, _, ⟨T4, L4, k4, n4⟩, -, X4, ⟨Lc4, hQ4, l4, y4, z4⟩, st4⟩ := Jvm.LawKit.callS X3 hx (y := y_7) hown (mvT hZ (ow hw 51 rfl)) (mvT hZ (ow hw 52 rfl)) (mvT hZ (ow hw 46 rfl)) (mvT hZ (ow hw 53 rfl)) (by decide) (backOf (W := 1) (rm_codL0 l Z a0 hw [] tt_3 n kt_3 (own_bs ds) T3.heap n0 (Nat.le_trans Z0 K3.1) f3_1) hZ (ow hw 53 rfl) (ow hw 46 rfl) (by decide) (by decide)) (g := (mkF m 45 #[vR xs, vR ca, vI (Int32.ofNat o), vI (Int32.ofNat n), .val .null, vR tt_3] [(.int (Int32.ofNat n)), (.ref tt_3), (.ref xs)])) rfl (by rw [hml]; rfl) (argsL := [(.ref tt_3), (.int (Int32.ofNat n))]) (rest := [(.ref xs)]) (lenOf pd_6 rfl) rfl (by show 2 * 0 + _ ≤ _; exact Nat.le_of_eq rfl) (oh hby D8 23 rfl) (fun _ _ => ⟨rfl, rfl, (by decide : 1 + 0 ≤ _), (by decide : 44 + 0 ≤ _)⟩)
  dsimp only [Pt.U, Pt.locs, Pt.cells, Pt.slots] at X4 l4 y4 z4 st4 hQ4
  subst l4 y4 z4
  obtain ⟨rfl, Nq4, e4⟩ := hQ4
  have N4 := Fr.app N3 Nq4
  have c5 := (q13.keep K3 nin0)
  have c6 := (q11.keep K3)
  obtain ⟨T7, h7, X7, e7, W7, st7⟩ := putFN X4 hx hZ hown (ow hw 22 rfl) Via.refl e4 c5 c6 (Or.inr ⟨(ow hw 18 rfl), rfl, hnm⟩) (ow hw 3 rfl) (ty := .byte) (v' := (.int 0)) (by decide) rfl rfl (g := (mkF m 48 #[vR xs, vR ca, vI (Int32.ofNat o), vI (Int32.ofNat n), .val .null, vR tt_3] [(.int 0), (.ref xs)])) rfl rfl (oh hby D8 24 rfl)
  have N7 := Fr.snoc X7 N4 q14
  have F7 : fC Z h7 xs (.int 0) := c5.same W7
  have c8 := ((q12.keep K3 nin0).other W7 (Or.inr (slot_ne (Or.inr (ow hw 17 rfl)) (Or.inr (ow hw 18 rfl)) (by decide) (t := (.array .byte)) (t' := .byte) (by decide) (by decide))))
  have c9 := (c6.wr W7)
  obtain ⟨T10, h10, X10, e10, W10, st10⟩ := putF X7 hx hZ hown (host := "") (Or.inl (ow hw 21 rfl)) Via.refl e7 c8 c9 (Or.inr ⟨(ow hw 17 rfl), rfl, hnm⟩) (ow hw 3 rfl) (ty := (.array .byte)) (by decide) rfl rfl (g := (mkF m 54 #[vR xs, vR ca, vI (Int32.ofNat o), vI (Int32.ofNat n), .val .null, vR tt_3] [(.ref tt_3), (.ref xs)])) rfl rfl (oh hby D8 27 rfl)
  have N10 := Fr.snoc X10 N7 q14
  have F10 : fV Z h10 xs (.ref tt_3) := c8.same W10
  have ne11 : xs ≠ tt_3 := Nat.ne_of_lt (Nat.lt_of_lt_of_le q13.lt f3_0)
  have c12 := ((f3_1.other W7 (Ne.symm ne11)).other W10 (Ne.symm ne11))
  have c13 := (F7.other W10 (Or.inr (slot_ne (Or.inr (ow hw 18 rfl)) (Or.inr (ow hw 17 rfl)) (by decide) (t := .byte) (t' := (.array .byte)) (by decide) (by decide))))
  obtain ⟨fs, hr, hrun, hended, hW, hsame⟩ := X10.leave (v := none) (fun _ => rfl)
  refine ⟨_, _, pre0 _ ?_, hrun, hended, _, _, rfl, ?_, ⟨_, rfl⟩, hW, hsame.mono (by decide) (by decide)⟩
  · refine XS.aloadN X0.here hx rfl (oh hby D8 0 rfl) rfl rfl ?_
    refine st1 _ ?_
    show oS p e below T1 (mkF m 4 #[vR xs, vR ca, vI (Int32.ofNat o), vI (Int32.ofNat n), .val .null, .unset] []) _
    refine XS.iloadN X1.here hx rfl (oh hby D8 2 rfl) rfl ?_
    refine XS.ifYes X1.here hx rfl (pc0 := 5) (pc' := 27) rfl (oh hby D8 3 rfl) rfl ((if0 _ _).trans (feq ((fun q => absurd (own_oinj (i := n) (n := 0) (by omega) (by omega) q) (by omega)) : ¬ ((Int32.ofNat n) = (0 : Int32)))).2) (by decide) (by decide) ?_
    refine st2 _ ?_
    show oS p e below T2 (mkF m 30 #[vR xs, vR ca, vI (Int32.ofNat o), vI (Int32.ofNat n), .val .null, .unset] [(.int G)]) _
    refine XS.ifNo X2.here hx rfl (oh hby D8 14 rfl) rfl ((if0 _ _).trans (feq (hCS : ¬ (G = (0 : Int32)))).1) ?_
    refine XS.aloadN X2.here hx rfl (oh hby D8 15 rfl) rfl rfl ?_
    refine XS.iloadN X2.here hx rfl (oh hby D8 16 rfl) rfl ?_
    refine XS.iloadN X2.here hx rfl (oh hby D8 17 rfl) rfl ?_
    refine st3 _ ?_
    show oS p e below T3 (mkF m 39 #[vR xs, vR ca, vI (Int32.ofNat o), vI (Int32.ofNat n), .val .null, .unset] [(.ref tt_3)]) _
    refine XS.astore X3.here hx rfl (oh hby D8 19 rfl) rfl rfl (l' := #[vR xs, vR ca, vI (Int32.ofNat o), vI (Int32.ofNat n), .val .null, vR tt_3]) rfl ?_
    refine XS.aloadN X3.here hx rfl (oh hby D8 20 rfl) rfl rfl ?_
    refine XS.aload X3.here hx rfl (oh hby D8 21 rfl) rfl rfl ?_
    refine XS.iloadN X3.here hx rfl (oh hby D8 22 rfl) rfl ?_
    refine st4 _ ?_
    show oS p e below T4 (mkF m 48 #[vR xs, vR ca, vI (Int32.ofNat o), vI (Int32.ofNat n), .val .null, vR tt_3] [(.int 0), (.ref xs)]) _
    refine st7 _ ?_
    show oS p e below T7 (mkF m 51 #[vR xs, vR ca, vI (Int32.ofNat o), vI (Int32.ofNat n), .val .null, vR tt_3] []) _
    refine XS.aloadN X7.here hx rfl (oh hby D8 25 rfl) rfl rfl ?_
    refine XS.aload X7.here hx rfl (oh hby D8 26 rfl) rfl rfl ?_
    refine st10 _ ?_
    show oS p e below T10 (mkF m 57 #[vR xs, vR ca, vI (Int32.ofNat o), vI (Int32.ofNat n), .val .null, vR tt_3] []) _
    exact X10.returnOut hx Bd.returns (oh hby D8 28 rfl) hr
  · show Q_new4l Z xs ca kc cs dv o n ds G h0 n0 _ T10.heap _
    rw [e10]
    exact ⟨tt_3, kt_3, rfl, N10, ((((Keep.refl h0 ([xs] : List Addr)).trans K3 all0).wr W7 (Or.inl (by simp))).wr W10 (Or.inl (by simp))), F10, c13, (Nat.le_trans (Nat.le_refl _) f3_0), c12⟩
def Q_newE4 (Z : State) (xs : Addr) (ca : Addr) (h0 : Heap) (n0 : Nat) (v : Option Value) (h : Heap) (L : List Loc) : Prop := ∃ (tt : Addr) (kt : ClassId), (v = none) ∧ (Fr n0 L) ∧ (Keep h0 h ([xs] : List Addr)) ∧ (fV Z h xs (.ref tt)) ∧ (fC Z h xs (.int 0)) ∧ (Arv Z h tt kt .byte (0 : Int32) [] (.int 0))
set_option maxRecDepth 65536 in
set_option maxHeartbeats 40000000 in
theorem rm_newE4 (l : Launch) (Z : State) (a0 : Array Value) (hw : HW Z a0) (ws : List Jvm.Cond) (xs : Addr) (ca : Addr) (h0 : Heap) (n0 : Nat) (Z0 : n0 ≤ h0.size) (q0 : eS Z h0 xs) (q1 : fV Z h0 xs .null) (q2 : fC Z h0 xs (.int 0)) (q3 : n0 ≤ xs) :
    MetFree l y_8 (head1 (Jvm.Cond.code y_8 jdk_42_method_149_code 6 none :: ws) (rmk 1 4 8 12)) (fun a₁ U₁ => a₁ = #[(.ref xs), (.ref ca), (.int 0), (.int 0), .null] ∧ Z.Warmed39 U₁.vm ∧ U₁.heap = h0 ∧ CHv Z oEL U₁.vm h0) (fun _ _ _ _ _ => True) (fun _ U₁ o₁ U₂ => ∃ v₁ L₁, o₁ = .returned v₁ ∧ Q_newE4 Z xs ca h0 n0 v₁ U₂.heap L₁ ∧ CHr Z oEL U₁.vm U₁.heap U₂.vm U₂.heap ∧ ReturnedEndW U₁ o₁ U₂ L₁ (rmk 1 4 8 12).cells (rmk 1 4 8 12).slots) := by
  refine MetFree.of_bodySF (plainFor_of_name pn_1) hisR ?_
  intro p e s m args below meth c s₁ Bd hml0 hP hK
  obtain ⟨rfl, hZ, hh, CH0⟩ := hP
  have hx := Bd.exec
  have hby := Bd.bytes
  have hml : c.maxLocals = 6 := hml0
  have hown : s.vm.findClass "java/lang/String" = some m.cls := findClass_of_methodNamed Bd.named
  have hnm := (name_of_methodNamed Bd.named Bd.method).1
  have X0 : Stand p l e (rmk 1 4 8 12) (s.setVm s.vm) m #[(.ref xs), (.ref ca), (.int 0), (.int 0), .null] below meth c s₁ [] 0 0 := Stand.of_body Bd
  have e0 : s₁.heap = h0 := by rw [← hh, Bd.state]; rfl
  have N0 := Fr.nil n0
  have hZ0 : Z.Warmed39 (s.setVm s.vm).vm := hZ
  have hown0 : (s.setVm s.vm).vm.findClass "java/lang/String" = some m.cls := hown
  have hS0 : s.Since s.vm h0.size := (State.WarmedH.refl s).since _
  have hk0 : h0.size ≤ h0.size := Nat.le_refl _
  have CR0 : CHr Z oEL s.vm h0 s.vm h0 := CHr.refl CH0
  have pre0 : ∀ t, oS p e below s₁ (mkF m 0 #[vR xs, vR ca, vI 0, vI 0, .val .null, .unset] []) t → oS p e below s₁ (entryFrame m #[(.ref xs), (.ref ca), (.int 0), (.int 0), .null] 6) t := fun t k => castTop (ef_6 m xs ca (0 : Int32) (0 : Int32)) k
  obtain ⟨T1, X1, e1, st1⟩ := initO X0 hx hZ0 hown0 (ow hw 12 rfl) (ow hw 13 rfl) (ow hw 14 rfl) e0 (g := (mkF m 1 #[vR xs, vR ca, vI 0, vI 0, .val .null, .unset] [(.ref xs)])) rfl (by rw [hml]; rfl) rfl (oh hby D8 1 rfl) (by decide) (W := 0) (by show 2 * 0 + _ ≤ _; exact Nat.le_of_eq rfl) (by decide)
  obtain ⟨b2, T2, h2, kk2, bb2, kb2, X2, e2, E2, hS2, hk2, hZ2, hown2, fE2, fC2, fV2, fA2, la2, lb2, ch2, li2, sx2, st2⟩ := ldcCH X1 hx hZ0 hown0 (ow hw 15 rfl) (own_hw_str hw) e1 hS0 hk0 (own_EW hw) (by decide) CR0.1 (vs := []) (z := (0 : Int32)) ⟨by decide, rfl⟩ (by decide) rfl (g := (mkF m 9 #[vR xs, vR ca, vI 0, vI 0, .val .null, .unset] [(.ref xs)])) rfl (oh hby D8 5 rfl) (n := 0) (by decide) (by decide) (by decide) (by decide)
  have CR3 : CHr Z oEL s.vm h0 T2.vm h2 := CR0.trans ch2
  obtain ⟨T4, X4, e4, st4⟩ := getF X2 hx hZ2 hown2 (host := "") (Or.inl (ow hw 21 rfl)) Via.refl e2 fV2 (g := (mkF m 11 #[vR xs, vR ca, vI 0, vI 0, .val .null, .unset] [(.ref b2), (.ref xs)])) rfl rfl (oh hby D8 6 rfl)
  have c5 := (q1.ext E2)
  have c6 := (q0.ext E2)
  have sf8 : Safe Z oEL T2.vm h2 xs := own_safe_null (EL := oEL) hZ2.alike c6 c5
  obtain ⟨T7, h7, X7, e7, W7, st7⟩ := putF X4 hx hZ2 hown2 (host := "") (Or.inl (ow hw 21 rfl)) Via.refl e4 c5 c6 (Or.inr ⟨(ow hw 17 rfl), rfl, hnm⟩) (ow hw 3 rfl) (ty := (.array .byte)) (by decide) rfl rfl (g := (mkF m 14 #[vR xs, vR ca, vI 0, vI 0, .val .null, .unset] [(.ref bb2), (.ref xs)])) rfl rfl (oh hby D8 7 rfl)
  have N7 := Fr.snoc X7 N0 q3
  have CR9 : CHr Z oEL s.vm h0 T2.vm h7 := CR3.trans (CHr.wr W7 sf8 CR3.1)
  have sf10 : Safe Z oEL T2.vm h7 xs := Safe.wr W7 sf8 CR3.1 sf8
  have F7 : fV Z h7 xs (.ref bb2) := c5.same W7
  obtain ⟨b11, T11, h11, kk11, bb11, kb11, X11, e11, E11, hS11, hk11, hZ11, hown11, fE11, fC11, fV11, fA11, la11, lb11, ch11, li11, sx11, st11⟩ := ldcCH X7 hx hZ2 hown2 (ow hw 15 rfl) (own_hw_str hw) e7 hS2 (Nat.le_trans hk2 (Keep.of_wr W7).1) (own_EW hw) (by decide) CR9.1 (vs := []) (z := (0 : Int32)) ⟨by decide, rfl⟩ (by decide) rfl (g := (mkF m 18 #[vR xs, vR ca, vI 0, vI 0, .val .null, .unset] [(.ref xs)])) rfl (oh hby D8 9 rfl) (n := 0) (by decide) (by decide) (by decide) (by decide)
  have CR12 : CHr Z oEL s.vm h0 T11.vm h11 := CR9.trans ch11
  have sf13 : Safe Z oEL T11.vm h11 xs := ch11.safe (Nat.lt_of_lt_of_le c6.lt (Keep.of_wr W7).1) sf10
  obtain ⟨T14, X14, e14, st14⟩ := getF X11 hx hZ11 hown11 (host := "") (Or.inl (ow hw 22 rfl)) Via.refl e11 fC11 (g := (mkF m 20 #[vR xs, vR ca, vI 0, vI 0, .val .null, .unset] [(.ref b11), (.ref xs)])) rfl rfl (oh hby D8 10 rfl)
  have c15 := (((q2.ext E2).other W7 (Or.inr (slot_ne (Or.inr (ow hw 18 rfl)) (Or.inr (ow hw 17 rfl)) (by decide) (t := .byte) (t' := (.array .byte)) (by decide) (by decide)))).ext E11)
  have c16 := ((c6.wr W7).ext E11)
  obtain ⟨T17, h17, X17, e17, W17, st17⟩ := putFN X14 hx hZ11 hown11 (ow hw 22 rfl) Via.refl e14 c15 c16 (Or.inr ⟨(ow hw 18 rfl), rfl, hnm⟩) (ow hw 3 rfl) (ty := .byte) (v' := (.int 0)) (by decide) rfl rfl (g := (mkF m 23 #[vR xs, vR ca, vI 0, vI 0, .val .null, .unset] [(.int 0), (.ref xs)])) rfl rfl (oh hby D8 11 rfl)
  have N17 := Fr.snoc X17 N7 q3
  have CR18 : CHr Z oEL s.vm h0 T11.vm h17 := CR12.trans (CHr.wr W17 sf13 CR12.1)
  have sf19 : Safe Z oEL T11.vm h17 xs := Safe.wr W17 sf13 CR12.1 sf13
  have F17 : fC Z h17 xs (.int 0) := c15.same W17
  have c20 := ((F7.ext E11).other W17 (Or.inr (slot_ne (Or.inr (ow hw 17 rfl)) (Or.inr (ow hw 18 rfl)) (by decide) (t := (.array .byte)) (t' := .byte) (by decide) (by decide))))
  have ne21 : xs ≠ bb2 := Exa.neArv c6 fA2 (ow hw 3 rfl)
  have c22 := (((fA2.other W7 (Ne.symm ne21)).ext E11).other W17 (Ne.symm ne21))
  obtain ⟨fs, hr, hrun, hended, hEnd⟩ := X17.leaveW hS11 (by rw [e17]; exact (Nat.le_trans hk11 (Keep.of_wr W17).1)) (v := none) (fun _ => rfl)
  refine ⟨_, _, pre0 _ ?_, hrun, hended, _, _, rfl, ?_, (by rw [hh]; show CHr Z oEL s.vm h0 T17.vm T17.heap; rw [e17]; exact CR18.trans (CHv.at X17 hZ11 (own_EW hw) CR18.1)), hEnd.1, hEnd.2.1, hEnd.2.2.1, hEnd.2.2.2.mono (by decide) (by decide)⟩
  · refine XS.aloadN X0.here hx rfl (oh hby D8 0 rfl) rfl rfl ?_
    refine st1 _ ?_
    show oS p e below T1 (mkF m 4 #[vR xs, vR ca, vI 0, vI 0, .val .null, .unset] []) _
    refine XS.iloadN X1.here hx rfl (oh hby D8 2 rfl) rfl ?_
    refine XS.ifNo X1.here hx rfl (oh hby D8 3 rfl) rfl ((if0 _ _).trans (teq ((by decide) : (0 : Int32) = (0 : Int32))).2) ?_
    refine XS.aloadN X1.here hx rfl (oh hby D8 4 rfl) rfl rfl ?_
    refine st2 _ ?_
    show oS p e below T2 (mkF m 11 #[vR xs, vR ca, vI 0, vI 0, .val .null, .unset] [(.ref b2), (.ref xs)]) _
    refine st4 _ ?_
    show oS p e below T4 (mkF m 14 #[vR xs, vR ca, vI 0, vI 0, .val .null, .unset] [(.ref bb2), (.ref xs)]) _
    refine st7 _ ?_
    show oS p e below T7 (mkF m 17 #[vR xs, vR ca, vI 0, vI 0, .val .null, .unset] []) _
    refine XS.aloadN X7.here hx rfl (oh hby D8 8 rfl) rfl rfl ?_
    refine st11 _ ?_
    show oS p e below T11 (mkF m 20 #[vR xs, vR ca, vI 0, vI 0, .val .null, .unset] [(.ref b11), (.ref xs)]) _
    refine st14 _ ?_
    show oS p e below T14 (mkF m 23 #[vR xs, vR ca, vI 0, vI 0, .val .null, .unset] [(.int 0), (.ref xs)]) _
    refine st17 _ ?_
    show oS p e below T17 (mkF m 26 #[vR xs, vR ca, vI 0, vI 0, .val .null, .unset] []) _
    exact X17.returnOut hx Bd.returns (oh hby D8 12 rfl) hr
  · show Q_newE4 Z xs ca h0 n0 _ T17.heap _
    rw [e17]
    exact ⟨bb2, kb2, rfl, N17, (((((Keep.refl h0 ([xs] : List Addr)).ext E2).wr W7 (Or.inl (by simp))).ext E11).wr W17 (Or.inl (by simp))), c20, F17, c22⟩
def Q_newE1 (Z : State) (xs : Addr) (ca : Addr) (kc : ClassId) (h0 : Heap) (n0 : Nat) (v : Option Value) (h : Heap) (L : List Loc) : Prop := ∃ (tt : Addr) (kt : ClassId), (v = none) ∧ (Fr n0 L) ∧ (Keep h0 h ([xs] : List Addr)) ∧ (fV Z h xs (.ref tt)) ∧ (fC Z h xs (.int 0)) ∧ (Arv Z h tt kt .byte (0 : Int32) [] (.int 0))
set_option maxRecDepth 65536 in
set_option maxHeartbeats 40000000 in
theorem rm_newE1 (l : Launch) (Z : State) (a0 : Array Value) (hw : HW Z a0) (ws : List Jvm.Cond) (xs : Addr) (ca : Addr) (kc : ClassId) (h0 : Heap) (n0 : Nat) (Z0 : n0 ≤ h0.size) (q0 : eS Z h0 xs) (q1 : fV Z h0 xs .null) (q2 : fC Z h0 xs (.int 0)) (q3 : n0 ≤ xs) (q4 : Arv Z h0 ca kc .char (0 : Int32) [] (.int 0)) :
    MetFree l y_9 (head1 (Jvm.Cond.code y_9 jdk_42_method_3_code 2 none :: ws) (rmk 2 4 8 29)) (fun a₁ U₁ => a₁ = #[(.ref xs), (.ref ca)] ∧ Z.Warmed39 U₁.vm ∧ U₁.heap = h0 ∧ CHv Z oEL U₁.vm h0) (fun _ _ _ _ _ => True) (fun _ U₁ o₁ U₂ => ∃ v₁ L₁, o₁ = .returned v₁ ∧ Q_newE1 Z xs ca kc h0 n0 v₁ U₂.heap L₁ ∧ CHr Z oEL U₁.vm U₁.heap U₂.vm U₂.heap ∧ ReturnedEndW U₁ o₁ U₂ L₁ (rmk 2 4 8 29).cells (rmk 2 4 8 29).slots) := by
  refine MetFree.of_bodySF (plainFor_of_name pn_1) hisR ?_
  intro p e s m args below meth c s₁ Bd hml0 hP hK
  obtain ⟨rfl, hZ, hh, CH0⟩ := hP
  have hx := Bd.exec
  have hby := Bd.bytes
  have hml : c.maxLocals = 2 := hml0
  have hown : s.vm.findClass "java/lang/String" = some m.cls := findClass_of_methodNamed Bd.named
  have hnm := (name_of_methodNamed Bd.named Bd.method).1
  have X0 : Stand p l e (rmk 2 4 8 29) (s.setVm s.vm) m #[(.ref xs), (.ref ca)] below meth c s₁ [] 0 0 := Stand.of_body Bd
  have e0 : s₁.heap = h0 := by rw [← hh, Bd.state]; rfl
  have N0 := Fr.nil n0
  have hZ0 : Z.Warmed39 (s.setVm s.vm).vm := hZ
  have hown0 : (s.setVm s.vm).vm.findClass "java/lang/String" = some m.cls := hown
  have hS0 : s.Since s.vm h0.size := (State.WarmedH.refl s).since _
  have hk0 : h0.size ≤ h0.size := Nat.le_refl _
  have CR0 : CHr Z oEL s.vm h0 s.vm h0 := CHr.refl CH0
  have pre0 : ∀ t, oS p e below s₁ (mkF m 0 #[vR xs, vR ca] []) t → oS p e below s₁ (entryFrame m #[(.ref xs), (.ref ca)] 2) t := fun t k => castTop (ef_7 m xs ca) k
  obtain ⟨cl1, Ar1, -, S1, M1, -, -⟩ := id q4
  obtain ⟨_, _, ⟨T2, L2, k2, n2⟩, -, X2', hS2', hz2', ⟨Lc2, hQ2, l2, y2, z2, ch2⟩, st2⟩ := X0.specialBackS hx (y := y_8) rfl hown0 (mvT hZ0 (ow hw 8 rfl)) (mvT hZ0 (ow hw 9 rfl)) (mvT hZ0 (ow hw 11 rfl)) (by decide) (backOfSH (W := 0) (rm_newE4 l Z a0 hw [] xs ca h0 n0 Z0 q0 q1 q2 q3) hZ0 (ow hw 11 rfl) (ow hw 4 rfl) (by decide) (by decide) (own_EW hw) CR0.1) (g := (mkF m 6 #[vR xs, vR ca] [.null, (.int 0), (.int 0), (.ref ca), (.ref xs)])) rfl (by rw [hml]; rfl) (Steps.refl _) (a := xs) (argsL := [(.ref ca), (.int 0), (.int 0), .null]) (rest := []) (lenOf pd_7 rfl) rfl (by show 2 * 0 + _ ≤ _; exact Nat.le_of_eq rfl) (oh hby D9 6 rfl) (fun _ _ => ⟨rfl, e0, (by decide : 0 + 4 ≤ _), (by decide : 0 + 8 ≤ _)⟩)
  dsimp only [Pt.U, Pt.locs, Pt.cells, Pt.slots] at X2' l2 y2 z2 st2 hQ2 hS2' hz2' ch2
  subst l2 y2 z2
  obtain ⟨tt_2, kt_2, rfl, Nq2, K2, f2_0, f2_1, f2_2⟩ := hQ2
  have N2 := Fr.app N0 Nq2
  obtain ⟨X2, hS2, hZ2, hown2⟩ := rebS hS0 (by rw [e0]; exact hk0) X2' hS2' hz2' hZ0 hown0
  have CR3 : CHr Z oEL s.vm h0 T2.vm T2.heap := CR0.trans ch2
  obtain ⟨fs, hr, hrun, hended, hEnd⟩ := X2.leaveW hS2 (Nat.le_refl _) (v := none) (fun _ => rfl)
  refine ⟨_, _, pre0 _ ?_, hrun, hended, _, _, rfl, ?_, (by rw [hh]; show CHr Z oEL s.vm h0 T2.vm T2.heap; exact CR3.trans (CHv.at X2 hZ2 (own_EW hw) CR3.1)), hEnd.1, hEnd.2.1, hEnd.2.2.1, hEnd.2.2.2.mono (by decide) (by decide)⟩
  · refine XS.aloadN X0.here hx rfl (oh hby D9 0 rfl) rfl rfl ?_
    refine XS.aloadN X0.here hx rfl (oh hby D9 1 rfl) rfl rfl ?_
    refine XS.iconst X0.here hx rfl (oh hby D9 2 rfl) ?_
    refine XS.aloadN X0.here hx rfl (oh hby D9 3 rfl) rfl rfl ?_
    show oS p e below s₁ (mkF m 4 #[vR xs, vR ca] [(.ref ca), (.int 0), (.ref ca), (.ref xs)]) _
    refine X0.arraylength hx (by rw [e0]; exact Ar1.1) (State.isArrayOf_alike hZ0.alike Ar1.2.1) (g := (mkF m 4 #[vR xs, vR ca] [(.ref ca), (.int 0), (.ref ca), (.ref xs)])) rfl rfl (oh hby D9 4 rfl) _ ?_
    rw [len_of S1 M1]
    show oS p e below s₁ (mkF m 5 #[vR xs, vR ca] [(.int 0), (.int 0), (.ref ca), (.ref xs)]) _
    refine XS.aconstNull X0.here hx rfl (oh hby D9 5 rfl) ?_
    refine st2.trans ?_
    show oS p e below T2 (mkF m 9 #[vR xs, vR ca] []) _
    exact X2.returnOut hx Bd.returns (oh hby D9 7 rfl) hr
  · show Q_newE1 Z xs ca kc h0 n0 _ T2.heap _
    exact ⟨tt_2, kt_2, rfl, N2, ((Keep.refl h0 ([xs] : List Addr)).trans K2 (allS (Or.inl (by simp)) all0)), f2_0, f2_1, f2_2⟩
def own_W (c : Int32) : Prop := ¬ c < 0 ∧ ¬ (65535 : Int32) < c
theorem own_codw {cs : List Int32} (h : ∃ c ∈ cs, (255 : Int32) < c) : StrChars.Road.CodA cs 1 (Int32.ofNat (2 * cs.length)) (StrChars.Road.wideBytes cs) := Or.inr ⟨rfl, rfl, rfl, h⟩
theorem own_Wn {c : Int32} (h : own_W c) : nar .char c = c := own_nc h.1 h.2
theorem own_modn (x : Int32) (d : Nat) (h0 : 0 < d) (hd : d < 2 ^ 31) : ∃ n : Nat, ((x &&& (2147483647 : Int32)) % (Int32.ofNat d)) = Int32.ofNat n ∧ n < d := by
  have h1 := c_and x 2147483647 (by decide)
  have e := own_toInt hd
  have h2 := (c_iremV (x &&& (2147483647 : Int32)) (Int32.ofNat d)).1 h1.1 (by omega)
  refine ⟨((x &&& (2147483647 : Int32)) % (Int32.ofNat d)).toInt.toNat, Int32.toInt_inj.mp ?_, by omega⟩
  rw [own_toInt (by omega)]
  omega
theorem own_m6 (x : Int32) : ((x &&& (2147483647 : Int32)) % (6 : Int32)) = (0 : Int32) ∨ ((x &&& (2147483647 : Int32)) % (6 : Int32)) = (1 : Int32) ∨ ((x &&& (2147483647 : Int32)) % (6 : Int32)) = (2 : Int32) ∨ ((x &&& (2147483647 : Int32)) % (6 : Int32)) = (3 : Int32) ∨ ((x &&& (2147483647 : Int32)) % (6 : Int32)) = (4 : Int32) ∨ ((x &&& (2147483647 : Int32)) % (6 : Int32)) = (5 : Int32) := by
  obtain ⟨n, e, h⟩ := own_modn x 6 (by omega) (by omega)
  have hn : n = 0 ∨ n = 1 ∨ n = 2 ∨ n = 3 ∨ n = 4 ∨ n = 5 := by omega
  have e' : ((x &&& (2147483647 : Int32)) % (6 : Int32)) = Int32.ofNat n := e
  rw [e']
  rcases hn with rfl | rfl | rfl | rfl | rfl | rfl
  · exact Or.inl rfl
  · exact Or.inr (Or.inl rfl)
  · exact Or.inr (Or.inr (Or.inl rfl))
  · exact Or.inr (Or.inr (Or.inr (Or.inl rfl)))
  · exact Or.inr (Or.inr (Or.inr (Or.inr (Or.inl rfl))))
  · exact Or.inr (Or.inr (Or.inr (Or.inr (Or.inr rfl))))
theorem own_shr1 {n : Nat} (h : 2 * n < 2 ^ 31) : Int32.ofNat (2 * n) >>> ((1 : Int32) &&& 31) = Int32.ofNat n := by
  apply Int32.toInt_inj.mp
  rw [c_ishr _ 1 1 rfl, own_toInt h, own_toInt (by omega)]
  show ((2 * n : Nat) : Int) / 2 = _
  omega
theorem own_or3 {a b c : Nat} (ha : a < 2 ^ 31) (hb : b < 2 ^ 31) (hc : c < 2 ^ 31) : ¬ ((Int32.ofNat a ||| Int32.ofNat b) ||| Int32.ofNat c) < (0 : Int32) := by
  have e1 := own_toInt ha
  have e2 := own_toInt hb
  have e3 := own_toInt hc
  have h1 := c_or0 (Int32.ofNat a) (Int32.ofNat b) (by omega) (by omega)
  have h2 := c_or0 (Int32.ofNat a ||| Int32.ofNat b) (Int32.ofNat c) (by omega) (by omega)
  have e0 : (0 : Int32).toInt = 0 := rfl
  rw [Int32.lt_iff_toInt_lt]
  omega
theorem own_subm {a b : Nat} (h : b ≤ a) (ha : a < 2 ^ 31) : Int32.ofNat a - Int32.ofNat b = Int32.ofNat (a - b) := by
  apply Int32.toInt_inj.mp
  have e1 := own_toInt (j := a) ha
  have e2 := own_toInt (j := b) (by omega)
  have e3 := own_toInt (j := a - b) (by omega)
  have e4 := c_isub (Int32.ofNat a) (Int32.ofNat b)
  have e6 := rng32 (Int32.ofNat a - Int32.ofNat b)
  omega
/-- the copy of the first m, into an array of m -/
theorem own_cutG {m : Nat} {vs : List Value} {z d : Value} (hm : m ≤ vs.length) (h31 : m < 2 ^ 31) : (List.replicate m z).take (0 : Int32).toNatClampNeg ++ ((List.range (Int32.ofNat m).toNatClampNeg).map fun i => vs.getD ((0 : Int32).toNatClampNeg + i) d) ++ (List.replicate m z).drop ((0 : Int32).toNatClampNeg + (Int32.ofNat m).toNatClampNeg) = vs.take m := by
  have z0 : (0 : Int32).toNatClampNeg = 0 := by decide
  rw [own_clamp h31, z0, Nat.zero_add, List.take_zero, List.nil_append, List.drop_of_length_le (by simp), List.append_nil]
  have e : ((List.range m).map fun i => vs.getD (0 + i) d) = (List.range m).map fun i => (vs.take m).getD i d := by
    apply List.map_congr_left
    intro i hi
    have hi' : i < m := List.mem_range.mp hi
    rw [Nat.zero_add, List.getD_eq_getElem?_getD, List.getD_eq_getElem?_getD, List.getElem?_take_of_lt hi']
  rw [e, own_range (vs.take m) _ (by rw [List.length_take]; omega)]
/-- the copy of L into a wider array -/
theorem own_grow {m L : Nat} {vs : List Value} {z d : Value} (hL : vs.length = L) (hm : L ≤ m) (h31 : m < 2 ^ 31) : (List.replicate m z).take (0 : Int32).toNatClampNeg ++ ((List.range (Int32.ofNat L).toNatClampNeg).map fun i => vs.getD ((0 : Int32).toNatClampNeg + i) d) ++ (List.replicate m z).drop ((0 : Int32).toNatClampNeg + (Int32.ofNat L).toNatClampNeg) = vs ++ List.replicate (m - L) z := by
  have z0 : (0 : Int32).toNatClampNeg = 0 := by decide
  rw [own_clamp (by omega), z0, Nat.zero_add, List.take_zero, List.nil_append, List.drop_replicate]
  have e : ((List.range L).map fun i => vs.getD (0 + i) d) = (List.range L).map fun i => vs.getD i d := by
    apply List.map_congr_left
    intro i hi
    rw [Nat.zero_add]
  rw [e, own_range vs _ hL]
/-- the copy of all of us over the places p .. -/
theorem own_over {p n : Nat} {vs us : List Value} {d : Value} {pI nI : Int32} (hp : pI.toNatClampNeg = p) (hn : nI.toNatClampNeg = n) (hu : us.length = n) : vs.take pI.toNatClampNeg ++ ((List.range nI.toNatClampNeg).map fun i => us.getD ((0 : Int32).toNatClampNeg + i) d) ++ vs.drop (pI.toNatClampNeg + nI.toNatClampNeg) = vs.take p ++ us ++ vs.drop (p + n) := by
  have z0 : (0 : Int32).toNatClampNeg = 0 := by decide
  rw [hp, hn, z0]
  have e : ((List.range n).map fun i => us.getD (0 + i) d) = (List.range n).map fun i => us.getD i d := by
    apply List.map_congr_left
    intro i hi
    rw [Nat.zero_add]
  rw [e, own_range us _ hu]
theorem own_bstake (cs : List Int32) (n : Nat) : (own_bs cs).take n = own_bs (cs.take n) := by rw [← List.map_take]
theorem own_widetake : ∀ (cs : List Int32) (n : Nat), (StrChars.Road.wideBytes cs).take (2 * n) = StrChars.Road.wideBytes (cs.take n)
  | [], n => by simp [StrChars.Road.wideBytes]
  | c :: cs, 0 => by simp [StrChars.Road.wideBytes]
  | c :: cs, n + 1 => by
    rw [show 2 * (n + 1) = 2 * n + 1 + 1 by omega]
    simp only [StrChars.Road.wideBytes, List.take_succ_cons]
    rw [own_widetake cs n]
theorem own_wideapp2 : ∀ (cs ds : List Int32), StrChars.Road.wideBytes (cs ++ ds) = StrChars.Road.wideBytes cs ++ StrChars.Road.wideBytes ds
  | [], ds => rfl
  | c :: cs, ds => by simp only [List.cons_append, StrChars.Road.wideBytes, own_wideapp2 cs ds]
abbrev own_dots : List Int32 := [46, 46, 46]
theorem own_d43 {ps : List Int32} (h : ps.length = 40) (z : Value) : ((own_bs ps ++ List.replicate 42 z).take 40 ++ own_bs own_dots ++ (own_bs ps ++ List.replicate 42 z).drop 43).take 43 = own_bs (ps ++ own_dots) := by
  have hl : (own_bs ps).length = 40 := by rw [own_bsl]; exact h
  have h1 : (own_bs ps ++ List.replicate 42 z).take 40 = own_bs ps := by rw [List.take_append_of_le_length (by omega), List.take_of_length_le (by omega)]
  have h2 : own_bs (ps ++ own_dots) = own_bs ps ++ own_bs own_dots := List.map_append ..
  have h3 : (own_bs ps ++ own_bs own_dots).length = 43 := by rw [List.length_append, hl]; rfl
  rw [h1, List.take_append_of_le_length (by omega), List.take_of_length_le (by omega), h2]
theorem own_l82 {ps : List Int32} (h : ps.length = 40) (z : Value) : ((own_bs ps ++ List.replicate 42 z).take 40 ++ own_bs own_dots ++ (own_bs ps ++ List.replicate 42 z).drop 43).length = 82 := by
  have hl : (own_bs ps).length = 40 := by rw [own_bsl]; exact h
  simp only [List.length_append, List.length_take, List.length_drop, List.length_replicate, hl]
  rfl
theorem own_set6 {α : Type} (A : List α) (x0 x1 x2 x3 x4 x5 a b : α) (B : List α) : ((((((A ++ x0 :: x1 :: x2 :: x3 :: x4 :: x5 :: B).set A.length a).set (A.length + 1) b).set (A.length + 2) a).set (A.length + 3) b).set (A.length + 4) a).set (A.length + 5) b = A ++ a :: b :: a :: b :: a :: b :: B := by
  induction A with
  | nil => rfl
  | cons z A ih => simpa using ih
theorem own_w164 {ps : List Int32} (h : ps.length = 40) (z : Value) : ((((((StrChars.Road.wideBytes ps ++ List.replicate 84 z).set (2 * 40) (.int (StrChars.lo8 46))).set (2 * 40 + 1) (.int (StrChars.hi8 46))).set (2 * 41) (.int (StrChars.lo8 46))).set (2 * 41 + 1) (.int (StrChars.hi8 46))).set (2 * 42) (.int (StrChars.lo8 46))).set (2 * 42 + 1) (.int (StrChars.hi8 46)) = StrChars.Road.wideBytes (ps ++ own_dots) ++ List.replicate 78 z := by
  have hl : (StrChars.Road.wideBytes ps).length = 80 := by rw [own_widelen, h]
  have q := own_set6 (StrChars.Road.wideBytes ps) z z z z z z (Value.int (StrChars.lo8 46)) (Value.int (StrChars.hi8 46)) (List.replicate 78 z)
  rw [hl] at q
  rw [own_wideapp2, List.append_assoc]
  exact q
theorem own_rs43 {ps : List Int32} (h : ps.length = 40) : (ps ++ own_dots).length = 43 := by rw [List.length_append, h]; rfl
theorem own_rsdot {ps : List Int32} (h : ps.length = 40) {k : Nat} (hk : 40 ≤ k) (h3 : k < 43) : (ps ++ own_dots).getD k 0 = (46 : Int32) := by
  rw [List.getD_eq_getElem?_getD, List.getElem?_append_right (by omega), h]
  have q : k - 40 = 0 ∨ k - 40 = 1 ∨ k - 40 = 2 := by omega
  rcases q with q | q | q <;> rw [q] <;> rfl
theorem own_rsget {cs : List Int32} {k : Nat} (hk : k < 40) (hl : 40 < cs.length) : (cs.take 40 ++ own_dots).getD k 0 = cs.getD k 0 := by
  rw [List.getD_eq_getElem?_getD, List.getD_eq_getElem?_getD, List.getElem?_append_left (by rw [List.length_take]; omega), List.getElem?_take_of_lt hk]
theorem own_take40 {cs : List Int32} (h : 40 < cs.length) : (cs.take 40).length = 40 := by rw [List.length_take]; omega
theorem own_dotsW : ∀ c ∈ own_dots, own_W c ∧ ¬ (255 : Int32) < c := by
  intro c hc
  simp only [own_dots, List.mem_cons, List.not_mem_nil, or_false, or_self] at hc
  subst hc
  exact ⟨⟨by decide, by decide⟩, by decide⟩
theorem own_set3W {N p : Nat} {a b c : Int32} (ha : own_W a) (hb : own_W b) (hc : own_W c) : ∀ d ∈ (((List.replicate N (0 : Int32)).set 0 a).set (N - 1) b).set p c, own_W d := by
  intro d hd
  rcases List.mem_or_eq_of_mem_set hd with hd | rfl
  · rcases List.mem_or_eq_of_mem_set hd with hd | rfl
    · rcases List.mem_or_eq_of_mem_set hd with hd | rfl
      · have e : d = 0 := List.eq_of_mem_replicate hd
        rw [e]; exact ⟨by decide, by decide⟩
      · exact ha
    · exact hb
  · exact hc
theorem own_set3l {N p : Nat} {a b c : Int32} : ((((List.replicate N (0 : Int32)).set 0 a).set (N - 1) b).set p c).length = N := by
  rw [List.length_set, List.length_set, List.length_set, List.length_replicate]

theorem ef_9 (m : MethodId) (x0 : Int32) (x1 : Int32) (x2 : Int32) (x3 : Value) (r3 : x3.isRef = true) : entryFrame m #[(.int x0), (.int x1), (.int x2), x3] 4 = mkF m 0 #[vI x0, vI x1, vI x2, .val x3] [] := by cases x3 <;> first | (simp [Value.isRef] at r3; done) | rfl | (simp [entryFrame, mkF, argsToLocals, Value.category]; done) | rfl
theorem pn_4 : plainName "jdk/internal/util/Preconditions" = true := by first | (simp [plainName, overriddenIn]; done) | decide +kernel
def Q_cfis (Z : State) (o : Nat) (n : Nat) (nl : Nat) (fm : Value) (h0 : Heap) (n0 : Nat) (v : Option Value) (h : Heap) (L : List Loc) : Prop := (v = some (.int (Int32.ofNat o))) ∧ (Fr n0 L) ∧ (h = h0)
set_option maxRecDepth 65536 in
set_option maxHeartbeats 40000000 in
theorem rm_cfis (l : Launch) (Z : State) (a0 : Array Value) (hw : HW Z a0) (ws : List Jvm.Cond) (o : Nat) (n : Nat) (nl : Nat) (fm : Value) (h0 : Heap) (n0 : Nat) (Z0 : n0 ≤ h0.size) (hFM : fm.isRef = true) (hon : o + n ≤ nl) (hN : nl < 2 ^ 31) :
    mF l y_16 jdk_41_method_13_code 4 (some .int) ws (rmk 0 0 0 0) #[(.int (Int32.ofNat o)), (.int (Int32.ofNat n)), (.int (Int32.ofNat nl)), fm] Z h0 (Q_cfis Z o n nl fm h0 n0) := by
  refine MetFree.of_bodySF (plainFor_of_name pn_4) hisR ?_
  intro p e s m args below meth c s₁ Bd hml0 hP hK
  obtain ⟨rfl, hZ, hh⟩ := hP
  have hx := Bd.exec
  have hby := Bd.bytes
  have hml : c.maxLocals = 4 := hml0
  have hown : s.vm.findClass "jdk/internal/util/Preconditions" = some m.cls := findClass_of_methodNamed Bd.named
  have hnm := (name_of_methodNamed Bd.named Bd.method).1
  have X0 : Stand p l e (rmk 0 0 0 0) s m #[(.int (Int32.ofNat o)), (.int (Int32.ofNat n)), (.int (Int32.ofNat nl)), fm] below meth c s₁ [] 0 0 := Stand.of_body Bd
  have e0 : s₁.heap = h0 := by rw [← hh, Bd.state]; rfl
  have N0 := Fr.nil n0
  have pre0 : ∀ t, oS p e below s₁ (mkF m 0 #[vI (Int32.ofNat o), vI (Int32.ofNat n), vI (Int32.ofNat nl), .val fm] []) t → oS p e below s₁ (entryFrame m #[(.int (Int32.ofNat o)), (.int (Int32.ofNat n)), (.int (Int32.ofNat nl)), fm] 4) t := fun t k => castTop (ef_9 m (Int32.ofNat o) (Int32.ofNat n) (Int32.ofNat nl) fm hFM) k
  obtain ⟨fs, hr, hrun, hended, hW, hsame⟩ := X0.leave (v := some (.int (Int32.ofNat o))) (fun h => by rw [Bd.returns] at h; cases h)
  refine ⟨_, _, pre0 _ ?_, hrun, hended, _, _, rfl, ?_, ⟨_, rfl⟩, hW, hsame.mono (by decide) (by decide)⟩
  · refine XS.iloadN X0.here hx rfl (oh hby D15 0 rfl) rfl ?_
    refine XS.iloadN X0.here hx rfl (oh hby D15 1 rfl) rfl ?_
    refine XS.ior X0.here hx rfl (oh hby D15 2 rfl) rfl ?_
    refine XS.iloadN X0.here hx rfl (oh hby D15 3 rfl) rfl ?_
    refine XS.ior X0.here hx rfl (oh hby D15 4 rfl) rfl ?_
    show oS p e below s₁ (mkF m 5 #[vI (Int32.ofNat o), vI (Int32.ofNat n), vI (Int32.ofNat nl), .val fm] [(.int (((Int32.ofNat nl) ||| (Int32.ofNat o)) ||| (Int32.ofNat n)))]) _
    refine XS.ifNo X0.here hx rfl (oh hby D15 5 rfl) rfl ((if0 _ _).trans (flt ((own_or3 (by omega) (by omega) (by omega)) : ¬ ((((Int32.ofNat nl) ||| (Int32.ofNat o)) ||| (Int32.ofNat n)) < (0 : Int32)))).1) ?_
    refine XS.iloadN X0.here hx rfl (oh hby D15 6 rfl) rfl ?_
    refine XS.iloadN X0.here hx rfl (oh hby D15 7 rfl) rfl ?_
    refine XS.iloadN X0.here hx rfl (oh hby D15 8 rfl) rfl ?_
    refine XS.isub X0.here hx rfl (oh hby D15 9 rfl) rfl ?_
    show oS p e below s₁ (mkF m 12 #[vI (Int32.ofNat o), vI (Int32.ofNat n), vI (Int32.ofNat nl), .val fm] [(.int ((Int32.ofNat nl) - (Int32.ofNat o))), (.int (Int32.ofNat n))]) _
    rw [own_subm (show o ≤ nl by omega) hN]
    show oS p e below s₁ (mkF m 12 #[vI (Int32.ofNat o), vI (Int32.ofNat n), vI (Int32.ofNat nl), .val fm] [(.int (Int32.ofNat (nl - o))), (.int (Int32.ofNat n))]) _
    refine XS.icmpYes X0.here hx rfl (pc0 := 12) (pc' := 23) rfl (oh hby D15 10 rfl) rfl (flt ((own_nlt (by omega) (by omega)) : ¬ ((Int32.ofNat (nl - o)) < (Int32.ofNat n)))).2.2.2 (by decide) (by decide) ?_
    refine XS.iloadN X0.here hx rfl (oh hby D15 11 rfl) rfl ?_
    show oS p e below s₁ (mkF m 24 #[vI (Int32.ofNat o), vI (Int32.ofNat n), vI (Int32.ofNat nl), .val fm] [(.int (Int32.ofNat o))]) _
    exact retI X0 hx Bd.returns (oh hby D15 12 rfl) hr
  · show Q_cfis Z o n nl fm h0 n0 _ s₁.heap _
    rw [e0]
    exact ⟨rfl, N0, rfl⟩
theorem pd_9 : parseMethodDescriptor "(IIILjava/util/function/BiFunction;)I" = some ⟨[.int, .int, .int, (.object "java/util/function/BiFunction")], some .int⟩ := by decide +kernel
theorem ef_10 (m : MethodId) (x0 : Int32) (x1 : Int32) (x2 : Int32) : entryFrame m #[(.int x0), (.int x1), (.int x2)] 3 = mkF m 0 #[vI x0, vI x1, vI x2] [] := by first | (simp [entryFrame, mkF, argsToLocals, Value.category]; done) | rfl
def Q_cboc (Z : State) (o : Nat) (n : Nat) (nl : Nat) (fm : Value) (h0 : Heap) (n0 : Nat) (v : Option Value) (h : Heap) (L : List Loc) : Prop := (v = some (.int (Int32.ofNat o))) ∧ (Fr n0 L) ∧ (h = h0)
set_option maxRecDepth 65536 in
set_option maxHeartbeats 40000000 in
theorem rm_cboc (l : Launch) (Z : State) (a0 : Array Value) (hw : HW Z a0) (ws : List Jvm.Cond) (o : Nat) (n : Nat) (nl : Nat) (fm : Value) (h0 : Heap) (n0 : Nat) (Z0 : n0 ≤ h0.size) (q0 : sF Z fm) (hFM : fm.isRef = true) (q2 : Old Z n0 h0) (hon : o + n ≤ nl) (hN : nl < 2 ^ 31) :
    mF l y_17 jdk_42_method_157_code 3 (some .int) ws (rmk 1 0 0 15) #[(.int (Int32.ofNat o)), (.int (Int32.ofNat n)), (.int (Int32.ofNat nl))] Z h0 (Q_cboc Z o n nl fm h0 n0) := by
  refine MetFree.of_bodySF (plainFor_of_name pn_1) hisR ?_
  intro p e s m args below meth c s₁ Bd hml0 hP hK
  obtain ⟨rfl, hZ, hh⟩ := hP
  have hx := Bd.exec
  have hby := Bd.bytes
  have hml : c.maxLocals = 3 := hml0
  have hown : s.vm.findClass "java/lang/String" = some m.cls := findClass_of_methodNamed Bd.named
  have hnm := (name_of_methodNamed Bd.named Bd.method).1
  have X0 : Stand p l e (rmk 1 0 0 15) s m #[(.int (Int32.ofNat o)), (.int (Int32.ofNat n)), (.int (Int32.ofNat nl))] below meth c s₁ [] 0 0 := Stand.of_body Bd
  have e0 : s₁.heap = h0 := by rw [← hh, Bd.state]; rfl
  have N0 := Fr.nil n0
  have pre0 : ∀ t, oS p e below s₁ (mkF m 0 #[vI (Int32.ofNat o), vI (Int32.ofNat n), vI (Int32.ofNat nl)] []) t → oS p e below s₁ (entryFrame m #[(.int (Int32.ofNat o)), (.int (Int32.ofNat n)), (.int (Int32.ofNat nl))] 3) t := fun t k => castTop (ef_10 m (Int32.ofNat o) (Int32.ofNat n) (Int32.ofNat nl)) k
  obtain ⟨T1, X1, e1, st1⟩ := getS2 X0 hx hZ hown (host := "") (Or.inl (ow hw 81 rfl)) Via.refl e0 (q0.ext q2.2) (g := (mkF m 3 #[vI (Int32.ofNat o), vI (Int32.ofNat n), vI (Int32.ofNat nl)] [(.int (Int32.ofNat nl)), (.int (Int32.ofNat n)), (.int (Int32.ofNat o))])) rfl (oh hby D16 3 rfl)
  obtain ⟨_, _, ⟨T2, L2, k2, n2⟩, -, X2, ⟨Lc2, hQ2, l2, y2, z2⟩, st2⟩ := Jvm.LawKit.callS X1 hx (y := y_16) hown (mvT hZ (ow hw 254 rfl)) (mvT hZ (ow hw 255 rfl)) (mvT hZ (ow hw 82 rfl)) (mvT hZ (ow hw 256 rfl)) (by decide) (backOf (W := 0) (rm_cfis l Z a0 hw [] o n nl fm h0 n0 Z0 hFM hon hN) hZ (ow hw 256 rfl) (ow hw 82 rfl) (by decide) (by decide)) (g := (mkF m 6 #[vI (Int32.ofNat o), vI (Int32.ofNat n), vI (Int32.ofNat nl)] [fm, (.int (Int32.ofNat nl)), (.int (Int32.ofNat n)), (.int (Int32.ofNat o))])) rfl (by rw [hml]; rfl) (argsL := [(.int (Int32.ofNat o)), (.int (Int32.ofNat n)), (.int (Int32.ofNat nl)), fm]) (rest := []) (lenOf pd_9 rfl) rfl (by show 2 * 0 + _ ≤ _; exact Nat.le_of_eq rfl) (oh hby D16 4 rfl) (fun _ _ => ⟨rfl, e1, (by decide : 0 + 0 ≤ _), (by decide : 0 + 0 ≤ _)⟩)
  dsimp only [Pt.U, Pt.locs, Pt.cells, Pt.slots] at X2 l2 y2 z2 st2 hQ2
  subst l2 y2 z2
  obtain ⟨rfl, Nq2, e2⟩ := hQ2
  have N2 := Fr.app N0 Nq2
  obtain ⟨fs, hr, hrun, hended, hW, hsame⟩ := X2.leave (v := some (.int (Int32.ofNat o))) (fun h => by rw [Bd.returns] at h; cases h)
  refine ⟨_, _, pre0 _ ?_, hrun, hended, _, _, rfl, ?_, ⟨_, rfl⟩, hW, hsame.mono (by decide) (by decide)⟩
  · refine XS.iloadN X0.here hx rfl (oh hby D16 0 rfl) rfl ?_
    refine XS.iloadN X0.here hx rfl (oh hby D16 1 rfl) rfl ?_
    refine XS.iloadN X0.here hx rfl (oh hby D16 2 rfl) rfl ?_
    refine st1 _ ?_
    show oS p e below T1 (mkF m 6 #[vI (Int32.ofNat o), vI (Int32.ofNat n), vI (Int32.ofNat nl)] [fm, (.int (Int32.ofNat nl)), (.int (Int32.ofNat n)), (.int (Int32.ofNat o))]) _
    refine st2 _ ?_
    show oS p e below T2 (mkF m 9 #[vI (Int32.ofNat o), vI (Int32.ofNat n), vI (Int32.ofNat nl)] [(.int (Int32.ofNat o))]) _
    exact retI X2 hx Bd.returns (oh hby D16 5 rfl) hr
  · show Q_cboc Z o n nl fm h0 n0 _ T2.heap _
    rw [e2]
    exact ⟨rfl, N2, rfl⟩
def Q_ulen (Z : State) (dd : Addr) (kd : ClassId) (n : Nat) (vs : List Value) (h0 : Heap) (n0 : Nat) (v : Option Value) (h : Heap) (L : List Loc) : Prop := (v = some (.int (Int32.ofNat n))) ∧ (Fr n0 L) ∧ (h = h0)
set_option maxRecDepth 65536 in
set_option maxHeartbeats 40000000 in
theorem rm_ulen (l : Launch) (Z : State) (a0 : Array Value) (hw : HW Z a0) (ws : List Jvm.Cond) (dd : Addr) (kd : ClassId) (n : Nat) (vs : List Value) (h0 : Heap) (n0 : Nat) (Z0 : n0 ≤ h0.size) (q0 : Arv Z h0 dd kd .byte (Int32.ofNat (2 * n)) vs (.int 0)) (hcap : n ≤ 4000) :
    mF l y_18 jdk_52_method_6_code 1 (some .int) ws (rmk 0 0 0 0) #[(.ref dd)] Z h0 (Q_ulen Z dd kd n vs h0 n0) := by
  refine MetFree.of_bodySF (plainFor_of_name pn_0) hisR ?_
  intro p e s m args below meth c s₁ Bd hml0 hP hK
  obtain ⟨rfl, hZ, hh⟩ := hP
  have hx := Bd.exec
  have hby := Bd.bytes
  have hml : c.maxLocals = 1 := hml0
  have hown : s.vm.findClass "java/lang/StringUTF16" = some m.cls := findClass_of_methodNamed Bd.named
  have hnm := (name_of_methodNamed Bd.named Bd.method).1
  have X0 : Stand p l e (rmk 0 0 0 0) s m #[(.ref dd)] below meth c s₁ [] 0 0 := Stand.of_body Bd
  have e0 : s₁.heap = h0 := by rw [← hh, Bd.state]; rfl
  have N0 := Fr.nil n0
  have pre0 : ∀ t, oS p e below s₁ (mkF m 0 #[vR dd] []) t → oS p e below s₁ (entryFrame m #[(.ref dd)] 1) t := fun t k => castTop (ef_8 m dd) k
  obtain ⟨cl1, Ar1, -, S1, M1, -, -⟩ := id q0
  obtain ⟨fs, hr, hrun, hended, hW, hsame⟩ := X0.leave (v := some (.int (Int32.ofNat n))) (fun h => by rw [Bd.returns] at h; cases h)
  refine ⟨_, _, pre0 _ ?_, hrun, hended, _, _, rfl, ?_, ⟨_, rfl⟩, hW, hsame.mono (by decide) (by decide)⟩
  · refine XS.aloadN X0.here hx rfl (oh hby D17 0 rfl) rfl rfl ?_
    show oS p e below s₁ (mkF m 1 #[vR dd] [(.ref dd)]) _
    refine X0.arraylength hx (by rw [e0]; exact Ar1.1) (State.isArrayOf_alike hZ.alike Ar1.2.1) (g := (mkF m 1 #[vR dd] [(.ref dd)])) rfl rfl (oh hby D17 1 rfl) _ ?_
    rw [len_of S1 M1]
    show oS p e below s₁ (mkF m 2 #[vR dd] [(.int (Int32.ofNat (2 * n)))]) _
    refine XS.iconst X0.here hx rfl (oh hby D17 2 rfl) ?_
    refine XS.ishr X0.here hx rfl (oh hby D17 3 rfl) rfl ?_
    show oS p e below s₁ (mkF m 4 #[vR dd] [(.int ((Int32.ofNat (2 * n)) >>> ((1 : Int32) &&& 31)))]) _
    rw [own_shr1 (n := n) (by omega)]
    show oS p e below s₁ (mkF m 4 #[vR dd] [(.int (Int32.ofNat n))]) _
    exact retI X0 hx Bd.returns (oh hby D17 4 rfl) hr
  · show Q_ulen Z dd kd n vs h0 n0 _ s₁.heap _
    rw [e0]
    exact ⟨rfl, N0, rfl⟩
theorem ef_11 (m : MethodId) (x0 : Int32) (x1 : Int32) (x2 : Value) (r2 : x2.isRef = true) : entryFrame m #[(.int x0), (.int x1), x2] 3 = mkF m 0 #[vI x0, vI x1, .val x2] [] := by cases x2 <;> first | (simp [Value.isRef] at r2; done) | rfl | (simp [entryFrame, mkF, argsToLocals, Value.category]; done) | rfl
def Q_pchk (Z : State) (ii : Nat) (n : Nat) (fm : Value) (h0 : Heap) (n0 : Nat) (v : Option Value) (h : Heap) (L : List Loc) : Prop := (v = some (.int (Int32.ofNat ii))) ∧ (Fr n0 L) ∧ (h = h0)
set_option maxRecDepth 65536 in
set_option maxHeartbeats 40000000 in
theorem rm_pchk (l : Launch) (Z : State) (a0 : Array Value) (hw : HW Z a0) (ws : List Jvm.Cond) (ii : Nat) (n : Nat) (fm : Value) (h0 : Heap) (n0 : Nat) (Z0 : n0 ≤ h0.size) (hFM : fm.isRef = true) (hii : ii < n) (hcap : n ≤ 4000) :
    mF l y_19 jdk_41_method_11_code 3 (some .int) ws (rmk 0 0 0 0) #[(.int (Int32.ofNat ii)), (.int (Int32.ofNat n)), fm] Z h0 (Q_pchk Z ii n fm h0 n0) := by
  refine MetFree.of_bodySF (plainFor_of_name pn_4) hisR ?_
  intro p e s m args below meth c s₁ Bd hml0 hP hK
  obtain ⟨rfl, hZ, hh⟩ := hP
  have hx := Bd.exec
  have hby := Bd.bytes
  have hml : c.maxLocals = 3 := hml0
  have hown : s.vm.findClass "jdk/internal/util/Preconditions" = some m.cls := findClass_of_methodNamed Bd.named
  have hnm := (name_of_methodNamed Bd.named Bd.method).1
  have X0 : Stand p l e (rmk 0 0 0 0) s m #[(.int (Int32.ofNat ii)), (.int (Int32.ofNat n)), fm] below meth c s₁ [] 0 0 := Stand.of_body Bd
  have e0 : s₁.heap = h0 := by rw [← hh, Bd.state]; rfl
  have N0 := Fr.nil n0
  have pre0 : ∀ t, oS p e below s₁ (mkF m 0 #[vI (Int32.ofNat ii), vI (Int32.ofNat n), .val fm] []) t → oS p e below s₁ (entryFrame m #[(.int (Int32.ofNat ii)), (.int (Int32.ofNat n)), fm] 3) t := fun t k => castTop (ef_11 m (Int32.ofNat ii) (Int32.ofNat n) fm hFM) k
  obtain ⟨fs, hr, hrun, hended, hW, hsame⟩ := X0.leave (v := some (.int (Int32.ofNat ii))) (fun h => by rw [Bd.returns] at h; cases h)
  refine ⟨_, _, pre0 _ ?_, hrun, hended, _, _, rfl, ?_, ⟨_, rfl⟩, hW, hsame.mono (by decide) (by decide)⟩
  · refine XS.iloadN X0.here hx rfl (oh hby D18 0 rfl) rfl ?_
    refine XS.ifNo X0.here hx rfl (oh hby D18 1 rfl) rfl ((if0 _ _).trans (flt ((own_inb hii (by omega)).1 : ¬ ((Int32.ofNat ii) < (0 : Int32)))).1) ?_
    refine XS.iloadN X0.here hx rfl (oh hby D18 2 rfl) rfl ?_
    refine XS.iloadN X0.here hx rfl (oh hby D18 3 rfl) rfl ?_
    refine XS.icmpYes X0.here hx rfl (pc0 := 6) (pc' := 16) rfl (oh hby D18 4 rfl) rfl (tlt ((own_inb hii (by omega)).2 : (Int32.ofNat ii) < (Int32.ofNat n))).1 (by decide) (by decide) ?_
    show oS p e below s₁ (mkF m 16 #[vI (Int32.ofNat ii), vI (Int32.ofNat n), .val fm] []) _
    refine XS.iloadN X0.here hx rfl (oh hby D18 5 rfl) rfl ?_
    show oS p e below s₁ (mkF m 17 #[vI (Int32.ofNat ii), vI (Int32.ofNat n), .val fm] [(.int (Int32.ofNat ii))]) _
    exact retI X0 hx Bd.returns (oh hby D18 6 rfl) hr
  · show Q_pchk Z ii n fm h0 n0 _ s₁.heap _
    rw [e0]
    exact ⟨rfl, N0, rfl⟩
theorem pd_10 : parseMethodDescriptor "(IILjava/util/function/BiFunction;)I" = some ⟨[.int, .int, (.object "java/util/function/BiFunction")], some .int⟩ := by decide +kernel
theorem ef_12 (m : MethodId) (x0 : Int32) (x1 : Int32) : entryFrame m #[(.int x0), (.int x1)] 2 = mkF m 0 #[vI x0, vI x1] [] := by first | (simp [entryFrame, mkF, argsToLocals, Value.category]; done) | rfl
def Q_schk (Z : State) (ii : Nat) (n : Nat) (fm : Value) (h0 : Heap) (n0 : Nat) (v : Option Value) (h : Heap) (L : List Loc) : Prop := (v = none) ∧ (Fr n0 L) ∧ (h = h0)
set_option maxRecDepth 65536 in
set_option maxHeartbeats 40000000 in
theorem rm_schk (l : Launch) (Z : State) (a0 : Array Value) (hw : HW Z a0) (ws : List Jvm.Cond) (ii : Nat) (n : Nat) (fm : Value) (h0 : Heap) (n0 : Nat) (Z0 : n0 ≤ h0.size) (q0 : sF Z fm) (hFM : fm.isRef = true) (q2 : Old Z n0 h0) (hii : ii < n) (hcap : n ≤ 4000) :
    mF l y_20 jdk_42_method_155_code 2 none ws (rmk 1 0 0 14) #[(.int (Int32.ofNat ii)), (.int (Int32.ofNat n))] Z h0 (Q_schk Z ii n fm h0 n0) := by
  refine MetFree.of_bodySF (plainFor_of_name pn_1) hisR ?_
  intro p e s m args below meth c s₁ Bd hml0 hP hK
  obtain ⟨rfl, hZ, hh⟩ := hP
  have hx := Bd.exec
  have hby := Bd.bytes
  have hml : c.maxLocals = 2 := hml0
  have hown : s.vm.findClass "java/lang/String" = some m.cls := findClass_of_methodNamed Bd.named
  have hnm := (name_of_methodNamed Bd.named Bd.method).1
  have X0 : Stand p l e (rmk 1 0 0 14) s m #[(.int (Int32.ofNat ii)), (.int (Int32.ofNat n))] below meth c s₁ [] 0 0 := Stand.of_body Bd
  have e0 : s₁.heap = h0 := by rw [← hh, Bd.state]; rfl
  have N0 := Fr.nil n0
  have pre0 : ∀ t, oS p e below s₁ (mkF m 0 #[vI (Int32.ofNat ii), vI (Int32.ofNat n)] []) t → oS p e below s₁ (entryFrame m #[(.int (Int32.ofNat ii)), (.int (Int32.ofNat n))] 2) t := fun t k => castTop (ef_12 m (Int32.ofNat ii) (Int32.ofNat n)) k
  obtain ⟨T1, X1, e1, st1⟩ := getS2 X0 hx hZ hown (host := "") (Or.inl (ow hw 81 rfl)) Via.refl e0 (q0.ext q2.2) (g := (mkF m 2 #[vI (Int32.ofNat ii), vI (Int32.ofNat n)] [(.int (Int32.ofNat n)), (.int (Int32.ofNat ii))])) rfl (oh hby D19 2 rfl)
  obtain ⟨_, _, ⟨T2, L2, k2, n2⟩, -, X2, ⟨Lc2, hQ2, l2, y2, z2⟩, st2⟩ := Jvm.LawKit.callS X1 hx (y := y_19) hown (mvT hZ (ow hw 213 rfl)) (mvT hZ (ow hw 214 rfl)) (mvT hZ (ow hw 82 rfl)) (mvT hZ (ow hw 215 rfl)) (by decide) (backOf (W := 0) (rm_pchk l Z a0 hw [] ii n fm h0 n0 Z0 hFM hii hcap) hZ (ow hw 215 rfl) (ow hw 82 rfl) (by decide) (by decide)) (g := (mkF m 5 #[vI (Int32.ofNat ii), vI (Int32.ofNat n)] [fm, (.int (Int32.ofNat n)), (.int (Int32.ofNat ii))])) rfl (by rw [hml]; rfl) (argsL := [(.int (Int32.ofNat ii)), (.int (Int32.ofNat n)), fm]) (rest := []) (lenOf pd_10 rfl) rfl (by show 2 * 0 + _ ≤ _; exact Nat.le_of_eq rfl) (oh hby D19 3 rfl) (fun _ _ => ⟨rfl, e1, (by decide : 0 + 0 ≤ _), (by decide : 0 + 0 ≤ _)⟩)
  dsimp only [Pt.U, Pt.locs, Pt.cells, Pt.slots] at X2 l2 y2 z2 st2 hQ2
  subst l2 y2 z2
  obtain ⟨rfl, Nq2, e2⟩ := hQ2
  have N2 := Fr.app N0 Nq2
  obtain ⟨fs, hr, hrun, hended, hW, hsame⟩ := X2.leave (v := none) (fun _ => rfl)
  refine ⟨_, _, pre0 _ ?_, hrun, hended, _, _, rfl, ?_, ⟨_, rfl⟩, hW, hsame.mono (by decide) (by decide)⟩
  · refine XS.iloadN X0.here hx rfl (oh hby D19 0 rfl) rfl ?_
    refine XS.iloadN X0.here hx rfl (oh hby D19 1 rfl) rfl ?_
    refine st1 _ ?_
    show oS p e below T1 (mkF m 5 #[vI (Int32.ofNat ii), vI (Int32.ofNat n)] [fm, (.int (Int32.ofNat n)), (.int (Int32.ofNat ii))]) _
    refine st2 _ ?_
    show oS p e below T2 (mkF m 8 #[vI (Int32.ofNat ii), vI (Int32.ofNat n)] [(.int (Int32.ofNat ii))]) _
    refine XS.pop X2.here hx rfl (oh hby D19 4 rfl) rfl rfl ?_
    show oS p e below T2 (mkF m 9 #[vI (Int32.ofNat ii), vI (Int32.ofNat n)] []) _
    exact X2.returnOut hx Bd.returns (oh hby D19 5 rfl) hr
  · show Q_schk Z ii n fm h0 n0 _ T2.heap _
    rw [e2]
    exact ⟨rfl, N2, rfl⟩
theorem pd_11 : parseMethodDescriptor "([B)I" = some ⟨[(.array .byte)], some .int⟩ := by decide +kernel
theorem pd_12 : parseMethodDescriptor "(II)V" = some ⟨[.int, .int], none⟩ := by decide +kernel
theorem ef_13 (m : MethodId) (x0 : Int32) (x1 : Addr) : entryFrame m #[(.int x0), (.ref x1)] 2 = mkF m 0 #[vI x0, vR x1] [] := by first | (simp [entryFrame, mkF, argsToLocals, Value.category]; done) | rfl
def Q_uchk (Z : State) (ii : Nat) (dd : Addr) (kd : ClassId) (n : Nat) (vs : List Value) (fm : Value) (h0 : Heap) (n0 : Nat) (v : Option Value) (h : Heap) (L : List Loc) : Prop := (v = none) ∧ (Fr n0 L) ∧ (h = h0)
set_option maxRecDepth 65536 in
set_option maxHeartbeats 40000000 in
theorem rm_uchk (l : Launch) (Z : State) (a0 : Array Value) (hw : HW Z a0) (ws : List Jvm.Cond) (ii : Nat) (dd : Addr) (kd : ClassId) (n : Nat) (vs : List Value) (fm : Value) (h0 : Heap) (n0 : Nat) (Z0 : n0 ≤ h0.size) (q0 : sF Z fm) (hFM : fm.isRef = true) (q2 : Old Z n0 h0) (q3 : Arv Z h0 dd kd .byte (Int32.ofNat (2 * n)) vs (.int 0)) (hii : ii < n) (hcap : n ≤ 4000) :
    mF l y_21 jdk_52_method_91_code 2 none ws (rmk 2 0 0 27) #[(.int (Int32.ofNat ii)), (.ref dd)] Z h0 (Q_uchk Z ii dd kd n vs fm h0 n0) := by
  refine MetFree.of_bodySF (plainFor_of_name pn_0) hisR ?_
  intro p e s m args below meth c s₁ Bd hml0 hP hK
  obtain ⟨rfl, hZ, hh⟩ := hP
  have hx := Bd.exec
  have hby := Bd.bytes
  have hml : c.maxLocals = 2 := hml0
  have hown : s.vm.findClass "java/lang/StringUTF16" = some m.cls := findClass_of_methodNamed Bd.named
  have hnm := (name_of_methodNamed Bd.named Bd.method).1
  have X0 : Stand p l e (rmk 2 0 0 27) s m #[(.int (Int32.ofNat ii)), (.ref dd)] below meth c s₁ [] 0 0 := Stand.of_body Bd
  have e0 : s₁.heap = h0 := by rw [← hh, Bd.state]; rfl
  have N0 := Fr.nil n0
  have pre0 : ∀ t, oS p e below s₁ (mkF m 0 #[vI (Int32.ofNat ii), vR dd] []) t → oS p e below s₁ (entryFrame m #[(.int (Int32.ofNat ii)), (.ref dd)] 2) t := fun t k => castTop (ef_13 m (Int32.ofNat ii) dd) k
  obtain ⟨_, _, ⟨T1, L1, k1, n1⟩, -, X1, ⟨Lc1, hQ1, l1, y1, z1⟩, st1⟩ := Jvm.LawKit.callS X0 hx (y := y_18) hown (mvT hZ (ow hw 248 rfl)) (mvT hZ (ow hw 249 rfl)) (mvT hZ (ow hw 46 rfl)) (mvT hZ (ow hw 250 rfl)) (by decide) (backOf (W := 1) (rm_ulen l Z a0 hw [] dd kd n vs h0 n0 Z0 q3 hcap) hZ (ow hw 250 rfl) (ow hw 46 rfl) (by decide) (by decide)) (g := (mkF m 2 #[vI (Int32.ofNat ii), vR dd] [(.ref dd), (.int (Int32.ofNat ii))])) rfl (by rw [hml]; rfl) (argsL := [(.ref dd)]) (rest := [(.int (Int32.ofNat ii))]) (lenOf pd_11 rfl) rfl (by show 2 * 0 + _ ≤ _; exact Nat.le_of_eq rfl) (oh hby D20 2 rfl) (fun _ _ => ⟨rfl, e0, (by decide : 0 + 0 ≤ _), (by decide : 0 + 0 ≤ _)⟩)
  dsimp only [Pt.U, Pt.locs, Pt.cells, Pt.slots] at X1 l1 y1 z1 st1 hQ1
  subst l1 y1 z1
  obtain ⟨rfl, Nq1, e1⟩ := hQ1
  have N1 := Fr.app N0 Nq1
  obtain ⟨_, _, ⟨T2, L2, k2, n2⟩, -, X2, ⟨Lc2, hQ2, l2, y2, z2⟩, st2⟩ := Jvm.LawKit.callS X1 hx (y := y_20) hown (mvT hZ (ow hw 283 rfl)) (mvT hZ (ow hw 211 rfl)) (mvT hZ (ow hw 4 rfl)) (mvT hZ (ow hw 212 rfl)) (by decide) (backOf (W := 0) (rm_schk l Z a0 hw [] ii n fm h0 n0 Z0 q0 hFM q2 hii hcap) hZ (ow hw 212 rfl) (ow hw 4 rfl) (by decide) (by decide)) (g := (mkF m 5 #[vI (Int32.ofNat ii), vR dd] [(.int (Int32.ofNat n)), (.int (Int32.ofNat ii))])) rfl (by rw [hml]; rfl) (argsL := [(.int (Int32.ofNat ii)), (.int (Int32.ofNat n))]) (rest := []) (lenOf pd_12 rfl) rfl (by show 2 * 0 + _ ≤ _; exact Nat.le_of_eq rfl) (oh hby D20 3 rfl) (fun _ _ => ⟨rfl, e1, (by decide : 0 + 0 ≤ _), (by decide : 0 + 0 ≤ _)⟩)
  dsimp only [Pt.U, Pt.locs, Pt.cells, Pt.slots] at X2 l2 y2 z2 st2 hQ2
  subst l2 y2 z2
  obtain ⟨rfl, Nq2, e2⟩ := hQ2
  have N2 := Fr.app N1 Nq2
  obtain ⟨fs, hr, hrun, hended, hW, hsame⟩ := X2.leave (v := none) (fun _ => rfl)
  refine ⟨_, _, pre0 _ ?_, hrun, hended, _, _, rfl, ?_, ⟨_, rfl⟩, hW, hsame.mono (by decide) (by decide)⟩
  · refine XS.iloadN X0.here hx rfl (oh hby D20 0 rfl) rfl ?_
    refine XS.aloadN X0.here hx rfl (oh hby D20 1 rfl) rfl rfl ?_
    refine st1 _ ?_
    show oS p e below T1 (mkF m 5 #[vI (Int32.ofNat ii), vR dd] [(.int (Int32.ofNat n)), (.int (Int32.ofNat ii))]) _
    refine st2 _ ?_
    show oS p e below T2 (mkF m 8 #[vI (Int32.ofNat ii), vR dd] []) _
    exact X2.returnOut hx Bd.returns (oh hby D20 4 rfl) hr
  · show Q_uchk Z ii dd kd n vs fm h0 n0 _ T2.heap _
    rw [e2]
    exact ⟨rfl, N2, rfl⟩
theorem pd_13 : parseMethodDescriptor "(I[B)V" = some ⟨[.int, (.array .byte)], none⟩ := by decide +kernel
def Q_uchA (Z : State) (dd : Addr) (ii : Nat) (xc : Int32) (kd : ClassId) (n : Nat) (vs : List Value) (fm : Value) (h0 : Heap) (n0 : Nat) (v : Option Value) (h : Heap) (L : List Loc) : Prop := (v = some (.int xc)) ∧ (Fr n0 L) ∧ (h = h0)
set_option maxRecDepth 65536 in
set_option maxHeartbeats 40000000 in
theorem rm_uchA (l : Launch) (Z : State) (a0 : Array Value) (hw : HW Z a0) (ws : List Jvm.Cond) (dd : Addr) (ii : Nat) (xc : Int32) (kd : ClassId) (n : Nat) (vs : List Value) (fm : Value) (h0 : Heap) (n0 : Nat) (Z0 : n0 ≤ h0.size) (q0 : sF Z fm) (hFM : fm.isRef = true) (q2 : sA Z) (q3 : sH Z) (q4 : sL Z) (q5 : Old Z n0 h0) (q6 : Arv Z h0 dd kd .byte (Int32.ofNat (2 * n)) vs (.int 0)) (hii : ii < n) (hcap : n ≤ 4000) (hlo_ : vs.getD (2 * ii) (.int 0) = (.int (StrChars.lo8 xc))) (hhi_ : vs.getD (2 * ii + 1) (.int 0) = (.int (StrChars.hi8 xc))) (hc0 : ¬ xc < 0) (hc1 : ¬ (65535 : Int32) < xc) :
    mF l y_22 jdk_52_method_83_code 2 (some .char) ws (rmk 3 0 0 40) #[(.ref dd), (.int (Int32.ofNat ii))] Z h0 (Q_uchA Z dd ii xc kd n vs fm h0 n0) := by
  refine MetFree.of_bodySF (plainFor_of_name pn_0) hisR ?_
  intro p e s m args below meth c s₁ Bd hml0 hP hK
  obtain ⟨rfl, hZ, hh⟩ := hP
  have hx := Bd.exec
  have hby := Bd.bytes
  have hml : c.maxLocals = 2 := hml0
  have hown : s.vm.findClass "java/lang/StringUTF16" = some m.cls := findClass_of_methodNamed Bd.named
  have hnm := (name_of_methodNamed Bd.named Bd.method).1
  have X0 : Stand p l e (rmk 3 0 0 40) s m #[(.ref dd), (.int (Int32.ofNat ii))] below meth c s₁ [] 0 0 := Stand.of_body Bd
  have e0 : s₁.heap = h0 := by rw [← hh, Bd.state]; rfl
  have N0 := Fr.nil n0
  have pre0 : ∀ t, oS p e below s₁ (mkF m 0 #[vR dd, vI (Int32.ofNat ii)] []) t → oS p e below s₁ (entryFrame m #[(.ref dd), (.int (Int32.ofNat ii))] 2) t := fun t k => castTop (ef_2 m dd (Int32.ofNat ii)) k
  obtain ⟨_, _, ⟨T1, L1, k1, n1⟩, -, X1, ⟨Lc1, hQ1, l1, y1, z1⟩, st1⟩ := Jvm.LawKit.callS X0 hx (y := y_21) hown (mvT hZ (ow hw 280 rfl)) (mvT hZ (ow hw 281 rfl)) (mvT hZ (ow hw 46 rfl)) (mvT hZ (ow hw 282 rfl)) (by decide) (backOf (W := 0) (rm_uchk l Z a0 hw [] ii dd kd n vs fm h0 n0 Z0 q0 hFM q5 q6 hii hcap) hZ (ow hw 282 rfl) (ow hw 46 rfl) (by decide) (by decide)) (g := (mkF m 2 #[vR dd, vI (Int32.ofNat ii)] [(.ref dd), (.int (Int32.ofNat ii))])) rfl (by rw [hml]; rfl) (argsL := [(.int (Int32.ofNat ii)), (.ref dd)]) (rest := []) (lenOf pd_13 rfl) rfl (by show 2 * 0 + _ ≤ _; exact Nat.le_of_eq rfl) (oh hby D21 2 rfl) (fun _ _ => ⟨rfl, e0, (by decide : 0 + 0 ≤ _), (by decide : 0 + 0 ≤ _)⟩)
  dsimp only [Pt.U, Pt.locs, Pt.cells, Pt.slots] at X1 l1 y1 z1 st1 hQ1
  subst l1 y1 z1
  obtain ⟨rfl, Nq1, e1⟩ := hQ1
  have N1 := Fr.app N0 Nq1
  obtain ⟨_, _, ⟨T2, L2, k2, n2⟩, -, X2, ⟨Lc2, hQ2, l2, y2, z2⟩, st2⟩ := Jvm.LawKit.callS X1 hx (y := y_2) hown (mvT hZ (ow hw 232 rfl)) (mvT hZ (ow hw 233 rfl)) (mvT hZ (ow hw 46 rfl)) (mvT hZ (ow hw 234 rfl)) (by decide) (backOf (W := 0) (rm_getCh l Z a0 hw [] dd ii xc kd (2 * n) vs h0 n0 Z0 q2 q3 q4 q5 q6 (by omega) (by omega) hlo_ hhi_ hc0 hc1) hZ (ow hw 234 rfl) (ow hw 46 rfl) (by decide) (by decide)) (g := (mkF m 7 #[vR dd, vI (Int32.ofNat ii)] [(.int (Int32.ofNat ii)), (.ref dd)])) rfl (by rw [hml]; rfl) (argsL := [(.ref dd), (.int (Int32.ofNat ii))]) (rest := []) (lenOf pd_5 rfl) rfl (by show 2 * 0 + _ ≤ _; exact Nat.le_of_eq rfl) (oh hby D21 5 rfl) (fun _ _ => ⟨rfl, e1, (by decide : 0 + 0 ≤ _), (by decide : 0 + 0 ≤ _)⟩)
  dsimp only [Pt.U, Pt.locs, Pt.cells, Pt.slots] at X2 l2 y2 z2 st2 hQ2
  subst l2 y2 z2
  obtain ⟨rfl, Nq2, e2⟩ := hQ2
  have N2 := Fr.app N1 Nq2
  obtain ⟨fs, hr, hrun, hended, hW, hsame⟩ := X2.leave (v := some (.int xc)) (fun h => by rw [Bd.returns] at h; cases h)
  refine ⟨_, _, pre0 _ ?_, hrun, hended, _, _, rfl, ?_, ⟨_, rfl⟩, hW, hsame.mono (by decide) (by decide)⟩
  · refine XS.iloadN X0.here hx rfl (oh hby D21 0 rfl) rfl ?_
    refine XS.aloadN X0.here hx rfl (oh hby D21 1 rfl) rfl rfl ?_
    refine st1 _ ?_
    show oS p e below T1 (mkF m 5 #[vR dd, vI (Int32.ofNat ii)] []) _
    refine XS.aloadN X1.here hx rfl (oh hby D21 3 rfl) rfl rfl ?_
    refine XS.iloadN X1.here hx rfl (oh hby D21 4 rfl) rfl ?_
    refine st2 _ ?_
    show oS p e below T2 (mkF m 10 #[vR dd, vI (Int32.ofNat ii)] [(.int xc)]) _
    exact retN X2 hx (t := .char) Bd.returns (by simp) (oh hby D21 6 rfl) (by rw [(show nar .char xc = xc from own_nc hc0 hc1)]; exact hr)
  · show Q_uchA Z dd ii xc kd n vs fm h0 n0 _ T2.heap _
    rw [e2]
    exact ⟨rfl, N2, rfl⟩
def Q_sLatW (Z : State) (xs : Addr) (G : Int32) (h0 : Heap) (n0 : Nat) (v : Option Value) (h : Heap) (L : List Loc) : Prop := (v = some (.int 0)) ∧ (Fr n0 L) ∧ (h = h0)
set_option maxRecDepth 65536 in
set_option maxHeartbeats 40000000 in
theorem rm_sLatW (l : Launch) (Z : State) (a0 : Array Value) (hw : HW Z a0) (ws : List Jvm.Cond) (xs : Addr) (G : Int32) (h0 : Heap) (n0 : Nat) (Z0 : n0 ≤ h0.size) (q0 : sC Z G) (hCS : ¬ (G = (0 : Int32))) (q2 : Old Z n0 h0) (q3 : fC Z h0 xs (.int 1)) :
    mF l y_23 jdk_42_method_154_code 1 (some .boolean) ws (rmk 0 0 0 0) #[(.ref xs)] Z h0 (Q_sLatW Z xs G h0 n0) := by
  refine MetFree.of_bodySF (plainFor_of_name pn_1) hisR ?_
  intro p e s m args below meth c s₁ Bd hml0 hP hK
  obtain ⟨rfl, hZ, hh⟩ := hP
  have hx := Bd.exec
  have hby := Bd.bytes
  have hml : c.maxLocals = 1 := hml0
  have hown : s.vm.findClass "java/lang/String" = some m.cls := findClass_of_methodNamed Bd.named
  have hnm := (name_of_methodNamed Bd.named Bd.method).1
  have X0 : Stand p l e (rmk 0 0 0 0) s m #[(.ref xs)] below meth c s₁ [] 0 0 := Stand.of_body Bd
  have e0 : s₁.heap = h0 := by rw [← hh, Bd.state]; rfl
  have N0 := Fr.nil n0
  have pre0 : ∀ t, oS p e below s₁ (mkF m 0 #[vR xs] []) t → oS p e below s₁ (entryFrame m #[(.ref xs)] 1) t := fun t k => castTop (ef_8 m xs) k
  obtain ⟨T1, X1, e1, st1⟩ := getS2 X0 hx hZ hown (host := "") (Or.inl (ow hw 37 rfl)) Via.refl e0 (q0.ext q2.2) (g := (mkF m 0 #[vR xs] [])) rfl (oh hby D22 0 rfl)
  obtain ⟨T2, X2, e2, st2⟩ := getF X1 hx hZ hown (host := "") (Or.inl (ow hw 22 rfl)) Via.refl e1 q3 (g := (mkF m 7 #[vR xs] [(.ref xs)])) rfl rfl (oh hby D22 3 rfl)
  obtain ⟨fs, hr, hrun, hended, hW, hsame⟩ := X2.leave (v := some (.int 0)) (fun h => by rw [Bd.returns] at h; cases h)
  refine ⟨_, _, pre0 _ ?_, hrun, hended, _, _, rfl, ?_, ⟨_, rfl⟩, hW, hsame.mono (by decide) (by decide)⟩
  · refine st1 _ ?_
    show oS p e below T1 (mkF m 3 #[vR xs] [(.int G)]) _
    refine XS.ifNo X1.here hx rfl (oh hby D22 1 rfl) rfl ((if0 _ _).trans (feq (hCS : ¬ (G = (0 : Int32)))).1) ?_
    refine XS.aloadN X1.here hx rfl (oh hby D22 2 rfl) rfl rfl ?_
    refine st2 _ ?_
    show oS p e below T2 (mkF m 10 #[vR xs] [(.int 1)]) _
    refine XS.ifYes X2.here hx rfl (pc0 := 10) (pc' := 17) rfl (oh hby D22 4 rfl) rfl ((if0 _ _).trans (feq ((by decide) : ¬ ((1 : Int32) = (0 : Int32)))).2) (by decide) (by decide) ?_
    refine XS.iconst X2.here hx rfl (oh hby D22 7 rfl) ?_
    show oS p e below T2 (mkF m 18 #[vR xs] [(.int 0)]) _
    exact retN X2 hx (t := .boolean) Bd.returns (by simp) (oh hby D22 8 rfl) hr
  · show Q_sLatW Z xs G h0 n0 _ T2.heap _
    rw [e2]
    exact ⟨rfl, N0, rfl⟩
theorem pd_14 : parseMethodDescriptor "()Z" = some ⟨[], some .boolean⟩ := by decide +kernel
def Q_chW (Z : State) (xs : Addr) (ii : Nat) (xc : Int32) (dd : Addr) (kd : ClassId) (n : Nat) (vs : List Value) (G : Int32) (fm : Value) (h0 : Heap) (n0 : Nat) (v : Option Value) (h : Heap) (L : List Loc) : Prop := (v = some (.int xc)) ∧ (Fr n0 L) ∧ (h = h0)
set_option maxRecDepth 65536 in
set_option maxHeartbeats 40000000 in
theorem rm_chW (l : Launch) (Z : State) (a0 : Array Value) (hw : HW Z a0) (ws : List Jvm.Cond) (xs : Addr) (ii : Nat) (xc : Int32) (dd : Addr) (kd : ClassId) (n : Nat) (vs : List Value) (G : Int32) (fm : Value) (h0 : Heap) (n0 : Nat) (Z0 : n0 ≤ h0.size) (q0 : sC Z G) (hCS : ¬ (G = (0 : Int32))) (q2 : sF Z fm) (hFM : fm.isRef = true) (q4 : sA Z) (q5 : sH Z) (q6 : sL Z) (q7 : Old Z n0 h0) (q8 : eS Z h0 xs) (q9 : fV Z h0 xs (.ref dd)) (q10 : fC Z h0 xs (.int 1)) (q11 : Arv Z h0 dd kd .byte (Int32.ofNat (2 * n)) vs (.int 0)) (hii : ii < n) (hcap : n ≤ 4000) (hlo_ : vs.getD (2 * ii) (.int 0) = (.int (StrChars.lo8 xc))) (hhi_ : vs.getD (2 * ii + 1) (.int 0) = (.int (StrChars.hi8 xc))) (hc0 : ¬ xc < 0) (hc1 : ¬ (65535 : Int32) < xc) :
    mF l y_24 jdk_42_method_56_code 2 (some .char) ws (rmk 4 0 0 53) #[(.ref xs), (.int (Int32.ofNat ii))] Z h0 (Q_chW Z xs ii xc dd kd n vs G fm h0 n0) := by
  refine MetFree.of_bodySF (plainFor_of_name pn_1) hisR ?_
  intro p e s m args below meth c s₁ Bd hml0 hP hK
  obtain ⟨rfl, hZ, hh⟩ := hP
  have hx := Bd.exec
  have hby := Bd.bytes
  have hml : c.maxLocals = 2 := hml0
  have hown : s.vm.findClass "java/lang/String" = some m.cls := findClass_of_methodNamed Bd.named
  have hnm := (name_of_methodNamed Bd.named Bd.method).1
  have X0 : Stand p l e (rmk 4 0 0 53) s m #[(.ref xs), (.int (Int32.ofNat ii))] below meth c s₁ [] 0 0 := Stand.of_body Bd
  have e0 : s₁.heap = h0 := by rw [← hh, Bd.state]; rfl
  have N0 := Fr.nil n0
  have pre0 : ∀ t, oS p e below s₁ (mkF m 0 #[vR xs, vI (Int32.ofNat ii)] []) t → oS p e below s₁ (entryFrame m #[(.ref xs), (.int (Int32.ofNat ii))] 2) t := fun t k => castTop (ef_2 m xs (Int32.ofNat ii)) k
  obtain ⟨cq1, kq1, q1a, q1b, q1c⟩ := isOf hZ e0 q8
  obtain ⟨_, _, ⟨T1, L1, k1, n1⟩, -, X1, ⟨Lc1, hQ1, l1, y1, z1⟩, st1⟩ := X0.virtualBack hx (y := y_23) (z := y_23) hown (mvT hZ (ow hw 86 rfl)) (mvT hZ (ow hw 87 rfl)) (notFace_of_selects (args := #[]) (mvT hZ (ow hw 89 rfl))) (mvT hZ (ow hw 89 rfl)) (mvT hZ (ow hw 88 rfl)) (by decide) (backOf (W := 0) (rm_sLatW l Z a0 hw [] xs G h0 n0 Z0 q0 hCS q7 q10) hZ (ow hw 90 rfl) (ow hw 4 rfl) (by decide) (by decide)) q1a q1c (g := (mkF m 1 #[vR xs, vI (Int32.ofNat ii)] [(.ref xs)])) rfl (by rw [hml]; rfl) (Steps.refl _) (argsL := []) (rest := []) (lenOf pd_14 rfl) rfl (by show 2 * 0 + _ ≤ _; exact Nat.le_of_eq rfl) (oh hby D23 1 rfl) (fun _ _ => ⟨rfl, e0, (by decide : 0 + 0 ≤ _), (by decide : 0 + 0 ≤ _)⟩)
  dsimp only [Pt.U, Pt.locs, Pt.cells, Pt.slots] at X1 l1 y1 z1 st1 hQ1
  subst l1 y1 z1
  obtain ⟨rfl, Nq1, e1⟩ := hQ1
  have N1 := Fr.app N0 Nq1
  obtain ⟨T2, X2, e2, st2⟩ := getF X1 hx hZ hown (host := "") (Or.inl (ow hw 21 rfl)) Via.refl e1 q9 (g := (mkF m 17 #[vR xs, vI (Int32.ofNat ii)] [(.ref xs)])) rfl rfl (oh hby D23 9 rfl)
  obtain ⟨_, _, ⟨T3, L3, k3, n3⟩, -, X3, ⟨Lc3, hQ3, l3, y3, z3⟩, st3⟩ := Jvm.LawKit.callS X2 hx (y := y_22) hown (mvT hZ (ow hw 277 rfl)) (mvT hZ (ow hw 278 rfl)) (mvT hZ (ow hw 46 rfl)) (mvT hZ (ow hw 279 rfl)) (by decide) (backOf (W := 0) (rm_uchA l Z a0 hw [] dd ii xc kd n vs fm h0 n0 Z0 q2 hFM q4 q5 q6 q7 q11 hii hcap hlo_ hhi_ hc0 hc1) hZ (ow hw 279 rfl) (ow hw 46 rfl) (by decide) (by decide)) (g := (mkF m 21 #[vR xs, vI (Int32.ofNat ii)] [(.int (Int32.ofNat ii)), (.ref dd)])) rfl (by rw [hml]; rfl) (argsL := [(.ref dd), (.int (Int32.ofNat ii))]) (rest := []) (lenOf pd_5 rfl) rfl (by show 2 * 0 + _ ≤ _; exact Nat.le_of_eq rfl) (oh hby D23 11 rfl) (fun _ _ => ⟨rfl, e2, (by decide : 0 + 0 ≤ _), (by decide : 0 + 0 ≤ _)⟩)
  dsimp only [Pt.U, Pt.locs, Pt.cells, Pt.slots] at X3 l3 y3 z3 st3 hQ3
  subst l3 y3 z3
  obtain ⟨rfl, Nq3, e3⟩ := hQ3
  have N3 := Fr.app N1 Nq3
  obtain ⟨fs, hr, hrun, hended, hW, hsame⟩ := X3.leave (v := some (.int xc)) (fun h => by rw [Bd.returns] at h; cases h)
  refine ⟨_, _, pre0 _ ?_, hrun, hended, _, _, rfl, ?_, ⟨_, rfl⟩, hW, hsame.mono (by decide) (by decide)⟩
  · refine XS.aloadN X0.here hx rfl (oh hby D23 0 rfl) rfl rfl ?_
    refine st1.trans ?_
    show oS p e below T1 (mkF m 4 #[vR xs, vI (Int32.ofNat ii)] [(.int 0)]) _
    refine XS.ifYes X1.here hx rfl (pc0 := 4) (pc' := 16) rfl (oh hby D23 2 rfl) rfl ((if0 _ _).trans (teq ((by decide) : (0 : Int32) = (0 : Int32))).1) (by decide) (by decide) ?_
    refine XS.aloadN X1.here hx rfl (oh hby D23 8 rfl) rfl rfl ?_
    refine st2 _ ?_
    show oS p e below T2 (mkF m 20 #[vR xs, vI (Int32.ofNat ii)] [(.ref dd)]) _
    refine XS.iloadN X2.here hx rfl (oh hby D23 10 rfl) rfl ?_
    refine st3 _ ?_
    show oS p e below T3 (mkF m 24 #[vR xs, vI (Int32.ofNat ii)] [(.int xc)]) _
    exact retN X3 hx (t := .char) Bd.returns (by simp) (oh hby D23 12 rfl) (by rw [(show nar .char xc = xc from own_nc hc0 hc1)]; exact hr)
  · show Q_chW Z xs ii xc dd kd n vs G fm h0 n0 _ T3.heap _
    rw [e3]
    exact ⟨rfl, N3, rfl⟩
def Q_new1l (Z : State) (xs : Addr) (ca : Addr) (kc : ClassId) (cs : List Int32) (dv : Value) (G : Int32) (h0 : Heap) (n0 : Nat) (v : Option Value) (h : Heap) (L : List Loc) : Prop := ∃ (tt : Addr) (kt : ClassId), (v = none) ∧ (Fr n0 L) ∧ (Keep h0 h ([xs] : List Addr)) ∧ (fV Z h xs (.ref tt)) ∧ (fC Z h xs (.int 0)) ∧ (h0.size ≤ tt) ∧ (Arv Z h tt kt .byte (Int32.ofNat cs.length) (own_bs cs) (.int 0))
set_option maxRecDepth 65536 in
set_option maxHeartbeats 40000000 in
theorem rm_new1l (l : Launch) (Z : State) (a0 : Array Value) (hw : HW Z a0) (ws : List Jvm.Cond) (xs : Addr) (ca : Addr) (kc : ClassId) (cs : List Int32) (dv : Value) (G : Int32) (h0 : Heap) (n0 : Nat) (Z0 : n0 ≤ h0.size) (q0 : sC Z G) (hCS : ¬ (G = (0 : Int32))) (q2 : Old Z n0 h0) (q3 : Arv Z h0 ca kc .char (Int32.ofNat cs.length) (cs.map Value.int) dv) (hcap : cs.length ≤ 44) (hn1 : 0 < cs.length) (hlat : ∀ c ∈ cs, ¬ (255 : Int32) < c) (q7 : eS Z h0 xs) (q8 : fV Z h0 xs .null) (q9 : fC Z h0 xs (.int 0)) (q10 : n0 ≤ xs) :
    mF l y_9 jdk_42_method_3_code 2 none ws (rmk 3 1 44 52) #[(.ref xs), (.ref ca)] Z h0 (Q_new1l Z xs ca kc cs dv G h0 n0) := by
  refine MetFree.of_bodySF (plainFor_of_name pn_1) hisR ?_
  intro p e s m args below meth c s₁ Bd hml0 hP hK
  obtain ⟨rfl, hZ, hh⟩ := hP
  have hx := Bd.exec
  have hby := Bd.bytes
  have hml : c.maxLocals = 2 := hml0
  have hown : s.vm.findClass "java/lang/String" = some m.cls := findClass_of_methodNamed Bd.named
  have hnm := (name_of_methodNamed Bd.named Bd.method).1
  have X0 : Stand p l e (rmk 3 1 44 52) s m #[(.ref xs), (.ref ca)] below meth c s₁ [] 0 0 := Stand.of_body Bd
  have e0 : s₁.heap = h0 := by rw [← hh, Bd.state]; rfl
  have N0 := Fr.nil n0
  have pre0 : ∀ t, oS p e below s₁ (mkF m 0 #[vR xs, vR ca] []) t → oS p e below s₁ (entryFrame m #[(.ref xs), (.ref ca)] 2) t := fun t k => castTop (ef_7 m xs ca) k
  obtain ⟨cl1, Ar1, -, S1, M1, -, -⟩ := id q3
  obtain ⟨_, _, ⟨T2, L2, k2, n2⟩, -, X2, ⟨Lc2, hQ2, l2, y2, z2⟩, st2⟩ := X0.specialBack hx (y := y_8) rfl hown (mvT hZ (ow hw 8 rfl)) (mvT hZ (ow hw 9 rfl)) (mvT hZ (ow hw 11 rfl)) (by decide) (backOf (W := 0) (rm_new4l l Z a0 hw [] xs ca kc cs dv 0 cs.length cs G h0 n0 Z0 q0 hCS q2 hn1 q3 (by omega) hcap (by omega) (rfl) (fun q _ => by rw [Nat.zero_add]) hlat q7 q8 q9 q10) hZ (ow hw 11 rfl) (ow hw 4 rfl) (by decide) (by decide)) (g := (mkF m 6 #[vR xs, vR ca] [.null, (.int (Int32.ofNat cs.length)), (.int 0), (.ref ca), (.ref xs)])) rfl (by rw [hml]; rfl) (Steps.refl _) (a := xs) (argsL := [(.ref ca), (.int 0), (.int (Int32.ofNat cs.length)), .null]) (rest := []) (lenOf pd_7 rfl) rfl (by show 2 * 0 + _ ≤ _; exact Nat.le_of_eq rfl) (oh hby D9 6 rfl) (fun _ _ => ⟨rfl, e0, (by decide : 0 + 1 ≤ _), (by decide : 0 + 44 ≤ _)⟩)
  dsimp only [Pt.U, Pt.locs, Pt.cells, Pt.slots] at X2 l2 y2 z2 st2 hQ2
  subst l2 y2 z2
  obtain ⟨tt_2, kt_2, rfl, Nq2, K2, f2_0, f2_1, f2_2, f2_3⟩ := hQ2
  have N2 := Fr.app N0 Nq2
  obtain ⟨fs, hr, hrun, hended, hW, hsame⟩ := X2.leave (v := none) (fun _ => rfl)
  refine ⟨_, _, pre0 _ ?_, hrun, hended, _, _, rfl, ?_, ⟨_, rfl⟩, hW, hsame.mono (by decide) (by decide)⟩
  · refine XS.aloadN X0.here hx rfl (oh hby D9 0 rfl) rfl rfl ?_
    refine XS.aloadN X0.here hx rfl (oh hby D9 1 rfl) rfl rfl ?_
    refine XS.iconst X0.here hx rfl (oh hby D9 2 rfl) ?_
    refine XS.aloadN X0.here hx rfl (oh hby D9 3 rfl) rfl rfl ?_
    show oS p e below s₁ (mkF m 4 #[vR xs, vR ca] [(.ref ca), (.int 0), (.ref ca), (.ref xs)]) _
    refine X0.arraylength hx (by rw [e0]; exact Ar1.1) (State.isArrayOf_alike hZ.alike Ar1.2.1) (g := (mkF m 4 #[vR xs, vR ca] [(.ref ca), (.int 0), (.ref ca), (.ref xs)])) rfl rfl (oh hby D9 4 rfl) _ ?_
    rw [len_of S1 M1]
    show oS p e below s₁ (mkF m 5 #[vR xs, vR ca] [(.int (Int32.ofNat cs.length)), (.int 0), (.ref ca), (.ref xs)]) _
    refine XS.aconstNull X0.here hx rfl (oh hby D9 5 rfl) ?_
    refine st2.trans ?_
    show oS p e below T2 (mkF m 9 #[vR xs, vR ca] []) _
    exact X2.returnOut hx Bd.returns (oh hby D9 7 rfl) hr
  · show Q_new1l Z xs ca kc cs dv G h0 n0 _ T2.heap _
    exact ⟨tt_2, kt_2, rfl, N2, ((Keep.refl h0 ([xs] : List Addr)).trans K2 (allS (Or.inl (by simp)) all0)), f2_0, f2_1, (Nat.le_trans (Nat.le_refl _) f2_2), f2_3⟩
def Q_newS (Z : State) (xs : Addr) (ca : Addr) (kc : ClassId) (cs : List Int32) (dv : Value) (G : Int32) (fm : Value) (h0 : Heap) (n0 : Nat) (v : Option Value) (h : Heap) (L : List Loc) : Prop := ∃ (tt : Addr) (kt : ClassId) (cd : Int32) (nn : Int32) (vs : List Value), (v = none) ∧ (Fr n0 L) ∧ (Keep h0 h ([xs] : List Addr)) ∧ (fV Z h xs (.ref tt)) ∧ (fC Z h xs (.int cd)) ∧ (h0.size ≤ tt) ∧ (Arv Z h tt kt .byte nn vs (.int 0)) ∧ (StrChars.Road.CodA cs cd nn vs)
set_option maxRecDepth 65536 in
set_option maxHeartbeats 40000000 in
theorem rm_newS (l : Launch) (Z : State) (a0 : Array Value) (hw : HW Z a0) (ws : List Jvm.Cond) (xs : Addr) (ca : Addr) (kc : ClassId) (cs : List Int32) (dv : Value) (G : Int32) (fm : Value) (h0 : Heap) (n0 : Nat) (Z0 : n0 ≤ h0.size) (q0 : sC Z G) (hCS : ¬ (G = (0 : Int32))) (q2 : sF Z fm) (hFM : fm.isRef = true) (q4 : sA Z) (q5 : sH Z) (q6 : sL Z) (q7 : Old Z n0 h0) (q8 : Arv Z h0 ca kc .char (Int32.ofNat cs.length) (cs.map Value.int) dv) (hcap : cs.length ≤ 44) (hn1 : 0 < cs.length) (hWs : ∀ c ∈ cs, own_W c) (q12 : eS Z h0 xs) (q13 : fV Z h0 xs .null) (q14 : fC Z h0 xs (.int 0)) (q15 : n0 ≤ xs) :
    mF l y_9 jdk_42_method_3_code 2 none ws (rmk 5 2 132 74) #[(.ref xs), (.ref ca)] Z h0 (Q_newS Z xs ca kc cs dv G fm h0 n0) := by
  refine MetFree.of_bodySF (plainFor_of_name pn_1) hisR ?_
  intro p e s m args below meth c s₁ Bd hml0 hP hK
  obtain ⟨rfl, hZ, hh⟩ := hP
  have hx := Bd.exec
  have hby := Bd.bytes
  have hml : c.maxLocals = 2 := hml0
  have hown : s.vm.findClass "java/lang/String" = some m.cls := findClass_of_methodNamed Bd.named
  have hnm := (name_of_methodNamed Bd.named Bd.method).1
  have X0 : Stand p l e (rmk 5 2 132 74) s m #[(.ref xs), (.ref ca)] below meth c s₁ [] 0 0 := Stand.of_body Bd
  have e0 : s₁.heap = h0 := by rw [← hh, Bd.state]; rfl
  have N0 := Fr.nil n0
  have pre0 : ∀ t, oS p e below s₁ (mkF m 0 #[vR xs, vR ca] []) t → oS p e below s₁ (entryFrame m #[(.ref xs), (.ref ca)] 2) t := fun t k => castTop (ef_7 m xs ca) k
  obtain ⟨cl1, Ar1, -, S1, M1, -, -⟩ := id q8
  have pre2 : ∀ t, oS p e below s₁ (mkF m 6 #[vR xs, vR ca] [.null, (.int (Int32.ofNat cs.length)), (.int 0), (.ref ca), (.ref xs)]) t → oS p e below s₁ (entryFrame m #[(.ref xs), (.ref ca)] 2) t := fun t kk => pre0 t (by
    refine XS.aloadN X0.here hx rfl (oh hby D9 0 rfl) rfl rfl ?_
    refine XS.aloadN X0.here hx rfl (oh hby D9 1 rfl) rfl rfl ?_
    refine XS.iconst X0.here hx rfl (oh hby D9 2 rfl) ?_
    refine XS.aloadN X0.here hx rfl (oh hby D9 3 rfl) rfl rfl ?_
    show oS p e below s₁ (mkF m 4 #[vR xs, vR ca] [(.ref ca), (.int 0), (.ref ca), (.ref xs)]) _
    refine X0.arraylength hx (by rw [e0]; exact Ar1.1) (State.isArrayOf_alike hZ.alike Ar1.2.1) (g := (mkF m 4 #[vR xs, vR ca] [(.ref ca), (.int 0), (.ref ca), (.ref xs)])) rfl rfl (oh hby D9 4 rfl) _ ?_
    rw [len_of S1 M1]
    show oS p e below s₁ (mkF m 5 #[vR xs, vR ca] [(.int (Int32.ofNat cs.length)), (.int 0), (.ref ca), (.ref xs)]) _
    refine XS.aconstNull X0.here hx rfl (oh hby D9 5 rfl) ?_
    show oS p e below s₁ (mkF m 6 #[vR xs, vR ca] [.null, (.int (Int32.ofNat cs.length)), (.int 0), (.ref ca), (.ref xs)]) _
    exact kk)
  by_cases hwd : ∃ c ∈ cs, (255 : Int32) < c
  · obtain ⟨rr, hr1, hr2, hr3⟩ := own_first cs hwd
    have hrm : own_W (cs.getD (0 + rr) 0) := hWs _ (by rw [Nat.zero_add]; exact own_getmem hr1)
    obtain ⟨_, _, ⟨T3, L3, k3, n3⟩, -, X3, ⟨Lc3, hQ3, l3, y3, z3⟩, st3⟩ := X0.specialBack hx (y := y_8) rfl hown (mvT hZ (ow hw 8 rfl)) (mvT hZ (ow hw 9 rfl)) (mvT hZ (ow hw 11 rfl)) (by decide) (backOf (W := 0) (rm_new4w l Z a0 hw [] xs ca kc cs dv 0 cs.length rr cs G h0 n0 Z0 q0 hCS q4 q5 q6 q7 (hcap) (rfl) (hr1) q8 (by omega) (by omega) (fun q _ => by rw [Nat.zero_add]) (hr2) (hr3) (hrm.1) (hrm.2) q12 q13 q14 q15) hZ (ow hw 11 rfl) (ow hw 4 rfl) (by decide) (by decide)) (g := (mkF m 6 #[vR xs, vR ca] [.null, (.int (Int32.ofNat cs.length)), (.int 0), (.ref ca), (.ref xs)])) rfl (by rw [hml]; rfl) (Steps.refl _) (a := xs) (argsL := [(.ref ca), (.int 0), (.int (Int32.ofNat cs.length)), .null]) (rest := []) (lenOf pd_7 rfl) rfl (by show 2 * 0 + _ ≤ _; exact Nat.le_of_eq rfl) (oh hby D9 6 rfl) (fun _ _ => ⟨rfl, e0, (by decide : 0 + 2 ≤ _), (by decide : 0 + 132 ≤ _)⟩)
    dsimp only [Pt.U, Pt.locs, Pt.cells, Pt.slots] at X3 l3 y3 z3 st3 hQ3
    subst l3 y3 z3
    obtain ⟨tt_3, kt_3, rfl, Nq3, K3, f3_0, f3_1, f3_2, f3_3⟩ := hQ3
    have N3 := Fr.app N0 Nq3
    obtain ⟨fs, hr, hrun, hended, hW, hsame⟩ := X3.leave (v := none) (fun _ => rfl)
    refine ⟨_, _, pre2 _ ?_, hrun, hended, _, _, rfl, ?_, ⟨_, rfl⟩, hW, hsame.mono (by decide) (by decide)⟩
    · refine st3.trans ?_
      show oS p e below T3 (mkF m 9 #[vR xs, vR ca] []) _
      exact X3.returnOut hx Bd.returns (oh hby D9 7 rfl) hr
    · show Q_newS Z xs ca kc cs dv G fm h0 n0 _ T3.heap _
      exact ⟨tt_3, kt_3, (1 : Int32), (Int32.ofNat (2 * cs.length)), (StrChars.Road.wideBytes cs), rfl, N3, ((Keep.refl h0 ([xs] : List Addr)).trans K3 (allS (Or.inl (by simp)) all0)), f3_0, f3_1, (Nat.le_trans (Nat.le_refl _) f3_2), f3_3, (own_codw hwd)⟩
  · obtain ⟨_, _, ⟨T4, L4, k4, n4⟩, -, X4, ⟨Lc4, hQ4, l4, y4, z4⟩, st4⟩ := X0.specialBack hx (y := y_8) rfl hown (mvT hZ (ow hw 8 rfl)) (mvT hZ (ow hw 9 rfl)) (mvT hZ (ow hw 11 rfl)) (by decide) (backOf (W := 0) (rm_new4l l Z a0 hw [] xs ca kc cs dv 0 cs.length cs G h0 n0 Z0 q0 hCS q7 hn1 q8 (by omega) hcap (by omega) (rfl) (fun q _ => by rw [Nat.zero_add]) (fun c hc q => hwd ⟨c, hc, q⟩) q12 q13 q14 q15) hZ (ow hw 11 rfl) (ow hw 4 rfl) (by decide) (by decide)) (g := (mkF m 6 #[vR xs, vR ca] [.null, (.int (Int32.ofNat cs.length)), (.int 0), (.ref ca), (.ref xs)])) rfl (by rw [hml]; rfl) (Steps.refl _) (a := xs) (argsL := [(.ref ca), (.int 0), (.int (Int32.ofNat cs.length)), .null]) (rest := []) (lenOf pd_7 rfl) rfl (by show 2 * 0 + _ ≤ _; exact Nat.le_of_eq rfl) (oh hby D9 6 rfl) (fun _ _ => ⟨rfl, e0, (by decide : 0 + 1 ≤ _), (by decide : 0 + 44 ≤ _)⟩)
    dsimp only [Pt.U, Pt.locs, Pt.cells, Pt.slots] at X4 l4 y4 z4 st4 hQ4
    subst l4 y4 z4
    obtain ⟨tt_4, kt_4, rfl, Nq4, K4, f4_0, f4_1, f4_2, f4_3⟩ := hQ4
    have N4 := Fr.app N0 Nq4
    obtain ⟨fs, hr, hrun, hended, hW, hsame⟩ := X4.leave (v := none) (fun _ => rfl)
    refine ⟨_, _, pre2 _ ?_, hrun, hended, _, _, rfl, ?_, ⟨_, rfl⟩, hW, hsame.mono (by decide) (by decide)⟩
    · refine st4.trans ?_
      show oS p e below T4 (mkF m 9 #[vR xs, vR ca] []) _
      exact X4.returnOut hx Bd.returns (oh hby D9 7 rfl) hr
    · show Q_newS Z xs ca kc cs dv G fm h0 n0 _ T4.heap _
      exact ⟨tt_4, kt_4, (0 : Int32), (Int32.ofNat cs.length), (own_bs cs), rfl, N4, ((Keep.refl h0 ([xs] : List Addr)).trans K4 (allS (Or.inl (by simp)) all0)), f4_0, f4_1, (Nat.le_trans (Nat.le_refl _) f4_2), f4_3, (Or.inl ⟨rfl, rfl, rfl, fun c hc q => hwd ⟨c, hc, q⟩⟩)⟩
def Q_sLat (Z : State) (xs : Addr) (G : Int32) (h0 : Heap) (n0 : Nat) (v : Option Value) (h : Heap) (L : List Loc) : Prop := (v = some (.int 1)) ∧ (Fr n0 L) ∧ (h = h0)
set_option maxRecDepth 65536 in
set_option maxHeartbeats 40000000 in
theorem rm_sLat (l : Launch) (Z : State) (a0 : Array Value) (hw : HW Z a0) (ws : List Jvm.Cond) (xs : Addr) (G : Int32) (h0 : Heap) (n0 : Nat) (Z0 : n0 ≤ h0.size) (q0 : sC Z G) (hCS : ¬ (G = (0 : Int32))) (q2 : Old Z n0 h0) (q3 : fC Z h0 xs (.int 0)) :
    mF l y_23 jdk_42_method_154_code 1 (some .boolean) ws (rmk 0 0 0 0) #[(.ref xs)] Z h0 (Q_sLat Z xs G h0 n0) := by
  refine MetFree.of_bodySF (plainFor_of_name pn_1) hisR ?_
  intro p e s m args below meth c s₁ Bd hml0 hP hK
  obtain ⟨rfl, hZ, hh⟩ := hP
  have hx := Bd.exec
  have hby := Bd.bytes
  have hml : c.maxLocals = 1 := hml0
  have hown : s.vm.findClass "java/lang/String" = some m.cls := findClass_of_methodNamed Bd.named
  have hnm := (name_of_methodNamed Bd.named Bd.method).1
  have X0 : Stand p l e (rmk 0 0 0 0) s m #[(.ref xs)] below meth c s₁ [] 0 0 := Stand.of_body Bd
  have e0 : s₁.heap = h0 := by rw [← hh, Bd.state]; rfl
  have N0 := Fr.nil n0
  have pre0 : ∀ t, oS p e below s₁ (mkF m 0 #[vR xs] []) t → oS p e below s₁ (entryFrame m #[(.ref xs)] 1) t := fun t k => castTop (ef_8 m xs) k
  obtain ⟨T1, X1, e1, st1⟩ := getS2 X0 hx hZ hown (host := "") (Or.inl (ow hw 37 rfl)) Via.refl e0 (q0.ext q2.2) (g := (mkF m 0 #[vR xs] [])) rfl (oh hby D22 0 rfl)
  obtain ⟨T2, X2, e2, st2⟩ := getF X1 hx hZ hown (host := "") (Or.inl (ow hw 22 rfl)) Via.refl e1 q3 (g := (mkF m 7 #[vR xs] [(.ref xs)])) rfl rfl (oh hby D22 3 rfl)
  obtain ⟨fs, hr, hrun, hended, hW, hsame⟩ := X2.leave (v := some (.int 1)) (fun h => by rw [Bd.returns] at h; cases h)
  refine ⟨_, _, pre0 _ ?_, hrun, hended, _, _, rfl, ?_, ⟨_, rfl⟩, hW, hsame.mono (by decide) (by decide)⟩
  · refine st1 _ ?_
    show oS p e below T1 (mkF m 3 #[vR xs] [(.int G)]) _
    refine XS.ifNo X1.here hx rfl (oh hby D22 1 rfl) rfl ((if0 _ _).trans (feq (hCS : ¬ (G = (0 : Int32)))).1) ?_
    refine XS.aloadN X1.here hx rfl (oh hby D22 2 rfl) rfl rfl ?_
    refine st2 _ ?_
    show oS p e below T2 (mkF m 10 #[vR xs] [(.int 0)]) _
    refine XS.ifNo X2.here hx rfl (oh hby D22 4 rfl) rfl ((if0 _ _).trans (teq ((by decide) : (0 : Int32) = (0 : Int32))).2) ?_
    refine XS.iconst X2.here hx rfl (oh hby D22 5 rfl) ?_
    refine XS.goto X2.here hx rfl (pc0 := 14) (pc' := 18) rfl (oh hby D22 6 rfl) (by decide) (by decide) ?_
    show oS p e below T2 (mkF m 18 #[vR xs] [(.int 1)]) _
    exact retN X2 hx (t := .boolean) Bd.returns (by simp) (oh hby D22 8 rfl) hr
  · show Q_sLat Z xs G h0 n0 _ T2.heap _
    rw [e2]
    exact ⟨rfl, N0, rfl⟩
theorem own_lo255 {c : Int32} (h0 : ¬ c < 0) (h1 : ¬ (255 : Int32) < c) : ((StrChars.lo8 c) &&& (255 : Int32)).toUInt32.toUInt16.toUInt32.toInt32 = c := by
  rw [Int32.lt_iff_toInt_lt] at h0 h1
  have e0 : (0 : Int32).toInt = 0 := rfl
  have e1 : (255 : Int32).toInt = 255 := rfl
  have h2 : ((StrChars.lo8 c) &&& (255 : Int32)).toInt = (StrChars.lo8 c).toInt % 256 := c_mask (StrChars.lo8 c) 255 8 (by decide) (by decide)
  have h3 : ((StrChars.lo8 c).toInt - c.toInt) % 256 = 0 := (c_i2b c).1
  have h4 := c_i2c ((StrChars.lo8 c) &&& (255 : Int32))
  apply Int32.toInt_inj.mp
  omega
theorem pn_5 : plainName "java/lang/StringLatin1" = true := by first | (simp [plainName, overriddenIn]; done) | decide +kernel
def Q_l1ch (Z : State) (tt : Addr) (ii : Nat) (kt : ClassId) (cs : List Int32) (fm : Value) (h0 : Heap) (n0 : Nat) (v : Option Value) (h : Heap) (L : List Loc) : Prop := (v = some (.int (cs.getD ii 0))) ∧ (Fr n0 L) ∧ (h = h0)
set_option maxRecDepth 65536 in
set_option maxHeartbeats 40000000 in
theorem rm_l1ch (l : Launch) (Z : State) (a0 : Array Value) (hw : HW Z a0) (ws : List Jvm.Cond) (tt : Addr) (ii : Nat) (kt : ClassId) (cs : List Int32) (fm : Value) (h0 : Heap) (n0 : Nat) (Z0 : n0 ≤ h0.size) (q0 : sF Z fm) (hFM : fm.isRef = true) (q2 : Old Z n0 h0) (q3 : Arv Z h0 tt kt .byte (Int32.ofNat cs.length) (own_bs cs) (.int 0)) (hii : ii < cs.length) (hle1 : cs.length ≤ 4000) (hbd1 : ∀ c ∈ cs, ¬ c < 0 ∧ ¬ (65535 : Int32) < c) (hlat : ∀ c ∈ cs, ¬ (255 : Int32) < c) :
    mF l y_25 jdk_43_method_2_code 2 (some .char) ws (rmk 2 0 0 27) #[(.ref tt), (.int (Int32.ofNat ii))] Z h0 (Q_l1ch Z tt ii kt cs fm h0 n0) := by
  refine MetFree.of_bodySF (plainFor_of_name pn_5) hisR ?_
  intro p e s m args below meth c s₁ Bd hml0 hP hK
  obtain ⟨rfl, hZ, hh⟩ := hP
  have hx := Bd.exec
  have hby := Bd.bytes
  have hml : c.maxLocals = 2 := hml0
  have hown : s.vm.findClass "java/lang/StringLatin1" = some m.cls := findClass_of_methodNamed Bd.named
  have hnm := (name_of_methodNamed Bd.named Bd.method).1
  have X0 : Stand p l e (rmk 2 0 0 27) s m #[(.ref tt), (.int (Int32.ofNat ii))] below meth c s₁ [] 0 0 := Stand.of_body Bd
  have e0 : s₁.heap = h0 := by rw [← hh, Bd.state]; rfl
  have N0 := Fr.nil n0
  have pre0 : ∀ t, oS p e below s₁ (mkF m 0 #[vR tt, vI (Int32.ofNat ii)] []) t → oS p e below s₁ (entryFrame m #[(.ref tt), (.int (Int32.ofNat ii))] 2) t := fun t k => castTop (ef_2 m tt (Int32.ofNat ii)) k
  have hm := own_getmem hii
  have hcv := own_lo255 (hbd1 _ hm).1 (hlat _ hm)
  obtain ⟨cl1, Ar1, -, S1, M1, -, -⟩ := id q3
  obtain ⟨_, _, ⟨T2, L2, k2, n2⟩, -, X2, ⟨Lc2, hQ2, l2, y2, z2⟩, st2⟩ := Jvm.LawKit.callS X0 hx (y := y_20) hown (mvT hZ (ow hw 210 rfl)) (mvT hZ (ow hw 211 rfl)) (mvT hZ (ow hw 4 rfl)) (mvT hZ (ow hw 212 rfl)) (by decide) (backOf (W := 0) (rm_schk l Z a0 hw [] ii cs.length fm h0 n0 Z0 q0 hFM q2 hii (hle1)) hZ (ow hw 212 rfl) (ow hw 4 rfl) (by decide) (by decide)) (g := (mkF m 3 #[vR tt, vI (Int32.ofNat ii)] [(.int (Int32.ofNat cs.length)), (.int (Int32.ofNat ii))])) rfl (by rw [hml]; rfl) (argsL := [(.int (Int32.ofNat ii)), (.int (Int32.ofNat cs.length))]) (rest := []) (lenOf pd_12 rfl) rfl (by show 2 * 0 + _ ≤ _; exact Nat.le_of_eq rfl) (oh hby D24 3 rfl) (fun _ _ => ⟨rfl, e0, (by decide : 0 + 0 ≤ _), (by decide : 0 + 0 ≤ _)⟩)
  dsimp only [Pt.U, Pt.locs, Pt.cells, Pt.slots] at X2 l2 y2 z2 st2 hQ2
  subst l2 y2 z2
  obtain ⟨rfl, Nq2, e2⟩ := hQ2
  have N2 := Fr.app N0 Nq2
  obtain ⟨cl3, Ar3, qq3, S3, M3, Hh3, U3⟩ := id q3
  have ib3 : ¬ ((Int32.ofNat ii) < 0 ∨ cl3.slots.size ≤ ((Int32.ofNat ii)).toNatClampNeg) := inb_of S3 (own_inb hii (by omega))
  obtain ⟨fs, hr, hrun, hended, hW, hsame⟩ := X2.leave (v := some (.int (cs.getD ii 0))) (fun h => by rw [Bd.returns] at h; cases h)
  refine ⟨_, _, pre0 _ ?_, hrun, hended, _, _, rfl, ?_, ⟨_, rfl⟩, hW, hsame.mono (by decide) (by decide)⟩
  · refine XS.iloadN X0.here hx rfl (oh hby D24 0 rfl) rfl ?_
    refine XS.aloadN X0.here hx rfl (oh hby D24 1 rfl) rfl rfl ?_
    show oS p e below s₁ (mkF m 2 #[vR tt, vI (Int32.ofNat ii)] [(.ref tt), (.int (Int32.ofNat ii))]) _
    refine X0.arraylength hx (by rw [e0]; exact Ar1.1) (State.isArrayOf_alike hZ.alike Ar1.2.1) (g := (mkF m 2 #[vR tt, vI (Int32.ofNat ii)] [(.ref tt), (.int (Int32.ofNat ii))])) rfl rfl (oh hby D24 2 rfl) _ ?_
    rw [len_of S1 M1]
    show oS p e below s₁ (mkF m 3 #[vR tt, vI (Int32.ofNat ii)] [(.int (Int32.ofNat cs.length)), (.int (Int32.ofNat ii))]) _
    refine st2 _ ?_
    show oS p e below T2 (mkF m 6 #[vR tt, vI (Int32.ofNat ii)] []) _
    refine XS.aloadN X2.here hx rfl (oh hby D24 4 rfl) rfl rfl ?_
    refine XS.iloadN X2.here hx rfl (oh hby D24 5 rfl) rfl ?_
    show oS p e below T2 (mkF m 8 #[vR tt, vI (Int32.ofNat ii)] [(.int (Int32.ofNat ii)), (.ref tt)]) _
    refine X2.baloadBytes hx (j := (Int32.ofNat ii)) (v := (.int (StrChars.lo8 (cs.getD ii 0)))) (by rw [e2]; exact Ar3.1) (State.isArrayOf_alike hZ.alike Ar3.2.1) Ar3.2.2 ib3 (Hh3.at ib3 (by rw [own_clamp (by omega)]; exact StrChars.Road.low_at _ _ _ hii)) (g := (mkF m 8 #[vR tt, vI (Int32.ofNat ii)] [(.int (Int32.ofNat ii)), (.ref tt)])) rfl rfl (oh hby D24 6 rfl) _ ?_
    show oS p e below T2 (mkF m 9 #[vR tt, vI (Int32.ofNat ii)] [(.int (StrChars.lo8 (cs.getD ii 0)))]) _
    refine XS.sipush X2.here hx rfl (oh hby D24 7 rfl) ?_
    refine XS.iand X2.here hx rfl (oh hby D24 8 rfl) rfl ?_
    refine XS.i2c X2.here hx rfl (oh hby D24 9 rfl) rfl ?_
    show oS p e below T2 (mkF m 14 #[vR tt, vI (Int32.ofNat ii)] [(.int (((StrChars.lo8 (cs.getD ii 0)) &&& (255 : Int32)).toUInt32.toUInt16.toUInt32.toInt32))]) _
    rw [(show (((StrChars.lo8 (cs.getD ii 0)) &&& (255 : Int32)).toUInt32.toUInt16.toUInt32.toInt32) = cs.getD ii 0 from hcv)]
    show oS p e below T2 (mkF m 14 #[vR tt, vI (Int32.ofNat ii)] [(.int (cs.getD ii 0))]) _
    exact retN X2 hx (t := .char) Bd.returns (by simp) (oh hby D24 10 rfl) (by rw [(show nar .char (cs.getD ii 0) = cs.getD ii 0 from own_nc (hbd1 _ hm).1 (hbd1 _ hm).2)]; exact hr)
  · show Q_l1ch Z tt ii kt cs fm h0 n0 _ T2.heap _
    rw [e2]
    exact ⟨rfl, N2, rfl⟩
def Q_chA (Z : State) (xs : Addr) (ii : Nat) (tt : Addr) (kt : ClassId) (cd : Int32) (nn : Int32) (vs : List Value) (cs : List Int32) (G : Int32) (fm : Value) (h0 : Heap) (n0 : Nat) (v : Option Value) (h : Heap) (L : List Loc) : Prop := (v = some (.int (cs.getD ii 0))) ∧ (Fr n0 L) ∧ (h = h0)
set_option maxRecDepth 65536 in
set_option maxHeartbeats 40000000 in
theorem rm_chA (l : Launch) (Z : State) (a0 : Array Value) (hw : HW Z a0) (ws : List Jvm.Cond) (xs : Addr) (ii : Nat) (tt : Addr) (kt : ClassId) (cd : Int32) (nn : Int32) (vs : List Value) (cs : List Int32) (G : Int32) (fm : Value) (h0 : Heap) (n0 : Nat) (Z0 : n0 ≤ h0.size) (q0 : sC Z G) (hCS : ¬ (G = (0 : Int32))) (q2 : sF Z fm) (hFM : fm.isRef = true) (q4 : sA Z) (q5 : sH Z) (q6 : sL Z) (q7 : Old Z n0 h0) (q8 : eS Z h0 xs) (q9 : fV Z h0 xs (.ref tt)) (q10 : fC Z h0 xs (.int cd)) (q11 : Arv Z h0 tt kt .byte nn vs (.int 0)) (hcd1 : StrChars.Road.CodA cs cd nn vs) (hbd1 : ∀ c ∈ cs, ¬ c < 0 ∧ ¬ (65535 : Int32) < c) (hle1 : cs.length ≤ 4000) (hii : ii < cs.length) :
    mF l y_24 jdk_42_method_56_code 2 (some .char) ws (rmk 4 0 0 53) #[(.ref xs), (.int (Int32.ofNat ii))] Z h0 (Q_chA Z xs ii tt kt cd nn vs cs G fm h0 n0) := by
  refine MetFree.of_bodySF (plainFor_of_name pn_1) hisR ?_
  intro p e s m args below meth c s₁ Bd hml0 hP hK
  obtain ⟨rfl, hZ, hh⟩ := hP
  have hx := Bd.exec
  have hby := Bd.bytes
  have hml : c.maxLocals = 2 := hml0
  have hown : s.vm.findClass "java/lang/String" = some m.cls := findClass_of_methodNamed Bd.named
  have hnm := (name_of_methodNamed Bd.named Bd.method).1
  have X0 : Stand p l e (rmk 4 0 0 53) s m #[(.ref xs), (.int (Int32.ofNat ii))] below meth c s₁ [] 0 0 := Stand.of_body Bd
  have e0 : s₁.heap = h0 := by rw [← hh, Bd.state]; rfl
  have N0 := Fr.nil n0
  have pre0 : ∀ t, oS p e below s₁ (mkF m 0 #[vR xs, vI (Int32.ofNat ii)] []) t → oS p e below s₁ (entryFrame m #[(.ref xs), (.int (Int32.ofNat ii))] 2) t := fun t k => castTop (ef_2 m xs (Int32.ofNat ii)) k
  have hm := own_getmem hii
  rcases hcd1 with ⟨hc1, hc2, hc3, hc4⟩ | ⟨hc1, hc2, hc3, hc4⟩
  · subst hc1
    subst hc2
    subst hc3
    obtain ⟨cq1, kq1, q1a, q1b, q1c⟩ := isOf hZ e0 q8
    obtain ⟨_, _, ⟨T1, L1, k1, n1⟩, -, X1, ⟨Lc1, hQ1, l1, y1, z1⟩, st1⟩ := X0.virtualBack hx (y := y_23) (z := y_23) hown (mvT hZ (ow hw 86 rfl)) (mvT hZ (ow hw 87 rfl)) (notFace_of_selects (args := #[]) (mvT hZ (ow hw 89 rfl))) (mvT hZ (ow hw 89 rfl)) (mvT hZ (ow hw 88 rfl)) (by decide) (backOf (W := 0) (rm_sLat l Z a0 hw [] xs G h0 n0 Z0 q0 hCS q7 q10) hZ (ow hw 90 rfl) (ow hw 4 rfl) (by decide) (by decide)) q1a q1c (g := (mkF m 1 #[vR xs, vI (Int32.ofNat ii)] [(.ref xs)])) rfl (by rw [hml]; rfl) (Steps.refl _) (argsL := []) (rest := []) (lenOf pd_14 rfl) rfl (by show 2 * 0 + _ ≤ _; exact Nat.le_of_eq rfl) (oh hby D23 1 rfl) (fun _ _ => ⟨rfl, e0, (by decide : 0 + 0 ≤ _), (by decide : 0 + 0 ≤ _)⟩)
    dsimp only [Pt.U, Pt.locs, Pt.cells, Pt.slots] at X1 l1 y1 z1 st1 hQ1
    subst l1 y1 z1
    obtain ⟨rfl, Nq1, e1⟩ := hQ1
    have N1 := Fr.app N0 Nq1
    obtain ⟨T2, X2, e2, st2⟩ := getF X1 hx hZ hown (host := "") (Or.inl (ow hw 21 rfl)) Via.refl e1 q9 (g := (mkF m 8 #[vR xs, vI (Int32.ofNat ii)] [(.ref xs)])) rfl rfl (oh hby D23 4 rfl)
    obtain ⟨_, _, ⟨T3, L3, k3, n3⟩, -, X3, ⟨Lc3, hQ3, l3, y3, z3⟩, st3⟩ := Jvm.LawKit.callS X2 hx (y := y_25) hown (mvT hZ (ow hw 207 rfl)) (mvT hZ (ow hw 208 rfl)) (mvT hZ (ow hw 93 rfl)) (mvT hZ (ow hw 209 rfl)) (by decide) (backOf (W := 0) (rm_l1ch l Z a0 hw [] tt ii kt cs fm h0 n0 Z0 q2 hFM q7 q11 hii hle1 hbd1 (hc4)) hZ (ow hw 209 rfl) (ow hw 93 rfl) (by decide) (by decide)) (g := (mkF m 12 #[vR xs, vI (Int32.ofNat ii)] [(.int (Int32.ofNat ii)), (.ref tt)])) rfl (by rw [hml]; rfl) (argsL := [(.ref tt), (.int (Int32.ofNat ii))]) (rest := []) (lenOf pd_5 rfl) rfl (by show 2 * 0 + _ ≤ _; exact Nat.le_of_eq rfl) (oh hby D23 6 rfl) (fun _ _ => ⟨rfl, e2, (by decide : 0 + 0 ≤ _), (by decide : 0 + 0 ≤ _)⟩)
    dsimp only [Pt.U, Pt.locs, Pt.cells, Pt.slots] at X3 l3 y3 z3 st3 hQ3
    subst l3 y3 z3
    obtain ⟨rfl, Nq3, e3⟩ := hQ3
    have N3 := Fr.app N1 Nq3
    obtain ⟨fs, hr, hrun, hended, hW, hsame⟩ := X3.leave (v := some (.int (cs.getD ii 0))) (fun h => by rw [Bd.returns] at h; cases h)
    refine ⟨_, _, pre0 _ ?_, hrun, hended, _, _, rfl, ?_, ⟨_, rfl⟩, hW, hsame.mono (by decide) (by decide)⟩
    · refine XS.aloadN X0.here hx rfl (oh hby D23 0 rfl) rfl rfl ?_
      refine st1.trans ?_
      show oS p e below T1 (mkF m 4 #[vR xs, vI (Int32.ofNat ii)] [(.int 1)]) _
      refine XS.ifNo X1.here hx rfl (oh hby D23 2 rfl) rfl ((if0 _ _).trans (feq ((by decide) : ¬ ((1 : Int32) = (0 : Int32)))).1) ?_
      refine XS.aloadN X1.here hx rfl (oh hby D23 3 rfl) rfl rfl ?_
      refine st2 _ ?_
      show oS p e below T2 (mkF m 11 #[vR xs, vI (Int32.ofNat ii)] [(.ref tt)]) _
      refine XS.iloadN X2.here hx rfl (oh hby D23 5 rfl) rfl ?_
      refine st3 _ ?_
      show oS p e below T3 (mkF m 15 #[vR xs, vI (Int32.ofNat ii)] [(.int (cs.getD ii 0))]) _
      exact retN X3 hx (t := .char) Bd.returns (by simp) (oh hby D23 7 rfl) (by rw [(show nar .char (cs.getD ii 0) = cs.getD ii 0 from own_nc (hbd1 _ hm).1 (hbd1 _ hm).2)]; exact hr)
    · show Q_chA Z xs ii tt kt (0 : Int32) (Int32.ofNat cs.length) (own_bs cs) cs G fm h0 n0 _ T3.heap _
      rw [e3]
      exact ⟨rfl, N3, rfl⟩
  · subst hc1
    subst hc2
    subst hc3
    obtain ⟨cq4, kq4, q4a, q4b, q4c⟩ := isOf hZ e0 q8
    obtain ⟨_, _, ⟨T4, L4, k4, n4⟩, -, X4, ⟨Lc4, hQ4, l4, y4, z4⟩, st4⟩ := X0.virtualBack hx (y := y_23) (z := y_23) hown (mvT hZ (ow hw 86 rfl)) (mvT hZ (ow hw 87 rfl)) (notFace_of_selects (args := #[]) (mvT hZ (ow hw 89 rfl))) (mvT hZ (ow hw 89 rfl)) (mvT hZ (ow hw 88 rfl)) (by decide) (backOf (W := 0) (rm_sLatW l Z a0 hw [] xs G h0 n0 Z0 q0 hCS q7 q10) hZ (ow hw 90 rfl) (ow hw 4 rfl) (by decide) (by decide)) q4a q4c (g := (mkF m 1 #[vR xs, vI (Int32.ofNat ii)] [(.ref xs)])) rfl (by rw [hml]; rfl) (Steps.refl _) (argsL := []) (rest := []) (lenOf pd_14 rfl) rfl (by show 2 * 0 + _ ≤ _; exact Nat.le_of_eq rfl) (oh hby D23 1 rfl) (fun _ _ => ⟨rfl, e0, (by decide : 0 + 0 ≤ _), (by decide : 0 + 0 ≤ _)⟩)
    dsimp only [Pt.U, Pt.locs, Pt.cells, Pt.slots] at X4 l4 y4 z4 st4 hQ4
    subst l4 y4 z4
    obtain ⟨rfl, Nq4, e4⟩ := hQ4
    have N4 := Fr.app N0 Nq4
    obtain ⟨T5, X5, e5, st5⟩ := getF X4 hx hZ hown (host := "") (Or.inl (ow hw 21 rfl)) Via.refl e4 q9 (g := (mkF m 17 #[vR xs, vI (Int32.ofNat ii)] [(.ref xs)])) rfl rfl (oh hby D23 9 rfl)
    obtain ⟨_, _, ⟨T6, L6, k6, n6⟩, -, X6, ⟨Lc6, hQ6, l6, y6, z6⟩, st6⟩ := Jvm.LawKit.callS X5 hx (y := y_22) hown (mvT hZ (ow hw 277 rfl)) (mvT hZ (ow hw 278 rfl)) (mvT hZ (ow hw 46 rfl)) (mvT hZ (ow hw 279 rfl)) (by decide) (backOf (W := 0) (rm_uchA l Z a0 hw [] tt ii (cs.getD ii 0) kt cs.length (StrChars.Road.wideBytes cs) fm h0 n0 Z0 q2 hFM q4 q5 q6 q7 q11 hii (hle1) (StrChars.Road.wide_lo _ _ _ hii) (StrChars.Road.wide_hi _ _ _ hii) ((hbd1 _ hm).1) ((hbd1 _ hm).2)) hZ (ow hw 279 rfl) (ow hw 46 rfl) (by decide) (by decide)) (g := (mkF m 21 #[vR xs, vI (Int32.ofNat ii)] [(.int (Int32.ofNat ii)), (.ref tt)])) rfl (by rw [hml]; rfl) (argsL := [(.ref tt), (.int (Int32.ofNat ii))]) (rest := []) (lenOf pd_5 rfl) rfl (by show 2 * 0 + _ ≤ _; exact Nat.le_of_eq rfl) (oh hby D23 11 rfl) (fun _ _ => ⟨rfl, e5, (by decide : 0 + 0 ≤ _), (by decide : 0 + 0 ≤ _)⟩)
    dsimp only [Pt.U, Pt.locs, Pt.cells, Pt.slots] at X6 l6 y6 z6 st6 hQ6
    subst l6 y6 z6
    obtain ⟨rfl, Nq6, e6⟩ := hQ6
    have N6 := Fr.app N4 Nq6
    obtain ⟨fs, hr, hrun, hended, hW, hsame⟩ := X6.leave (v := some (.int (cs.getD ii 0))) (fun h => by rw [Bd.returns] at h; cases h)
    refine ⟨_, _, pre0 _ ?_, hrun, hended, _, _, rfl, ?_, ⟨_, rfl⟩, hW, hsame.mono (by decide) (by decide)⟩
    · refine XS.aloadN X0.here hx rfl (oh hby D23 0 rfl) rfl rfl ?_
      refine st4.trans ?_
      show oS p e below T4 (mkF m 4 #[vR xs, vI (Int32.ofNat ii)] [(.int 0)]) _
      refine XS.ifYes X4.here hx rfl (pc0 := 4) (pc' := 16) rfl (oh hby D23 2 rfl) rfl ((if0 _ _).trans (teq ((by decide) : (0 : Int32) = (0 : Int32))).1) (by decide) (by decide) ?_
      refine XS.aloadN X4.here hx rfl (oh hby D23 8 rfl) rfl rfl ?_
      refine st5 _ ?_
      show oS p e below T5 (mkF m 20 #[vR xs, vI (Int32.ofNat ii)] [(.ref tt)]) _
      refine XS.iloadN X5.here hx rfl (oh hby D23 10 rfl) rfl ?_
      refine st6 _ ?_
      show oS p e below T6 (mkF m 24 #[vR xs, vI (Int32.ofNat ii)] [(.int (cs.getD ii 0))]) _
      exact retN X6 hx (t := .char) Bd.returns (by simp) (oh hby D23 12 rfl) (by rw [(show nar .char (cs.getD ii 0) = cs.getD ii 0 from own_nc (hbd1 _ hm).1 (hbd1 _ hm).2)]; exact hr)
    · show Q_chA Z xs ii tt kt (1 : Int32) (Int32.ofNat (2 * cs.length)) (StrChars.Road.wideBytes cs) cs G fm h0 n0 _ T6.heap _
      rw [e6]
      exact ⟨rfl, N6, rfl⟩
theorem pn_6 : plainName "java/util/Arrays" = true := by first | (simp [plainName, overriddenIn]; done) | decide +kernel
def Q_chkL (Z : State) (n : Nat) (h0 : Heap) (n0 : Nat) (v : Option Value) (h : Heap) (L : List Loc) : Prop := (v = none) ∧ (Fr n0 L) ∧ (h = h0)
set_option maxRecDepth 65536 in
set_option maxHeartbeats 40000000 in
theorem rm_chkL (l : Launch) (Z : State) (a0 : Array Value) (hw : HW Z a0) (ws : List Jvm.Cond) (n : Nat) (h0 : Heap) (n0 : Nat) (Z0 : n0 ≤ h0.size) (hn31 : n < 2 ^ 31) :
    mF l y_26 jdk_65_method_131_code 2 none ws (rmk 0 0 0 0) #[(.int 0), (.int (Int32.ofNat n))] Z h0 (Q_chkL Z n h0 n0) := by
  refine MetFree.of_bodySF (plainFor_of_name pn_6) hisR ?_
  intro p e s m args below meth c s₁ Bd hml0 hP hK
  obtain ⟨rfl, hZ, hh⟩ := hP
  have hx := Bd.exec
  have hby := Bd.bytes
  have hml : c.maxLocals = 2 := hml0
  have hown : s.vm.findClass "java/util/Arrays" = some m.cls := findClass_of_methodNamed Bd.named
  have hnm := (name_of_methodNamed Bd.named Bd.method).1
  have X0 : Stand p l e (rmk 0 0 0 0) s m #[(.int 0), (.int (Int32.ofNat n))] below meth c s₁ [] 0 0 := Stand.of_body Bd
  have e0 : s₁.heap = h0 := by rw [← hh, Bd.state]; rfl
  have N0 := Fr.nil n0
  have pre0 : ∀ t, oS p e below s₁ (mkF m 0 #[vI 0, vI (Int32.ofNat n)] []) t → oS p e below s₁ (entryFrame m #[(.int 0), (.int (Int32.ofNat n))] 2) t := fun t k => castTop (ef_12 m (0 : Int32) (Int32.ofNat n)) k
  obtain ⟨fs, hr, hrun, hended, hW, hsame⟩ := X0.leave (v := none) (fun _ => rfl)
  refine ⟨_, _, pre0 _ ?_, hrun, hended, _, _, rfl, ?_, ⟨_, rfl⟩, hW, hsame.mono (by decide) (by decide)⟩
  · refine XS.iloadN X0.here hx rfl (oh hby D25 0 rfl) rfl ?_
    refine XS.iloadN X0.here hx rfl (oh hby D25 1 rfl) rfl ?_
    refine XS.icmpYes X0.here hx rfl (pc0 := 2) (pc' := 37) rfl (oh hby D25 2 rfl) rfl (flt ((own_nlt (i := n) (n := 0) (Nat.zero_le _) hn31) : ¬ ((Int32.ofNat n) < (0 : Int32)))).2.1 (by decide) (by decide) ?_
    show oS p e below s₁ (mkF m 37 #[vI 0, vI (Int32.ofNat n)] []) _
    exact X0.returnOut hx Bd.returns (oh hby D25 3 rfl) hr
  · show Q_chkL Z n h0 n0 _ s₁.heap _
    rw [e0]
    exact ⟨rfl, N0, rfl⟩
def Q_mmin2 (Z : State) (xa : Int32) (xn : Int32) (h0 : Heap) (n0 : Nat) (v : Option Value) (h : Heap) (L : List Loc) : Prop := (v = some (.int xn)) ∧ (Fr n0 L) ∧ (h = h0)
set_option maxRecDepth 65536 in
set_option maxHeartbeats 40000000 in
theorem rm_mmin2 (l : Launch) (Z : State) (a0 : Array Value) (hw : HW Z a0) (ws : List Jvm.Cond) (xa : Int32) (xn : Int32) (h0 : Heap) (n0 : Nat) (Z0 : n0 ≤ h0.size) (hab : xn < xa) :
    mF l y_27 jdk_29_method_69_code 2 (some .int) ws (rmk 0 0 0 0) #[(.int xa), (.int xn)] Z h0 (Q_mmin2 Z xa xn h0 n0) := by
  refine MetFree.of_bodySF (Jvm.Free.JP.mathPlain rfl (by decide +kernel)) hisR ?_
  intro p e s m args below meth c s₁ Bd hml0 hP hK
  obtain ⟨rfl, hZ, hh⟩ := hP
  have hx := Bd.exec
  have hby := Bd.bytes
  have hml : c.maxLocals = 2 := hml0
  have hown : s.vm.findClass "java/lang/Math" = some m.cls := findClass_of_methodNamed Bd.named
  have hnm := (name_of_methodNamed Bd.named Bd.method).1
  have X0 : Stand p l e (rmk 0 0 0 0) s m #[(.int xa), (.int xn)] below meth c s₁ [] 0 0 := Stand.of_body Bd
  have e0 : s₁.heap = h0 := by rw [← hh, Bd.state]; rfl
  have N0 := Fr.nil n0
  have pre0 : ∀ t, oS p e below s₁ (mkF m 0 #[vI xa, vI xn] []) t → oS p e below s₁ (entryFrame m #[(.int xa), (.int xn)] 2) t := fun t k => castTop (ef_12 m xa xn) k
  obtain ⟨fs, hr, hrun, hended, hW, hsame⟩ := X0.leave (v := some (.int xn)) (fun h => by rw [Bd.returns] at h; cases h)
  refine ⟨_, _, pre0 _ ?_, hrun, hended, _, _, rfl, ?_, ⟨_, rfl⟩, hW, hsame.mono (by decide) (by decide)⟩
  · refine XS.iloadN X0.here hx rfl (oh hby D26 0 rfl) rfl ?_
    refine XS.iloadN X0.here hx rfl (oh hby D26 1 rfl) rfl ?_
    refine XS.icmpYes X0.here hx rfl (pc0 := 2) (pc' := 9) rfl (oh hby D26 2 rfl) rfl (tlt (hab : xn < xa)).2.2.1 (by decide) (by decide) ?_
    refine XS.iloadN X0.here hx rfl (oh hby D26 5 rfl) rfl ?_
    show oS p e below s₁ (mkF m 10 #[vI xa, vI xn] [(.int xn)]) _
    exact retI X0 hx Bd.returns (oh hby D26 6 rfl) hr
  · show Q_mmin2 Z xa xn h0 n0 _ s₁.heap _
    rw [e0]
    exact ⟨rfl, N0, rfl⟩
def Q_mmin1 (Z : State) (xa : Int32) (xd : Int32) (h0 : Heap) (n0 : Nat) (v : Option Value) (h : Heap) (L : List Loc) : Prop := (v = some (.int xa)) ∧ (Fr n0 L) ∧ (h = h0)
set_option maxRecDepth 65536 in
set_option maxHeartbeats 40000000 in
theorem rm_mmin1 (l : Launch) (Z : State) (a0 : Array Value) (hw : HW Z a0) (ws : List Jvm.Cond) (xa : Int32) (xd : Int32) (h0 : Heap) (n0 : Nat) (Z0 : n0 ≤ h0.size) (hab : ¬ (xd < xa)) :
    mF l y_27 jdk_29_method_69_code 2 (some .int) ws (rmk 0 0 0 0) #[(.int xa), (.int xd)] Z h0 (Q_mmin1 Z xa xd h0 n0) := by
  refine MetFree.of_bodySF (Jvm.Free.JP.mathPlain rfl (by decide +kernel)) hisR ?_
  intro p e s m args below meth c s₁ Bd hml0 hP hK
  obtain ⟨rfl, hZ, hh⟩ := hP
  have hx := Bd.exec
  have hby := Bd.bytes
  have hml : c.maxLocals = 2 := hml0
  have hown : s.vm.findClass "java/lang/Math" = some m.cls := findClass_of_methodNamed Bd.named
  have hnm := (name_of_methodNamed Bd.named Bd.method).1
  have X0 : Stand p l e (rmk 0 0 0 0) s m #[(.int xa), (.int xd)] below meth c s₁ [] 0 0 := Stand.of_body Bd
  have e0 : s₁.heap = h0 := by rw [← hh, Bd.state]; rfl
  have N0 := Fr.nil n0
  have pre0 : ∀ t, oS p e below s₁ (mkF m 0 #[vI xa, vI xd] []) t → oS p e below s₁ (entryFrame m #[(.int xa), (.int xd)] 2) t := fun t k => castTop (ef_12 m xa xd) k
  obtain ⟨fs, hr, hrun, hended, hW, hsame⟩ := X0.leave (v := some (.int xa)) (fun h => by rw [Bd.returns] at h; cases h)
  refine ⟨_, _, pre0 _ ?_, hrun, hended, _, _, rfl, ?_, ⟨_, rfl⟩, hW, hsame.mono (by decide) (by decide)⟩
  · refine XS.iloadN X0.here hx rfl (oh hby D26 0 rfl) rfl ?_
    refine XS.iloadN X0.here hx rfl (oh hby D26 1 rfl) rfl ?_
    refine XS.icmpNo X0.here hx rfl (oh hby D26 2 rfl) rfl (flt (hab : ¬ (xd < xa))).2.2.1 ?_
    refine XS.iloadN X0.here hx rfl (oh hby D26 3 rfl) rfl ?_
    refine XS.goto X0.here hx rfl (pc0 := 6) (pc' := 10) rfl (oh hby D26 4 rfl) (by decide) (by decide) ?_
    show oS p e below s₁ (mkF m 10 #[vI xa, vI xd] [(.int xa)]) _
    exact retI X0 hx Bd.returns (oh hby D26 6 rfl) hr
  · show Q_mmin1 Z xa xd h0 n0 _ s₁.heap _
    rw [e0]
    exact ⟨rfl, N0, rfl⟩
theorem pd_15 : parseMethodDescriptor "(II)I" = some ⟨[.int, .int], some .int⟩ := by decide +kernel
def Q_corB (Z : State) (sa : Addr) (m_ : Nat) (ks : ClassId) (L_ : Nat) (vs : List Value) (h0 : Heap) (n0 : Nat) (v : Option Value) (h : Heap) (L : List Loc) : Prop := ∃ (tt : Addr) (kt : ClassId), (v = some (.ref tt)) ∧ (Fr n0 L) ∧ (Keep h0 h ([] : List Addr)) ∧ (h0.size ≤ tt) ∧ (Arv Z h tt kt .byte (Int32.ofNat m_) (vs.take m_) (.int 0))
set_option maxRecDepth 65536 in
set_option maxHeartbeats 40000000 in
theorem rm_corB (l : Launch) (Z : State) (a0 : Array Value) (hw : HW Z a0) (ws : List Jvm.Cond) (sa : Addr) (m_ : Nat) (ks : ClassId) (L_ : Nat) (vs : List Value) (h0 : Heap) (n0 : Nat) (Z0 : n0 ≤ h0.size) (q0 : Arv Z h0 sa ks .byte (Int32.ofNat L_) vs (.int 0)) (hmL : m_ < L_) (hm88 : m_ ≤ 88) (hL2 : L_ ≤ 200) (hvl : vs.length = L_) :
    mF l y_28 jdk_65_method_133_code 5 (some (.array .byte)) ws (rmk 1 1 88 18) #[(.ref sa), (.int 0), (.int (Int32.ofNat m_))] Z h0 (Q_corB Z sa m_ ks L_ vs h0 n0) := by
  refine MetFree.of_bodySF (plainFor_of_name pn_6) hisR ?_
  intro p e s m args below meth c s₁ Bd hml0 hP hK
  obtain ⟨rfl, hZ, hh⟩ := hP
  have hx := Bd.exec
  have hby := Bd.bytes
  have hml : c.maxLocals = 5 := hml0
  have hown : s.vm.findClass "java/util/Arrays" = some m.cls := findClass_of_methodNamed Bd.named
  have hnm := (name_of_methodNamed Bd.named Bd.method).1
  have X0 : Stand p l e (rmk 1 1 88 18) s m #[(.ref sa), (.int 0), (.int (Int32.ofNat m_))] below meth c s₁ [] 0 0 := Stand.of_body Bd
  have e0 : s₁.heap = h0 := by rw [← hh, Bd.state]; rfl
  have N0 := Fr.nil n0
  have pre0 : ∀ t, oS p e below s₁ (mkF m 0 #[vR sa, vI 0, vI (Int32.ofNat m_), .unset, .unset] []) t → oS p e below s₁ (entryFrame m #[(.ref sa), (.int 0), (.int (Int32.ofNat m_))] 5) t := fun t k => castTop (ef_4 m sa (0 : Int32) (Int32.ofNat m_)) k
  obtain ⟨_, _, ⟨T1, L1, k1, n1⟩, -, X1, ⟨Lc1, hQ1, l1, y1, z1⟩, st1⟩ := Jvm.LawKit.callS X0 hx (y := y_26) hown (mvT hZ (ow hw 103 rfl)) (mvT hZ (ow hw 104 rfl)) (mvT hZ (ow hw 98 rfl)) (mvT hZ (ow hw 105 rfl)) (by decide) (backOf (W := 0) (rm_chkL l Z a0 hw [] m_ h0 n0 Z0 (by omega)) hZ (ow hw 105 rfl) (ow hw 98 rfl) (by decide) (by decide)) (g := (mkF m 2 #[vR sa, vI 0, vI (Int32.ofNat m_), .unset, .unset] [(.int (Int32.ofNat m_)), (.int 0)])) rfl (by rw [hml]; rfl) (argsL := [(.int 0), (.int (Int32.ofNat m_))]) (rest := []) (lenOf pd_12 rfl) rfl (by show 2 * 0 + _ ≤ _; exact Nat.le_of_eq rfl) (oh hby D27 2 rfl) (fun _ _ => ⟨rfl, e0, (by decide : 0 + 0 ≤ _), (by decide : 0 + 0 ≤ _)⟩)
  dsimp only [Pt.U, Pt.locs, Pt.cells, Pt.slots] at X1 l1 y1 z1 st1 hQ1
  subst l1 y1 z1
  obtain ⟨rfl, Nq1, e1⟩ := hQ1
  have N1 := Fr.app N0 Nq1
  obtain ⟨T2, h2, ky2, X2, e2, E2, A2, st2⟩ := newP X1 hx hZ (ow hw 16 rfl) e1 (g := (mkF m 10 #[vR sa, vI 0, vI (Int32.ofNat m_), vI (Int32.ofNat m_), .unset] [(.int (Int32.ofNat m_))])) rfl (oh hby D27 8 rfl) rfl ((own_nlt (Nat.zero_le _) (by omega)) : ¬ ((Int32.ofNat m_) < (0 : Int32))) (cap := 88) ((by rw [own_clamp (by omega)]; omega) : (Int32.ofNat m_).toNatClampNeg ≤ 88) (by decide) (by decide) (by decide)
  obtain ⟨b2, g2⟩ : ∃ z, z = h0.size := ⟨_, rfl⟩
  rw [← g2] at A2 st2
  have V2 : Arv Z h2 b2 ky2 .byte (Int32.ofNat m_) [] (.int 0) := Arv.new A2 (own_nlt (Nat.zero_le _) (by omega))
  have U2 : Arv Z h2 b2 ky2 .byte (Int32.ofNat m_) (List.replicate m_ (.int 0)) (.int 0) := V2.pad (pad_rep [] (.int 0) m_)
  have c3 := (q0.ext E2)
  obtain ⟨cl4, Ar4, -, S4, M4, -, -⟩ := id c3
  obtain ⟨_, _, ⟨T5, L5, k5, n5⟩, -, X5, ⟨Lc5, hQ5, l5, y5, z5⟩, st5⟩ := Jvm.LawKit.callS X2 hx (y := y_27) hown (mvT hZ (ow hw 106 rfl)) (mvT hZ (ow hw 107 rfl)) (mvT hZ (ow hw 108 rfl)) (mvT hZ (ow hw 109 rfl)) (by decide) (backOf (W := 4) (rm_mmin2 l Z a0 hw [] (Int32.ofNat L_) (Int32.ofNat m_) h2 n0 (Nat.le_trans Z0 E2.1) ((own_inb hmL (by omega)).2)) hZ (ow hw 109 rfl) (ow hw 108 rfl) (by decide) (by decide)) (g := (mkF m 24 #[vR sa, vI 0, vI (Int32.ofNat m_), vI (Int32.ofNat m_), vR b2] [(.int (Int32.ofNat m_)), (.int (Int32.ofNat L_)), (.int 0), (.ref b2), (.int 0), (.ref sa)])) rfl (by rw [hml]; rfl) (argsL := [(.int (Int32.ofNat L_)), (.int (Int32.ofNat m_))]) (rest := [(.int 0), (.ref b2), (.int 0), (.ref sa)]) (lenOf pd_15 rfl) rfl (by show 2 * 0 + _ ≤ _; exact Nat.le_of_eq rfl) (oh hby D27 19 rfl) (fun _ _ => ⟨rfl, e2, (by decide : 1 + 0 ≤ _), (by decide : 88 + 0 ≤ _)⟩)
  dsimp only [Pt.U, Pt.locs, Pt.cells, Pt.slots] at X5 l5 y5 z5 st5 hQ5
  subst l5 y5 z5
  obtain ⟨rfl, Nq5, e5⟩ := hQ5
  have N5 := Fr.app N1 Nq5
  have ge7 : n0 ≤ b2 := Nat.le_trans Z0 (Nat.le_trans (Nat.le_refl _) (Nat.le_of_eq g2.symm))
  obtain ⟨T6, h6, lc6, X6, e6, N6, K6, fA6, st6⟩ := cpA X5 hx hZ hown (ow hw 110 rfl) (ow hw 113 rfl) (ow hw 111 rfl) (ow hw 112 rfl) e5 c3 U2 (Or.inl ⟨rfl, rfl⟩) (by decide) (by decide) (own_nlt (Nat.zero_le _) (by omega)) (by rw [own_clamp (by omega), own_clamp (by omega)]; show 0 + _ ≤ _; omega) (by rw [own_clamp (by omega)]; exact Nat.le_of_eq (Nat.zero_add _)) rfl (by rw [own_clamp (by omega), List.length_replicate]; exact Nat.le_of_eq (Nat.zero_add _)) N5 ge7 (g := (mkF m 27 #[vR sa, vI 0, vI (Int32.ofNat m_), vI (Int32.ofNat m_), vR b2] [(.int (Int32.ofNat m_)), (.int 0), (.ref b2), (.int 0), (.ref sa)])) rfl (by rw [hml]; rfl) rfl (oh hby D27 20 rfl) (by decide) (W := 0) (by show 2 * 0 + _ ≤ _; exact Nat.le_of_eq rfl) (by decide)
  have R8 : Arv Z h6 b2 ky2 .byte (Int32.ofNat m_) (vs.take m_) (.int 0) := by have q := fA6; rw [own_cutG (by omega) (by omega)] at q; exact q
  obtain ⟨fs, hr, hrun, hended, hW, hsame⟩ := X6.leave (v := some (.ref b2)) (fun h => by rw [Bd.returns] at h; cases h)
  refine ⟨_, _, pre0 _ ?_, hrun, hended, _, _, rfl, ?_, ⟨_, rfl⟩, hW, hsame.mono (by decide) (by decide)⟩
  · refine XS.iloadN X0.here hx rfl (oh hby D27 0 rfl) rfl ?_
    refine XS.iloadN X0.here hx rfl (oh hby D27 1 rfl) rfl ?_
    refine st1 _ ?_
    show oS p e below T1 (mkF m 5 #[vR sa, vI 0, vI (Int32.ofNat m_), .unset, .unset] []) _
    refine XS.iloadN X1.here hx rfl (oh hby D27 3 rfl) rfl ?_
    refine XS.iloadN X1.here hx rfl (oh hby D27 4 rfl) rfl ?_
    refine XS.isub X1.here hx rfl (oh hby D27 5 rfl) rfl ?_
    show oS p e below T1 (mkF m 8 #[vR sa, vI 0, vI (Int32.ofNat m_), .unset, .unset] [(.int ((Int32.ofNat m_) - (0 : Int32)))]) _
    rw [Int32.sub_zero]
    show oS p e below T1 (mkF m 8 #[vR sa, vI 0, vI (Int32.ofNat m_), .unset, .unset] [(.int (Int32.ofNat m_))]) _
    refine XS.istoreN X1.here hx rfl (oh hby D27 6 rfl) rfl (l' := #[vR sa, vI 0, vI (Int32.ofNat m_), vI (Int32.ofNat m_), .unset]) rfl ?_
    refine XS.iloadN X1.here hx rfl (oh hby D27 7 rfl) rfl ?_
    refine st2 _ ?_
    show oS p e below T2 (mkF m 12 #[vR sa, vI 0, vI (Int32.ofNat m_), vI (Int32.ofNat m_), .unset] [(.ref b2)]) _
    refine XS.astore X2.here hx rfl (oh hby D27 9 rfl) rfl rfl (l' := #[vR sa, vI 0, vI (Int32.ofNat m_), vI (Int32.ofNat m_), vR b2]) rfl ?_
    refine XS.aloadN X2.here hx rfl (oh hby D27 10 rfl) rfl rfl ?_
    refine XS.iloadN X2.here hx rfl (oh hby D27 11 rfl) rfl ?_
    refine XS.aload X2.here hx rfl (oh hby D27 12 rfl) rfl rfl ?_
    refine XS.iconst X2.here hx rfl (oh hby D27 13 rfl) ?_
    show oS p e below T2 (mkF m 19 #[vR sa, vI 0, vI (Int32.ofNat m_), vI (Int32.ofNat m_), vR b2] [(.int 0), (.ref b2), (.int 0), (.ref sa)]) _
    refine XS.aloadN X2.here hx rfl (oh hby D27 14 rfl) rfl rfl ?_
    show oS p e below T2 (mkF m 20 #[vR sa, vI 0, vI (Int32.ofNat m_), vI (Int32.ofNat m_), vR b2] [(.ref sa), (.int 0), (.ref b2), (.int 0), (.ref sa)]) _
    refine X2.arraylength hx (by rw [e2]; exact Ar4.1) (State.isArrayOf_alike hZ.alike Ar4.2.1) (g := (mkF m 20 #[vR sa, vI 0, vI (Int32.ofNat m_), vI (Int32.ofNat m_), vR b2] [(.ref sa), (.int 0), (.ref b2), (.int 0), (.ref sa)])) rfl rfl (oh hby D27 15 rfl) _ ?_
    rw [len_of S4 M4]
    show oS p e below T2 (mkF m 21 #[vR sa, vI 0, vI (Int32.ofNat m_), vI (Int32.ofNat m_), vR b2] [(.int (Int32.ofNat L_)), (.int 0), (.ref b2), (.int 0), (.ref sa)]) _
    refine XS.iloadN X2.here hx rfl (oh hby D27 16 rfl) rfl ?_
    refine XS.isub X2.here hx rfl (oh hby D27 17 rfl) rfl ?_
    show oS p e below T2 (mkF m 23 #[vR sa, vI 0, vI (Int32.ofNat m_), vI (Int32.ofNat m_), vR b2] [(.int ((Int32.ofNat L_) - (0 : Int32))), (.int 0), (.ref b2), (.int 0), (.ref sa)]) _
    rw [Int32.sub_zero]
    show oS p e below T2 (mkF m 23 #[vR sa, vI 0, vI (Int32.ofNat m_), vI (Int32.ofNat m_), vR b2] [(.int (Int32.ofNat L_)), (.int 0), (.ref b2), (.int 0), (.ref sa)]) _
    refine XS.iloadN X2.here hx rfl (oh hby D27 18 rfl) rfl ?_
    refine st5 _ ?_
    show oS p e below T5 (mkF m 27 #[vR sa, vI 0, vI (Int32.ofNat m_), vI (Int32.ofNat m_), vR b2] [(.int (Int32.ofNat m_)), (.int 0), (.ref b2), (.int 0), (.ref sa)]) _
    refine st6 _ ?_
    show oS p e below T6 (mkF m 30 #[vR sa, vI 0, vI (Int32.ofNat m_), vI (Int32.ofNat m_), vR b2] []) _
    refine XS.aload X6.here hx rfl (oh hby D27 21 rfl) rfl rfl ?_
    show oS p e below T6 (mkF m 32 #[vR sa, vI 0, vI (Int32.ofNat m_), vI (Int32.ofNat m_), vR b2] [(.ref b2)]) _
    jvm_step X6.here [X6.here.top, hx, (oh hby D27 22 rfl), X6.method', Bd.returns, Value.isRef, FieldType.isReference]
    first | (intro acts; rw [hr _ acts rfl rfl rfl]) | rw [hr _ _ rfl rfl rfl]
    exact Steps.refl _
  · show Q_corB Z sa m_ ks L_ vs h0 n0 _ T6.heap _
    rw [e6]
    exact ⟨b2, ky2, rfl, N6, (((Keep.refl h0 ([] : List Addr)).ext E2).trans K6 (allS (Or.inr (Nat.le_trans (Nat.le_refl _) (Nat.le_of_eq g2.symm))) all0)), (Nat.le_trans (Nat.le_refl _) (Nat.le_of_eq g2.symm)), R8⟩
theorem pd_16 : parseMethodDescriptor "([BII)[B" = some ⟨[(.array .byte), .int, .int], some (.array .byte)⟩ := by decide +kernel
def Q_cor (Z : State) (sa : Addr) (m_ : Nat) (ks : ClassId) (L_ : Nat) (vs : List Value) (h0 : Heap) (n0 : Nat) (v : Option Value) (h : Heap) (L : List Loc) : Prop := ∃ (tt : Addr) (kt : ClassId), (v = some (.ref tt)) ∧ (Fr n0 L) ∧ (Keep h0 h ([] : List Addr)) ∧ (h0.size ≤ tt) ∧ (Arv Z h tt kt .byte (Int32.ofNat m_) (vs.take m_) (.int 0))
set_option maxRecDepth 65536 in
set_option maxHeartbeats 40000000 in
theorem rm_cor (l : Launch) (Z : State) (a0 : Array Value) (hw : HW Z a0) (ws : List Jvm.Cond) (sa : Addr) (m_ : Nat) (ks : ClassId) (L_ : Nat) (vs : List Value) (h0 : Heap) (n0 : Nat) (Z0 : n0 ≤ h0.size) (q0 : Arv Z h0 sa ks .byte (Int32.ofNat L_) vs (.int 0)) (hmL : m_ < L_) (hm88 : m_ ≤ 88) (hL2 : L_ ≤ 200) (hvl : vs.length = L_) :
    mF l y_29 jdk_65_method_132_code 3 (some (.array .byte)) ws (rmk 2 1 88 34) #[(.ref sa), (.int 0), (.int (Int32.ofNat m_))] Z h0 (Q_cor Z sa m_ ks L_ vs h0 n0) := by
  refine MetFree.of_bodySF (plainFor_of_name pn_6) hisR ?_
  intro p e s m args below meth c s₁ Bd hml0 hP hK
  obtain ⟨rfl, hZ, hh⟩ := hP
  have hx := Bd.exec
  have hby := Bd.bytes
  have hml : c.maxLocals = 3 := hml0
  have hown : s.vm.findClass "java/util/Arrays" = some m.cls := findClass_of_methodNamed Bd.named
  have hnm := (name_of_methodNamed Bd.named Bd.method).1
  have X0 : Stand p l e (rmk 2 1 88 34) s m #[(.ref sa), (.int 0), (.int (Int32.ofNat m_))] below meth c s₁ [] 0 0 := Stand.of_body Bd
  have e0 : s₁.heap = h0 := by rw [← hh, Bd.state]; rfl
  have N0 := Fr.nil n0
  have pre0 : ∀ t, oS p e below s₁ (mkF m 0 #[vR sa, vI 0, vI (Int32.ofNat m_)] []) t → oS p e below s₁ (entryFrame m #[(.ref sa), (.int 0), (.int (Int32.ofNat m_))] 3) t := fun t k => castTop (ef_1 m sa (0 : Int32) (Int32.ofNat m_)) k
  obtain ⟨cl1, Ar1, -, S1, M1, -, -⟩ := id q0
  obtain ⟨_, _, ⟨T2, L2, k2, n2⟩, -, X2, ⟨Lc2, hQ2, l2, y2, z2⟩, st2⟩ := Jvm.LawKit.callS X0 hx (y := y_28) hown (mvT hZ (ow hw 100 rfl)) (mvT hZ (ow hw 101 rfl)) (mvT hZ (ow hw 98 rfl)) (mvT hZ (ow hw 102 rfl)) (by decide) (backOf (W := 0) (rm_corB l Z a0 hw [] sa m_ ks L_ vs h0 n0 Z0 q0 hmL hm88 hL2 hvl) hZ (ow hw 102 rfl) (ow hw 98 rfl) (by decide) (by decide)) (g := (mkF m 13 #[vR sa, vI 0, vI (Int32.ofNat m_)] [(.int (Int32.ofNat m_)), (.int 0), (.ref sa)])) rfl (by rw [hml]; rfl) (argsL := [(.ref sa), (.int 0), (.int (Int32.ofNat m_))]) (rest := []) (lenOf pd_16 rfl) rfl (by show 2 * 0 + _ ≤ _; exact Nat.le_of_eq rfl) (oh hby D28 9 rfl) (fun _ _ => ⟨rfl, e0, (by decide : 0 + 1 ≤ _), (by decide : 0 + 88 ≤ _)⟩)
  dsimp only [Pt.U, Pt.locs, Pt.cells, Pt.slots] at X2 l2 y2 z2 st2 hQ2
  subst l2 y2 z2
  obtain ⟨tt_2, kt_2, rfl, Nq2, K2, f2_0, f2_1⟩ := hQ2
  have N2 := Fr.app N0 Nq2
  obtain ⟨fs, hr, hrun, hended, hW, hsame⟩ := X2.leave (v := some (.ref tt_2)) (fun h => by rw [Bd.returns] at h; cases h)
  refine ⟨_, _, pre0 _ ?_, hrun, hended, _, _, rfl, ?_, ⟨_, rfl⟩, hW, hsame.mono (by decide) (by decide)⟩
  · refine XS.iloadN X0.here hx rfl (oh hby D28 0 rfl) rfl ?_
    refine XS.ifNo X0.here hx rfl (oh hby D28 1 rfl) rfl ((if0 _ _).trans (teq ((by decide) : (0 : Int32) = (0 : Int32))).2) ?_
    refine XS.iloadN X0.here hx rfl (oh hby D28 2 rfl) rfl ?_
    refine XS.aloadN X0.here hx rfl (oh hby D28 3 rfl) rfl rfl ?_
    show oS p e below s₁ (mkF m 6 #[vR sa, vI 0, vI (Int32.ofNat m_)] [(.ref sa), (.int (Int32.ofNat m_))]) _
    refine X0.arraylength hx (by rw [e0]; exact Ar1.1) (State.isArrayOf_alike hZ.alike Ar1.2.1) (g := (mkF m 6 #[vR sa, vI 0, vI (Int32.ofNat m_)] [(.ref sa), (.int (Int32.ofNat m_))])) rfl rfl (oh hby D28 4 rfl) _ ?_
    rw [len_of S1 M1]
    show oS p e below s₁ (mkF m 7 #[vR sa, vI 0, vI (Int32.ofNat m_)] [(.int (Int32.ofNat L_)), (.int (Int32.ofNat m_))]) _
    refine XS.icmpNo X0.here hx rfl (oh hby D28 5 rfl) rfl (feq ((fun q => absurd (own_oinj (by omega) (by omega) q) (by omega)) : ¬ ((Int32.ofNat m_) = (Int32.ofNat L_)))).1 ?_
    refine XS.aloadN X0.here hx rfl (oh hby D28 6 rfl) rfl rfl ?_
    refine XS.iloadN X0.here hx rfl (oh hby D28 7 rfl) rfl ?_
    refine XS.iloadN X0.here hx rfl (oh hby D28 8 rfl) rfl ?_
    refine st2 _ ?_
    show oS p e below T2 (mkF m 16 #[vR sa, vI 0, vI (Int32.ofNat m_)] [(.ref tt_2)]) _
    jvm_step X2.here [X2.here.top, hx, (oh hby D28 10 rfl), X2.method', Bd.returns, Value.isRef, FieldType.isReference]
    first | (intro acts; rw [hr _ acts rfl rfl rfl]) | rw [hr _ _ rfl rfl rfl]
    exact Steps.refl _
  · show Q_cor Z sa m_ ks L_ vs h0 n0 _ T2.heap _
    exact ⟨tt_2, kt_2, rfl, N2, ((Keep.refl h0 ([] : List Addr)).trans K2 all0), (Nat.le_trans (Nat.le_refl _) f2_0), f2_1⟩
theorem ef_14 (m : MethodId) (x0 : Addr) (x1 : Int32) : entryFrame m #[(.ref x0), (.int x1)] 3 = mkF m 0 #[vR x0, vI x1, .unset] [] := by first | (simp [entryFrame, mkF, argsToLocals, Value.category]; done) | rfl
def Q_cpO (Z : State) (sa : Addr) (m_ : Nat) (ks : ClassId) (L_ : Nat) (vs : List Value) (h0 : Heap) (n0 : Nat) (v : Option Value) (h : Heap) (L : List Loc) : Prop := ∃ (tt : Addr) (kt : ClassId), (v = some (.ref tt)) ∧ (Fr n0 L) ∧ (Keep h0 h ([] : List Addr)) ∧ (h0.size ≤ tt) ∧ (Arv Z h tt kt .byte (Int32.ofNat m_) (vs ++ (List.replicate (m_ - L_) (Value.int 0))) (.int 0))
set_option maxRecDepth 65536 in
set_option maxHeartbeats 40000000 in
theorem rm_cpO (l : Launch) (Z : State) (a0 : Array Value) (hw : HW Z a0) (ws : List Jvm.Cond) (sa : Addr) (m_ : Nat) (ks : ClassId) (L_ : Nat) (vs : List Value) (h0 : Heap) (n0 : Nat) (Z0 : n0 ≤ h0.size) (q0 : Arv Z h0 sa ks .byte (Int32.ofNat L_) vs (.int 0)) (hLm : L_ < m_) (hm164 : m_ ≤ 164) (hvl : vs.length = L_) :
    mF l y_30 jdk_65_method_121_code 3 (some (.array .byte)) ws (rmk 1 1 164 18) #[(.ref sa), (.int (Int32.ofNat m_))] Z h0 (Q_cpO Z sa m_ ks L_ vs h0 n0) := by
  refine MetFree.of_bodySF (plainFor_of_name pn_6) hisR ?_
  intro p e s m args below meth c s₁ Bd hml0 hP hK
  obtain ⟨rfl, hZ, hh⟩ := hP
  have hx := Bd.exec
  have hby := Bd.bytes
  have hml : c.maxLocals = 3 := hml0
  have hown : s.vm.findClass "java/util/Arrays" = some m.cls := findClass_of_methodNamed Bd.named
  have hnm := (name_of_methodNamed Bd.named Bd.method).1
  have X0 : Stand p l e (rmk 1 1 164 18) s m #[(.ref sa), (.int (Int32.ofNat m_))] below meth c s₁ [] 0 0 := Stand.of_body Bd
  have e0 : s₁.heap = h0 := by rw [← hh, Bd.state]; rfl
  have N0 := Fr.nil n0
  have pre0 : ∀ t, oS p e below s₁ (mkF m 0 #[vR sa, vI (Int32.ofNat m_), .unset] []) t → oS p e below s₁ (entryFrame m #[(.ref sa), (.int (Int32.ofNat m_))] 3) t := fun t k => castTop (ef_14 m sa (Int32.ofNat m_)) k
  obtain ⟨cl1, Ar1, -, S1, M1, -, -⟩ := id q0
  obtain ⟨T2, h2, ky2, X2, e2, E2, A2, st2⟩ := newP X0 hx hZ (ow hw 16 rfl) e0 (g := (mkF m 15 #[vR sa, vI (Int32.ofNat m_), .unset] [(.int (Int32.ofNat m_))])) rfl (oh hby D29 5 rfl) rfl ((own_nlt (Nat.zero_le _) (by omega)) : ¬ ((Int32.ofNat m_) < (0 : Int32))) (cap := 164) ((by rw [own_clamp (by omega)]; omega) : (Int32.ofNat m_).toNatClampNeg ≤ 164) (by decide) (by decide) (by decide)
  obtain ⟨b2, g2⟩ : ∃ z, z = h0.size := ⟨_, rfl⟩
  rw [← g2] at A2 st2
  have V2 : Arv Z h2 b2 ky2 .byte (Int32.ofNat m_) [] (.int 0) := Arv.new A2 (own_nlt (Nat.zero_le _) (by omega))
  have U2 : Arv Z h2 b2 ky2 .byte (Int32.ofNat m_) (List.replicate m_ (.int 0)) (.int 0) := V2.pad (pad_rep [] (.int 0) m_)
  have c3 := (q0.ext E2)
  obtain ⟨cl4, Ar4, -, S4, M4, -, -⟩ := id c3
  obtain ⟨_, _, ⟨T5, L5, k5, n5⟩, -, X5, ⟨Lc5, hQ5, l5, y5, z5⟩, st5⟩ := Jvm.LawKit.callS X2 hx (y := y_27) hown (mvT hZ (ow hw 106 rfl)) (mvT hZ (ow hw 107 rfl)) (mvT hZ (ow hw 108 rfl)) (mvT hZ (ow hw 109 rfl)) (by decide) (backOf (W := 4) (rm_mmin1 l Z a0 hw [] (Int32.ofNat L_) (Int32.ofNat m_) h2 n0 (Nat.le_trans Z0 E2.1) (own_nlt (by omega) (by omega))) hZ (ow hw 109 rfl) (ow hw 108 rfl) (by decide) (by decide)) (g := (mkF m 25 #[vR sa, vI (Int32.ofNat m_), vR b2] [(.int (Int32.ofNat m_)), (.int (Int32.ofNat L_)), (.int 0), (.ref b2), (.int 0), (.ref sa)])) rfl (by rw [hml]; rfl) (argsL := [(.int (Int32.ofNat L_)), (.int (Int32.ofNat m_))]) (rest := [(.int 0), (.ref b2), (.int 0), (.ref sa)]) (lenOf pd_15 rfl) rfl (by show 2 * 0 + _ ≤ _; exact Nat.le_of_eq rfl) (oh hby D29 14 rfl) (fun _ _ => ⟨rfl, e2, (by decide : 1 + 0 ≤ _), (by decide : 164 + 0 ≤ _)⟩)
  dsimp only [Pt.U, Pt.locs, Pt.cells, Pt.slots] at X5 l5 y5 z5 st5 hQ5
  subst l5 y5 z5
  obtain ⟨rfl, Nq5, e5⟩ := hQ5
  have N5 := Fr.app N0 Nq5
  have ge7 : n0 ≤ b2 := Nat.le_trans Z0 (Nat.le_trans (Nat.le_refl _) (Nat.le_of_eq g2.symm))
  obtain ⟨T6, h6, lc6, X6, e6, N6, K6, fA6, st6⟩ := cpA X5 hx hZ hown (ow hw 110 rfl) (ow hw 113 rfl) (ow hw 111 rfl) (ow hw 112 rfl) e5 c3 U2 (Or.inl ⟨rfl, rfl⟩) (by decide) (by decide) (own_nlt (Nat.zero_le _) (by omega)) (by rw [own_clamp (by omega)]; exact Nat.le_of_eq (Nat.zero_add _)) (by rw [own_clamp (by omega), own_clamp (by omega)]; show 0 + _ ≤ _; omega) rfl (by rw [own_clamp (by omega), List.length_replicate]; show 0 + _ ≤ _; omega) N5 ge7 (g := (mkF m 28 #[vR sa, vI (Int32.ofNat m_), vR b2] [(.int (Int32.ofNat L_)), (.int 0), (.ref b2), (.int 0), (.ref sa)])) rfl (by rw [hml]; rfl) rfl (oh hby D29 15 rfl) (by decide) (W := 0) (by show 2 * 0 + _ ≤ _; exact Nat.le_of_eq rfl) (by decide)
  have R8 : Arv Z h6 b2 ky2 .byte (Int32.ofNat m_) (vs ++ (List.replicate (m_ - L_) (Value.int 0))) (.int 0) := by have q := fA6; rw [own_grow hvl (by omega) (by omega)] at q; exact q
  obtain ⟨fs, hr, hrun, hended, hW, hsame⟩ := X6.leave (v := some (.ref b2)) (fun h => by rw [Bd.returns] at h; cases h)
  refine ⟨_, _, pre0 _ ?_, hrun, hended, _, _, rfl, ?_, ⟨_, rfl⟩, hW, hsame.mono (by decide) (by decide)⟩
  · refine XS.iloadN X0.here hx rfl (oh hby D29 0 rfl) rfl ?_
    refine XS.aloadN X0.here hx rfl (oh hby D29 1 rfl) rfl rfl ?_
    show oS p e below s₁ (mkF m 2 #[vR sa, vI (Int32.ofNat m_), .unset] [(.ref sa), (.int (Int32.ofNat m_))]) _
    refine X0.arraylength hx (by rw [e0]; exact Ar1.1) (State.isArrayOf_alike hZ.alike Ar1.2.1) (g := (mkF m 2 #[vR sa, vI (Int32.ofNat m_), .unset] [(.ref sa), (.int (Int32.ofNat m_))])) rfl rfl (oh hby D29 2 rfl) _ ?_
    rw [len_of S1 M1]
    show oS p e below s₁ (mkF m 3 #[vR sa, vI (Int32.ofNat m_), .unset] [(.int (Int32.ofNat L_)), (.int (Int32.ofNat m_))]) _
    refine XS.icmpYes X0.here hx rfl (pc0 := 3) (pc' := 14) rfl (oh hby D29 3 rfl) rfl (feq ((fun q => absurd (own_oinj (by omega) (by omega) q) (by omega)) : ¬ ((Int32.ofNat m_) = (Int32.ofNat L_)))).2 (by decide) (by decide) ?_
    refine XS.iloadN X0.here hx rfl (oh hby D29 4 rfl) rfl ?_
    refine st2 _ ?_
    show oS p e below T2 (mkF m 17 #[vR sa, vI (Int32.ofNat m_), .unset] [(.ref b2)]) _
    refine XS.astoreN X2.here hx rfl (oh hby D29 6 rfl) rfl rfl (l' := #[vR sa, vI (Int32.ofNat m_), vR b2]) rfl ?_
    refine XS.aloadN X2.here hx rfl (oh hby D29 7 rfl) rfl rfl ?_
    refine XS.iconst X2.here hx rfl (oh hby D29 8 rfl) ?_
    refine XS.aloadN X2.here hx rfl (oh hby D29 9 rfl) rfl rfl ?_
    refine XS.iconst X2.here hx rfl (oh hby D29 10 rfl) ?_
    show oS p e below T2 (mkF m 22 #[vR sa, vI (Int32.ofNat m_), vR b2] [(.int 0), (.ref b2), (.int 0), (.ref sa)]) _
    refine XS.aloadN X2.here hx rfl (oh hby D29 11 rfl) rfl rfl ?_
    show oS p e below T2 (mkF m 23 #[vR sa, vI (Int32.ofNat m_), vR b2] [(.ref sa), (.int 0), (.ref b2), (.int 0), (.ref sa)]) _
    refine X2.arraylength hx (by rw [e2]; exact Ar4.1) (State.isArrayOf_alike hZ.alike Ar4.2.1) (g := (mkF m 23 #[vR sa, vI (Int32.ofNat m_), vR b2] [(.ref sa), (.int 0), (.ref b2), (.int 0), (.ref sa)])) rfl rfl (oh hby D29 12 rfl) _ ?_
    rw [len_of S4 M4]
    show oS p e below T2 (mkF m 24 #[vR sa, vI (Int32.ofNat m_), vR b2] [(.int (Int32.ofNat L_)), (.int 0), (.ref b2), (.int 0), (.ref sa)]) _
    refine XS.iloadN X2.here hx rfl (oh hby D29 13 rfl) rfl ?_
    refine st5 _ ?_
    show oS p e below T5 (mkF m 28 #[vR sa, vI (Int32.ofNat m_), vR b2] [(.int (Int32.ofNat L_)), (.int 0), (.ref b2), (.int 0), (.ref sa)]) _
    refine st6 _ ?_
    show oS p e below T6 (mkF m 31 #[vR sa, vI (Int32.ofNat m_), vR b2] []) _
    refine XS.aloadN X6.here hx rfl (oh hby D29 16 rfl) rfl rfl ?_
    show oS p e below T6 (mkF m 32 #[vR sa, vI (Int32.ofNat m_), vR b2] [(.ref b2)]) _
    jvm_step X6.here [X6.here.top, hx, (oh hby D29 17 rfl), X6.method', Bd.returns, Value.isRef, FieldType.isReference]
    first | (intro acts; rw [hr _ acts rfl rfl rfl]) | rw [hr _ _ rfl rfl rfl]
    exact Steps.refl _
  · show Q_cpO Z sa m_ ks L_ vs h0 n0 _ T6.heap _
    rw [e6]
    exact ⟨b2, ky2, rfl, N6, (((Keep.refl h0 ([] : List Addr)).ext E2).trans K6 (allS (Or.inr (Nat.le_trans (Nat.le_refl _) (Nat.le_of_eq g2.symm))) all0)), (Nat.le_trans (Nat.le_refl _) (Nat.le_of_eq g2.symm)), R8⟩
def Q_pcft (Z : State) (n : Nat) (fm : Value) (h0 : Heap) (n0 : Nat) (v : Option Value) (h : Heap) (L : List Loc) : Prop := (v = some (.int 0)) ∧ (Fr n0 L) ∧ (h = h0)
set_option maxRecDepth 65536 in
set_option maxHeartbeats 40000000 in
theorem rm_pcft (l : Launch) (Z : State) (a0 : Array Value) (hw : HW Z a0) (ws : List Jvm.Cond) (n : Nat) (fm : Value) (h0 : Heap) (n0 : Nat) (Z0 : n0 ≤ h0.size) (hFM : fm.isRef = true) (hn40 : 40 ≤ n) (hn31 : n < 2 ^ 31) :
    mF l y_31 jdk_41_method_12_code 4 (some .int) ws (rmk 0 0 0 0) #[(.int 0), (.int 40), (.int (Int32.ofNat n)), fm] Z h0 (Q_pcft Z n fm h0 n0) := by
  refine MetFree.of_bodySF (plainFor_of_name pn_4) hisR ?_
  intro p e s m args below meth c s₁ Bd hml0 hP hK
  obtain ⟨rfl, hZ, hh⟩ := hP
  have hx := Bd.exec
  have hby := Bd.bytes
  have hml : c.maxLocals = 4 := hml0
  have hown : s.vm.findClass "jdk/internal/util/Preconditions" = some m.cls := findClass_of_methodNamed Bd.named
  have hnm := (name_of_methodNamed Bd.named Bd.method).1
  have X0 : Stand p l e (rmk 0 0 0 0) s m #[(.int 0), (.int 40), (.int (Int32.ofNat n)), fm] below meth c s₁ [] 0 0 := Stand.of_body Bd
  have e0 : s₁.heap = h0 := by rw [← hh, Bd.state]; rfl
  have N0 := Fr.nil n0
  have pre0 : ∀ t, oS p e below s₁ (mkF m 0 #[vI 0, vI 40, vI (Int32.ofNat n), .val fm] []) t → oS p e below s₁ (entryFrame m #[(.int 0), (.int 40), (.int (Int32.ofNat n)), fm] 4) t := fun t k => castTop (ef_9 m (0 : Int32) (40 : Int32) (Int32.ofNat n) fm hFM) k
  obtain ⟨fs, hr, hrun, hended, hW, hsame⟩ := X0.leave (v := some (.int 0)) (fun h => by rw [Bd.returns] at h; cases h)
  refine ⟨_, _, pre0 _ ?_, hrun, hended, _, _, rfl, ?_, ⟨_, rfl⟩, hW, hsame.mono (by decide) (by decide)⟩
  · refine XS.iloadN X0.here hx rfl (oh hby D30 0 rfl) rfl ?_
    refine XS.ifNo X0.here hx rfl (oh hby D30 1 rfl) rfl ((if0 _ _).trans (flt ((by decide) : ¬ ((0 : Int32) < (0 : Int32)))).1) ?_
    refine XS.iloadN X0.here hx rfl (oh hby D30 2 rfl) rfl ?_
    refine XS.iloadN X0.here hx rfl (oh hby D30 3 rfl) rfl ?_
    refine XS.icmpNo X0.here hx rfl (oh hby D30 4 rfl) rfl (flt ((by decide) : ¬ ((40 : Int32) < (0 : Int32)))).2.2.1 ?_
    show oS p e below s₁ (mkF m 9 #[vI 0, vI 40, vI (Int32.ofNat n), .val fm] []) _
    refine XS.iloadN X0.here hx rfl (oh hby D30 5 rfl) rfl ?_
    refine XS.iloadN X0.here hx rfl (oh hby D30 6 rfl) rfl ?_
    refine XS.icmpYes X0.here hx rfl (pc0 := 11) (pc' := 22) rfl (oh hby D30 7 rfl) rfl (flt ((own_nlt (n := 40) hn40 hn31) : ¬ ((Int32.ofNat n) < (40 : Int32)))).2.2.2 (by decide) (by decide) ?_
    refine XS.iloadN X0.here hx rfl (oh hby D30 8 rfl) rfl ?_
    show oS p e below s₁ (mkF m 23 #[vI 0, vI 40, vI (Int32.ofNat n), .val fm] [(.int 0)]) _
    exact retI X0 hx Bd.returns (oh hby D30 9 rfl) hr
  · show Q_pcft Z n fm h0 n0 _ s₁.heap _
    rw [e0]
    exact ⟨rfl, N0, rfl⟩
def Q_cbbe (Z : State) (n : Nat) (fm : Value) (h0 : Heap) (n0 : Nat) (v : Option Value) (h : Heap) (L : List Loc) : Prop := (v = none) ∧ (Fr n0 L) ∧ (h = h0)
set_option maxRecDepth 65536 in
set_option maxHeartbeats 40000000 in
theorem rm_cbbe (l : Launch) (Z : State) (a0 : Array Value) (hw : HW Z a0) (ws : List Jvm.Cond) (n : Nat) (fm : Value) (h0 : Heap) (n0 : Nat) (Z0 : n0 ≤ h0.size) (q0 : sF Z fm) (hFM : fm.isRef = true) (q2 : Old Z n0 h0) (hn40 : 40 ≤ n) (hn31 : n < 2 ^ 31) :
    mF l y_32 jdk_42_method_158_code 3 none ws (rmk 1 0 0 15) #[(.int 0), (.int 40), (.int (Int32.ofNat n))] Z h0 (Q_cbbe Z n fm h0 n0) := by
  refine MetFree.of_bodySF (plainFor_of_name pn_1) hisR ?_
  intro p e s m args below meth c s₁ Bd hml0 hP hK
  obtain ⟨rfl, hZ, hh⟩ := hP
  have hx := Bd.exec
  have hby := Bd.bytes
  have hml : c.maxLocals = 3 := hml0
  have hown : s.vm.findClass "java/lang/String" = some m.cls := findClass_of_methodNamed Bd.named
  have hnm := (name_of_methodNamed Bd.named Bd.method).1
  have X0 : Stand p l e (rmk 1 0 0 15) s m #[(.int 0), (.int 40), (.int (Int32.ofNat n))] below meth c s₁ [] 0 0 := Stand.of_body Bd
  have e0 : s₁.heap = h0 := by rw [← hh, Bd.state]; rfl
  have N0 := Fr.nil n0
  have pre0 : ∀ t, oS p e below s₁ (mkF m 0 #[vI 0, vI 40, vI (Int32.ofNat n)] []) t → oS p e below s₁ (entryFrame m #[(.int 0), (.int 40), (.int (Int32.ofNat n))] 3) t := fun t k => castTop (ef_10 m (0 : Int32) (40 : Int32) (Int32.ofNat n)) k
  obtain ⟨T1, X1, e1, st1⟩ := getS2 X0 hx hZ hown (host := "") (Or.inl (ow hw 81 rfl)) Via.refl e0 (q0.ext q2.2) (g := (mkF m 3 #[vI 0, vI 40, vI (Int32.ofNat n)] [(.int (Int32.ofNat n)), (.int 40), (.int 0)])) rfl (oh hby D31 3 rfl)
  obtain ⟨_, _, ⟨T2, L2, k2, n2⟩, -, X2, ⟨Lc2, hQ2, l2, y2, z2⟩, st2⟩ := Jvm.LawKit.callS X1 hx (y := y_31) hown (mvT hZ (ow hw 83 rfl)) (mvT hZ (ow hw 84 rfl)) (mvT hZ (ow hw 82 rfl)) (mvT hZ (ow hw 85 rfl)) (by decide) (backOf (W := 0) (rm_pcft l Z a0 hw [] n fm h0 n0 Z0 hFM hn40 hn31) hZ (ow hw 85 rfl) (ow hw 82 rfl) (by decide) (by decide)) (g := (mkF m 6 #[vI 0, vI 40, vI (Int32.ofNat n)] [fm, (.int (Int32.ofNat n)), (.int 40), (.int 0)])) rfl (by rw [hml]; rfl) (argsL := [(.int 0), (.int 40), (.int (Int32.ofNat n)), fm]) (rest := []) (lenOf pd_9 rfl) rfl (by show 2 * 0 + _ ≤ _; exact Nat.le_of_eq rfl) (oh hby D31 4 rfl) (fun _ _ => ⟨rfl, e1, (by decide : 0 + 0 ≤ _), (by decide : 0 + 0 ≤ _)⟩)
  dsimp only [Pt.U, Pt.locs, Pt.cells, Pt.slots] at X2 l2 y2 z2 st2 hQ2
  subst l2 y2 z2
  obtain ⟨rfl, Nq2, e2⟩ := hQ2
  have N2 := Fr.app N0 Nq2
  obtain ⟨fs, hr, hrun, hended, hW, hsame⟩ := X2.leave (v := none) (fun _ => rfl)
  refine ⟨_, _, pre0 _ ?_, hrun, hended, _, _, rfl, ?_, ⟨_, rfl⟩, hW, hsame.mono (by decide) (by decide)⟩
  · refine XS.iloadN X0.here hx rfl (oh hby D31 0 rfl) rfl ?_
    refine XS.iloadN X0.here hx rfl (oh hby D31 1 rfl) rfl ?_
    refine XS.iloadN X0.here hx rfl (oh hby D31 2 rfl) rfl ?_
    refine st1 _ ?_
    show oS p e below T1 (mkF m 6 #[vI 0, vI 40, vI (Int32.ofNat n)] [fm, (.int (Int32.ofNat n)), (.int 40), (.int 0)]) _
    refine st2 _ ?_
    show oS p e below T2 (mkF m 9 #[vI 0, vI 40, vI (Int32.ofNat n)] [(.int 0)]) _
    refine XS.pop X2.here hx rfl (oh hby D31 5 rfl) rfl rfl ?_
    show oS p e below T2 (mkF m 10 #[vI 0, vI 40, vI (Int32.ofNat n)] []) _
    exact X2.returnOut hx Bd.returns (oh hby D31 6 rfl) hr
  · show Q_cbbe Z n fm h0 n0 _ T2.heap _
    rw [e2]
    exact ⟨rfl, N2, rfl⟩
theorem ef_15 (m : MethodId) (x0 : Addr) (x1 : Addr) (x2 : Int32) : entryFrame m #[(.ref x0), (.ref x1), (.int x2)] 3 = mkF m 0 #[vR x0, vR x1, vI x2] [] := by first | (simp [entryFrame, mkF, argsToLocals, Value.category]; done) | rfl
def Q_strBB0 (Z : State) (xs : Addr) (tt : Addr) (h0 : Heap) (n0 : Nat) (v : Option Value) (h : Heap) (L : List Loc) : Prop := (v = none) ∧ (Fr n0 L) ∧ (Keep h0 h ([xs] : List Addr)) ∧ (fV Z h xs (.ref tt)) ∧ (fC Z h xs (.int 0))
set_option maxRecDepth 65536 in
set_option maxHeartbeats 40000000 in
theorem rm_strBB0 (l : Launch) (Z : State) (a0 : Array Value) (hw : HW Z a0) (ws : List Jvm.Cond) (xs : Addr) (tt : Addr) (h0 : Heap) (n0 : Nat) (Z0 : n0 ≤ h0.size) (q0 : eS Z h0 xs) (q1 : fV Z h0 xs .null) (q2 : fC Z h0 xs (.int 0)) (q3 : n0 ≤ xs) :
    mF l y_33 jdk_42_method_151_code 3 none ws (rmk 1 0 0 12) #[(.ref xs), (.ref tt), (.int 0)] Z h0 (Q_strBB0 Z xs tt h0 n0) := by
  refine MetFree.of_bodySF (plainFor_of_name pn_1) hisR ?_
  intro p e s m args below meth c s₁ Bd hml0 hP hK
  obtain ⟨rfl, hZ, hh⟩ := hP
  have hx := Bd.exec
  have hby := Bd.bytes
  have hml : c.maxLocals = 3 := hml0
  have hown : s.vm.findClass "java/lang/String" = some m.cls := findClass_of_methodNamed Bd.named
  have hnm := (name_of_methodNamed Bd.named Bd.method).1
  have X0 : Stand p l e (rmk 1 0 0 12) s m #[(.ref xs), (.ref tt), (.int 0)] below meth c s₁ [] 0 0 := Stand.of_body Bd
  have e0 : s₁.heap = h0 := by rw [← hh, Bd.state]; rfl
  have N0 := Fr.nil n0
  have pre0 : ∀ t, oS p e below s₁ (mkF m 0 #[vR xs, vR tt, vI 0] []) t → oS p e below s₁ (entryFrame m #[(.ref xs), (.ref tt), (.int 0)] 3) t := fun t k => castTop (ef_15 m xs tt (0 : Int32)) k
  obtain ⟨T1, X1, e1, st1⟩ := initO X0 hx hZ hown (ow hw 12 rfl) (ow hw 13 rfl) (ow hw 14 rfl) e0 (g := (mkF m 1 #[vR xs, vR tt, vI 0] [(.ref xs)])) rfl (by rw [hml]; rfl) rfl (oh hby D32 1 rfl) (by decide) (W := 0) (by show 2 * 0 + _ ≤ _; exact Nat.le_of_eq rfl) (by decide)
  obtain ⟨T2, h2, X2, e2, W2, st2⟩ := putF X1 hx hZ hown (host := "") (Or.inl (ow hw 21 rfl)) Via.refl e1 q1 q0 (Or.inr ⟨(ow hw 17 rfl), rfl, hnm⟩) (ow hw 3 rfl) (ty := (.array .byte)) (by decide) rfl rfl (g := (mkF m 6 #[vR xs, vR tt, vI 0] [(.ref tt), (.ref xs)])) rfl rfl (oh hby D32 4 rfl)
  have N2 := Fr.snoc X2 N0 q3
  have F2 : fV Z h2 xs (.ref tt) := q1.same W2
  have c3 := (q2.other W2 (Or.inr (slot_ne (Or.inr (ow hw 18 rfl)) (Or.inr (ow hw 17 rfl)) (by decide) (t := .byte) (t' := (.array .byte)) (by decide) (by decide))))
  have c4 := (q0.wr W2)
  obtain ⟨T5, h5, X5, e5, W5, st5⟩ := putFN X2 hx hZ hown (ow hw 22 rfl) Via.refl e2 c3 c4 (Or.inr ⟨(ow hw 18 rfl), rfl, hnm⟩) (ow hw 3 rfl) (ty := .byte) (v' := (.int 0)) (by decide) rfl rfl (g := (mkF m 11 #[vR xs, vR tt, vI 0] [(.int 0), (.ref xs)])) rfl rfl (oh hby D32 7 rfl)
  have N5 := Fr.snoc X5 N2 q3
  have F5 : fC Z h5 xs (.int 0) := c3.same W5
  have c6 := (F2.other W5 (Or.inr (slot_ne (Or.inr (ow hw 17 rfl)) (Or.inr (ow hw 18 rfl)) (by decide) (t := (.array .byte)) (t' := .byte) (by decide) (by decide))))
  obtain ⟨fs, hr, hrun, hended, hW, hsame⟩ := X5.leave (v := none) (fun _ => rfl)
  refine ⟨_, _, pre0 _ ?_, hrun, hended, _, _, rfl, ?_, ⟨_, rfl⟩, hW, hsame.mono (by decide) (by decide)⟩
  · refine XS.aloadN X0.here hx rfl (oh hby D32 0 rfl) rfl rfl ?_
    refine st1 _ ?_
    show oS p e below T1 (mkF m 4 #[vR xs, vR tt, vI 0] []) _
    refine XS.aloadN X1.here hx rfl (oh hby D32 2 rfl) rfl rfl ?_
    refine XS.aloadN X1.here hx rfl (oh hby D32 3 rfl) rfl rfl ?_
    refine st2 _ ?_
    show oS p e below T2 (mkF m 9 #[vR xs, vR tt, vI 0] []) _
    refine XS.aloadN X2.here hx rfl (oh hby D32 5 rfl) rfl rfl ?_
    refine XS.iloadN X2.here hx rfl (oh hby D32 6 rfl) rfl ?_
    refine st5 _ ?_
    show oS p e below T5 (mkF m 14 #[vR xs, vR tt, vI 0] []) _
    exact X5.returnOut hx Bd.returns (oh hby D32 8 rfl) hr
  · show Q_strBB0 Z xs tt h0 n0 _ T5.heap _
    rw [e5]
    exact ⟨rfl, N5, (((Keep.refl h0 ([xs] : List Addr)).wr W2 (Or.inl (by simp))).wr W5 (Or.inl (by simp))), c6, F5⟩
def Q_strBB1 (Z : State) (xs : Addr) (tt : Addr) (h0 : Heap) (n0 : Nat) (v : Option Value) (h : Heap) (L : List Loc) : Prop := (v = none) ∧ (Fr n0 L) ∧ (Keep h0 h ([xs] : List Addr)) ∧ (fV Z h xs (.ref tt)) ∧ (fC Z h xs (.int 1))
set_option maxRecDepth 65536 in
set_option maxHeartbeats 40000000 in
theorem rm_strBB1 (l : Launch) (Z : State) (a0 : Array Value) (hw : HW Z a0) (ws : List Jvm.Cond) (xs : Addr) (tt : Addr) (h0 : Heap) (n0 : Nat) (Z0 : n0 ≤ h0.size) (q0 : eS Z h0 xs) (q1 : fV Z h0 xs .null) (q2 : fC Z h0 xs (.int 0)) (q3 : n0 ≤ xs) :
    mF l y_33 jdk_42_method_151_code 3 none ws (rmk 1 0 0 12) #[(.ref xs), (.ref tt), (.int 1)] Z h0 (Q_strBB1 Z xs tt h0 n0) := by
  refine MetFree.of_bodySF (plainFor_of_name pn_1) hisR ?_
  intro p e s m args below meth c s₁ Bd hml0 hP hK
  obtain ⟨rfl, hZ, hh⟩ := hP
  have hx := Bd.exec
  have hby := Bd.bytes
  have hml : c.maxLocals = 3 := hml0
  have hown : s.vm.findClass "java/lang/String" = some m.cls := findClass_of_methodNamed Bd.named
  have hnm := (name_of_methodNamed Bd.named Bd.method).1
  have X0 : Stand p l e (rmk 1 0 0 12) s m #[(.ref xs), (.ref tt), (.int 1)] below meth c s₁ [] 0 0 := Stand.of_body Bd
  have e0 : s₁.heap = h0 := by rw [← hh, Bd.state]; rfl
  have N0 := Fr.nil n0
  have pre0 : ∀ t, oS p e below s₁ (mkF m 0 #[vR xs, vR tt, vI 1] []) t → oS p e below s₁ (entryFrame m #[(.ref xs), (.ref tt), (.int 1)] 3) t := fun t k => castTop (ef_15 m xs tt (1 : Int32)) k
  obtain ⟨T1, X1, e1, st1⟩ := initO X0 hx hZ hown (ow hw 12 rfl) (ow hw 13 rfl) (ow hw 14 rfl) e0 (g := (mkF m 1 #[vR xs, vR tt, vI 1] [(.ref xs)])) rfl (by rw [hml]; rfl) rfl (oh hby D32 1 rfl) (by decide) (W := 0) (by show 2 * 0 + _ ≤ _; exact Nat.le_of_eq rfl) (by decide)
  obtain ⟨T2, h2, X2, e2, W2, st2⟩ := putF X1 hx hZ hown (host := "") (Or.inl (ow hw 21 rfl)) Via.refl e1 q1 q0 (Or.inr ⟨(ow hw 17 rfl), rfl, hnm⟩) (ow hw 3 rfl) (ty := (.array .byte)) (by decide) rfl rfl (g := (mkF m 6 #[vR xs, vR tt, vI 1] [(.ref tt), (.ref xs)])) rfl rfl (oh hby D32 4 rfl)
  have N2 := Fr.snoc X2 N0 q3
  have F2 : fV Z h2 xs (.ref tt) := q1.same W2
  have c3 := (q2.other W2 (Or.inr (slot_ne (Or.inr (ow hw 18 rfl)) (Or.inr (ow hw 17 rfl)) (by decide) (t := .byte) (t' := (.array .byte)) (by decide) (by decide))))
  have c4 := (q0.wr W2)
  obtain ⟨T5, h5, X5, e5, W5, st5⟩ := putFN X2 hx hZ hown (ow hw 22 rfl) Via.refl e2 c3 c4 (Or.inr ⟨(ow hw 18 rfl), rfl, hnm⟩) (ow hw 3 rfl) (ty := .byte) (v' := (.int 1)) (by decide) rfl rfl (g := (mkF m 11 #[vR xs, vR tt, vI 1] [(.int 1), (.ref xs)])) rfl rfl (oh hby D32 7 rfl)
  have N5 := Fr.snoc X5 N2 q3
  have F5 : fC Z h5 xs (.int 1) := c3.same W5
  have c6 := (F2.other W5 (Or.inr (slot_ne (Or.inr (ow hw 17 rfl)) (Or.inr (ow hw 18 rfl)) (by decide) (t := (.array .byte)) (t' := .byte) (by decide) (by decide))))
  obtain ⟨fs, hr, hrun, hended, hW, hsame⟩ := X5.leave (v := none) (fun _ => rfl)
  refine ⟨_, _, pre0 _ ?_, hrun, hended, _, _, rfl, ?_, ⟨_, rfl⟩, hW, hsame.mono (by decide) (by decide)⟩
  · refine XS.aloadN X0.here hx rfl (oh hby D32 0 rfl) rfl rfl ?_
    refine st1 _ ?_
    show oS p e below T1 (mkF m 4 #[vR xs, vR tt, vI 1] []) _
    refine XS.aloadN X1.here hx rfl (oh hby D32 2 rfl) rfl rfl ?_
    refine XS.aloadN X1.here hx rfl (oh hby D32 3 rfl) rfl rfl ?_
    refine st2 _ ?_
    show oS p e below T2 (mkF m 9 #[vR xs, vR tt, vI 1] []) _
    refine XS.aloadN X2.here hx rfl (oh hby D32 5 rfl) rfl rfl ?_
    refine XS.iloadN X2.here hx rfl (oh hby D32 6 rfl) rfl ?_
    refine st5 _ ?_
    show oS p e below T5 (mkF m 14 #[vR xs, vR tt, vI 1] []) _
    exact X5.returnOut hx Bd.returns (oh hby D32 8 rfl) hr
  · show Q_strBB1 Z xs tt h0 n0 _ T5.heap _
    rw [e5]
    exact ⟨rfl, N5, (((Keep.refl h0 ([xs] : List Addr)).wr W2 (Or.inl (by simp))).wr W5 (Or.inl (by simp))), c6, F5⟩
theorem pd_17 : parseMethodDescriptor "([BB)V" = some ⟨[(.array .byte), .byte], none⟩ := by decide +kernel
def Q_nsL (Z : State) (sa : Addr) (ks : ClassId) (cs : List Int32) (h0 : Heap) (n0 : Nat) (v : Option Value) (h : Heap) (L : List Loc) : Prop := ∃ (xr : Addr) (tt : Addr) (kt : ClassId), (v = some (.ref xr)) ∧ (Fr n0 L) ∧ (Keep h0 h ([] : List Addr)) ∧ (h0.size ≤ xr) ∧ (h0.size ≤ tt) ∧ (eS Z h xr) ∧ (fV Z h xr (.ref tt)) ∧ (fC Z h xr (.int 0)) ∧ (Arv Z h tt kt .byte (40 : Int32) (own_bs (cs.take 40)) (.int 0))
set_option maxRecDepth 65536 in
set_option maxHeartbeats 40000000 in
theorem rm_nsL (l : Launch) (Z : State) (a0 : Array Value) (hw : HW Z a0) (ws : List Jvm.Cond) (sa : Addr) (ks : ClassId) (cs : List Int32) (h0 : Heap) (n0 : Nat) (Z0 : n0 ≤ h0.size) (q0 : Arv Z h0 sa ks .byte (Int32.ofNat cs.length) (own_bs cs) (.int 0)) (hG40 : 40 < cs.length) (hG44 : cs.length ≤ 44) :
    mF l y_34 jdk_43_method_47_code 3 (some (.object "java/lang/String")) ws (rmk 3 2 92 50) #[(.ref sa), (.int 0), (.int 40)] Z h0 (Q_nsL Z sa ks cs h0 n0) := by
  refine MetFree.of_bodySF (plainFor_of_name pn_5) hisR ?_
  intro p e s m args below meth c s₁ Bd hml0 hP hK
  obtain ⟨rfl, hZ, hh⟩ := hP
  have hx := Bd.exec
  have hby := Bd.bytes
  have hml : c.maxLocals = 3 := hml0
  have hown : s.vm.findClass "java/lang/StringLatin1" = some m.cls := findClass_of_methodNamed Bd.named
  have hnm := (name_of_methodNamed Bd.named Bd.method).1
  have X0 : Stand p l e (rmk 3 2 92 50) s m #[(.ref sa), (.int 0), (.int 40)] below meth c s₁ [] 0 0 := Stand.of_body Bd
  have e0 : s₁.heap = h0 := by rw [← hh, Bd.state]; rfl
  have N0 := Fr.nil n0
  have pre0 : ∀ t, oS p e below s₁ (mkF m 0 #[vR sa, vI 0, vI 40] []) t → oS p e below s₁ (entryFrame m #[(.ref sa), (.int 0), (.int 40)] 3) t := fun t k => castTop (ef_1 m sa (0 : Int32) (40 : Int32)) k
  obtain ⟨T1, h1, X1, e1, E1, A1, D1, -, st1⟩ := newO X0 hx hZ hown (ow hw 95 rfl) (ow hw 3 rfl) (ow hw 4 rfl) e0 (g := (mkF m 7 #[vR sa, vI 0, vI 40] [])) rfl (oh hby D33 2 rfl) (by decide) (by decide)
  obtain ⟨b1, g1⟩ : ∃ z, z = h0.size := ⟨_, rfl⟩
  rw [← g1] at A1 D1 st1
  have D1_value : fV Z h1 b1 .null := D1 (Or.inr (ow hw 17 rfl)) (ty := (.array .byte)) (by decide)
  have D1_coder : fC Z h1 b1 (.int 0) := D1 (Or.inr (ow hw 18 rfl)) (ty := .byte) (by decide)
  have c2 := (q0.ext E1)
  obtain ⟨_, _, ⟨T3, L3, k3, n3⟩, -, X3, ⟨Lc3, hQ3, l3, y3, z3⟩, st3⟩ := Jvm.LawKit.callS X1 hx (y := y_29) hown (mvT hZ (ow hw 96 rfl)) (mvT hZ (ow hw 97 rfl)) (mvT hZ (ow hw 98 rfl)) (mvT hZ (ow hw 99 rfl)) (by decide) (backOf (W := 2) (rm_cor l Z a0 hw [] sa 40 ks cs.length (own_bs cs) h1 n0 (Nat.le_trans Z0 E1.1) c2 (hG40) (by decide) (by omega) (own_bsl cs)) hZ (ow hw 99 rfl) (ow hw 98 rfl) (by decide) (by decide)) (g := (mkF m 16 #[vR sa, vI 0, vI 40] [(.int 40), (.int 0), (.ref sa), (.ref b1), (.ref b1)])) rfl (by rw [hml]; rfl) (argsL := [(.ref sa), (.int 0), (.int 40)]) (rest := [(.ref b1), (.ref b1)]) (lenOf pd_16 rfl) rfl (by show 2 * 0 + _ ≤ _; exact Nat.le_of_eq rfl) (oh hby D33 9 rfl) (fun _ _ => ⟨rfl, e1, (by decide : 1 + 1 ≤ _), (by decide : 4 + 88 ≤ _)⟩)
  dsimp only [Pt.U, Pt.locs, Pt.cells, Pt.slots] at X3 l3 y3 z3 st3 hQ3
  subst l3 y3 z3
  obtain ⟨tt_3, kt_3, rfl, Nq3, K3, f3_0, f3_1⟩ := hQ3
  have N3 := Fr.app N0 Nq3
  have R4 : Arv Z T3.heap tt_3 kt_3 .byte (40 : Int32) (own_bs (cs.take 40)) (.int 0) := by have q := f3_1; rw [own_bstake] at q; exact q
  have c5 := (A1.keep K3)
  have c6 := (D1_value.keep K3 nin0)
  have c7 := (D1_coder.keep K3 nin0)
  have ge8 : n0 ≤ b1 := Nat.le_trans Z0 (Nat.le_trans (Nat.le_refl _) (Nat.le_of_eq g1.symm))
  obtain ⟨_, _, ⟨T9, L9, k9, n9⟩, -, X9, ⟨Lc9, hQ9, l9, y9, z9⟩, st9⟩ := X3.specialBack hx (y := y_33) rfl hown (mvT hZ (ow hw 114 rfl)) (mvT hZ (ow hw 115 rfl)) (mvT hZ (ow hw 116 rfl)) (by decide) (backOf (W := 1) (rm_strBB0 l Z a0 hw [] b1 tt_3 T3.heap n0 (Nat.le_trans Z0 (Nat.le_trans E1.1 K3.1)) c5 c6 c7 ge8) hZ (ow hw 116 rfl) (ow hw 4 rfl) (by decide) (by decide)) (g := (mkF m 20 #[vR sa, vI 0, vI 40] [(.int 0), (.ref tt_3), (.ref b1), (.ref b1)])) rfl (by rw [hml]; rfl) (Steps.refl _) (a := b1) (argsL := [(.ref tt_3), (.int 0)]) (rest := [(.ref b1)]) (lenOf pd_17 rfl) rfl (by show 2 * 0 + _ ≤ _; exact Nat.le_of_eq rfl) (oh hby D33 11 rfl) (fun _ _ => ⟨rfl, rfl, (by decide : 2 + 0 ≤ _), (by decide : 92 + 0 ≤ _)⟩)
  dsimp only [Pt.U, Pt.locs, Pt.cells, Pt.slots] at X9 l9 y9 z9 st9 hQ9
  subst l9 y9 z9
  obtain ⟨rfl, Nq9, K9, f9_0, f9_1⟩ := hQ9
  have N9 := Fr.app N3 Nq9
  have ne10 : b1 ≠ tt_3 := Nat.ne_of_lt (Nat.lt_of_lt_of_le A1.lt f3_0)
  have c11 := (R4.keep K9 (ninS (Ne.symm ne10) nin0))
  have c12 := (c5.keep K9)
  obtain ⟨fs, hr, hrun, hended, hW, hsame⟩ := X9.leave (v := some (.ref b1)) (fun h => by rw [Bd.returns] at h; cases h)
  refine ⟨_, _, pre0 _ ?_, hrun, hended, _, _, rfl, ?_, ⟨_, rfl⟩, hW, hsame.mono (by decide) (by decide)⟩
  · refine XS.iloadN X0.here hx rfl (oh hby D33 0 rfl) rfl ?_
    refine XS.ifYes X0.here hx rfl (pc0 := 1) (pc' := 7) rfl (oh hby D33 1 rfl) rfl ((if0 _ _).trans (feq ((by decide) : ¬ ((40 : Int32) = (0 : Int32)))).2) (by decide) (by decide) ?_
    refine st1 _ ?_
    show oS p e below T1 (mkF m 10 #[vR sa, vI 0, vI 40] [(.ref b1)]) _
    refine XS.dup X1.here hx rfl (oh hby D33 3 rfl) rfl rfl ?_
    refine XS.aloadN X1.here hx rfl (oh hby D33 4 rfl) rfl rfl ?_
    refine XS.iloadN X1.here hx rfl (oh hby D33 5 rfl) rfl ?_
    refine XS.iloadN X1.here hx rfl (oh hby D33 6 rfl) rfl ?_
    refine XS.iloadN X1.here hx rfl (oh hby D33 7 rfl) rfl ?_
    show oS p e below T1 (mkF m 15 #[vR sa, vI 0, vI 40] [(.int 40), (.int 0), (.int 0), (.ref sa), (.ref b1), (.ref b1)]) _
    refine XS.iadd X1.here hx rfl (oh hby D33 8 rfl) rfl ?_
    refine st3 _ ?_
    show oS p e below T3 (mkF m 19 #[vR sa, vI 0, vI 40] [(.ref tt_3), (.ref b1), (.ref b1)]) _
    refine XS.iconst X3.here hx rfl (oh hby D33 10 rfl) ?_
    refine st9.trans ?_
    show oS p e below T9 (mkF m 23 #[vR sa, vI 0, vI 40] [(.ref b1)]) _
    jvm_step X9.here [X9.here.top, hx, (oh hby D33 12 rfl), X9.method', Bd.returns, Value.isRef, FieldType.isReference]
    first | (intro acts; rw [hr _ acts rfl rfl rfl]) | rw [hr _ _ rfl rfl rfl]
    exact Steps.refl _
  · show Q_nsL Z sa ks cs h0 n0 _ T9.heap _
    exact ⟨b1, tt_3, kt_3, rfl, N9, ((((Keep.refl h0 ([] : List Addr)).ext E1).trans K3 all0).trans K9 (allS (Or.inr (Nat.le_trans (Nat.le_refl _) (Nat.le_of_eq g1.symm))) all0)), (Nat.le_trans (Nat.le_refl _) (Nat.le_of_eq g1.symm)), (Nat.le_trans E1.1 f3_0), c12, f9_0, f9_1, c11⟩
theorem pd_18 : parseMethodDescriptor "(III)I" = some ⟨[.int, .int, .int], some .int⟩ := by decide +kernel
theorem ef_16 (m : MethodId) (x0 : Int32) (x1 : Int32) (x2 : Addr) : entryFrame m #[(.int x0), (.int x1), (.ref x2)] 3 = mkF m 0 #[vI x0, vI x1, vR x2] [] := by first | (simp [entryFrame, mkF, argsToLocals, Value.category]; done) | rfl
def Q_ucbo (Z : State) (o : Nat) (n : Nat) (dd : Addr) (kd : ClassId) (nl : Nat) (vs : List Value) (fm : Value) (h0 : Heap) (n0 : Nat) (v : Option Value) (h : Heap) (L : List Loc) : Prop := (v = none) ∧ (Fr n0 L) ∧ (h = h0)
set_option maxRecDepth 65536 in
set_option maxHeartbeats 40000000 in
theorem rm_ucbo (l : Launch) (Z : State) (a0 : Array Value) (hw : HW Z a0) (ws : List Jvm.Cond) (o : Nat) (n : Nat) (dd : Addr) (kd : ClassId) (nl : Nat) (vs : List Value) (fm : Value) (h0 : Heap) (n0 : Nat) (Z0 : n0 ≤ h0.size) (q0 : sF Z fm) (hFM : fm.isRef = true) (q2 : Old Z n0 h0) (q3 : Arv Z h0 dd kd .byte (Int32.ofNat (2 * nl)) vs (.int 0)) (hon : o + n ≤ nl) (hnl : nl ≤ 4000) :
    mF l y_35 jdk_52_method_94_code 3 none ws (rmk 2 0 0 29) #[(.int (Int32.ofNat o)), (.int (Int32.ofNat n)), (.ref dd)] Z h0 (Q_ucbo Z o n dd kd nl vs fm h0 n0) := by
  refine MetFree.of_bodySF (plainFor_of_name pn_0) hisR ?_
  intro p e s m args below meth c s₁ Bd hml0 hP hK
  obtain ⟨rfl, hZ, hh⟩ := hP
  have hx := Bd.exec
  have hby := Bd.bytes
  have hml : c.maxLocals = 3 := hml0
  have hown : s.vm.findClass "java/lang/StringUTF16" = some m.cls := findClass_of_methodNamed Bd.named
  have hnm := (name_of_methodNamed Bd.named Bd.method).1
  have X0 : Stand p l e (rmk 2 0 0 29) s m #[(.int (Int32.ofNat o)), (.int (Int32.ofNat n)), (.ref dd)] below meth c s₁ [] 0 0 := Stand.of_body Bd
  have e0 : s₁.heap = h0 := by rw [← hh, Bd.state]; rfl
  have N0 := Fr.nil n0
  have pre0 : ∀ t, oS p e below s₁ (mkF m 0 #[vI (Int32.ofNat o), vI (Int32.ofNat n), vR dd] []) t → oS p e below s₁ (entryFrame m #[(.int (Int32.ofNat o)), (.int (Int32.ofNat n)), (.ref dd)] 3) t := fun t k => castTop (ef_16 m (Int32.ofNat o) (Int32.ofNat n) dd) k
  obtain ⟨_, _, ⟨T1, L1, k1, n1⟩, -, X1, ⟨Lc1, hQ1, l1, y1, z1⟩, st1⟩ := Jvm.LawKit.callS X0 hx (y := y_18) hown (mvT hZ (ow hw 248 rfl)) (mvT hZ (ow hw 249 rfl)) (mvT hZ (ow hw 46 rfl)) (mvT hZ (ow hw 250 rfl)) (by decide) (backOf (W := 2) (rm_ulen l Z a0 hw [] dd kd nl vs h0 n0 Z0 q3 (hnl)) hZ (ow hw 250 rfl) (ow hw 46 rfl) (by decide) (by decide)) (g := (mkF m 3 #[vI (Int32.ofNat o), vI (Int32.ofNat n), vR dd] [(.ref dd), (.int (Int32.ofNat n)), (.int (Int32.ofNat o))])) rfl (by rw [hml]; rfl) (argsL := [(.ref dd)]) (rest := [(.int (Int32.ofNat n)), (.int (Int32.ofNat o))]) (lenOf pd_11 rfl) rfl (by show 2 * 0 + _ ≤ _; exact Nat.le_of_eq rfl) (oh hby D34 3 rfl) (fun _ _ => ⟨rfl, e0, (by decide : 0 + 0 ≤ _), (by decide : 0 + 0 ≤ _)⟩)
  dsimp only [Pt.U, Pt.locs, Pt.cells, Pt.slots] at X1 l1 y1 z1 st1 hQ1
  subst l1 y1 z1
  obtain ⟨rfl, Nq1, e1⟩ := hQ1
  have N1 := Fr.app N0 Nq1
  obtain ⟨_, _, ⟨T2, L2, k2, n2⟩, -, X2, ⟨Lc2, hQ2, l2, y2, z2⟩, st2⟩ := Jvm.LawKit.callS X1 hx (y := y_17) hown (mvT hZ (ow hw 251 rfl)) (mvT hZ (ow hw 252 rfl)) (mvT hZ (ow hw 4 rfl)) (mvT hZ (ow hw 253 rfl)) (by decide) (backOf (W := 0) (rm_cboc l Z a0 hw [] o n nl fm h0 n0 Z0 q0 hFM q2 hon (by omega)) hZ (ow hw 253 rfl) (ow hw 4 rfl) (by decide) (by decide)) (g := (mkF m 6 #[vI (Int32.ofNat o), vI (Int32.ofNat n), vR dd] [(.int (Int32.ofNat nl)), (.int (Int32.ofNat n)), (.int (Int32.ofNat o))])) rfl (by rw [hml]; rfl) (argsL := [(.int (Int32.ofNat o)), (.int (Int32.ofNat n)), (.int (Int32.ofNat nl))]) (rest := []) (lenOf pd_18 rfl) rfl (by show 2 * 0 + _ ≤ _; exact Nat.le_of_eq rfl) (oh hby D34 4 rfl) (fun _ _ => ⟨rfl, e1, (by decide : 0 + 0 ≤ _), (by decide : 0 + 0 ≤ _)⟩)
  dsimp only [Pt.U, Pt.locs, Pt.cells, Pt.slots] at X2 l2 y2 z2 st2 hQ2
  subst l2 y2 z2
  obtain ⟨rfl, Nq2, e2⟩ := hQ2
  have N2 := Fr.app N1 Nq2
  obtain ⟨fs, hr, hrun, hended, hW, hsame⟩ := X2.leave (v := none) (fun _ => rfl)
  refine ⟨_, _, pre0 _ ?_, hrun, hended, _, _, rfl, ?_, ⟨_, rfl⟩, hW, hsame.mono (by decide) (by decide)⟩
  · refine XS.iloadN X0.here hx rfl (oh hby D34 0 rfl) rfl ?_
    refine XS.iloadN X0.here hx rfl (oh hby D34 1 rfl) rfl ?_
    refine XS.aloadN X0.here hx rfl (oh hby D34 2 rfl) rfl rfl ?_
    refine st1 _ ?_
    show oS p e below T1 (mkF m 6 #[vI (Int32.ofNat o), vI (Int32.ofNat n), vR dd] [(.int (Int32.ofNat nl)), (.int (Int32.ofNat n)), (.int (Int32.ofNat o))]) _
    refine st2 _ ?_
    show oS p e below T2 (mkF m 9 #[vI (Int32.ofNat o), vI (Int32.ofNat n), vR dd] [(.int (Int32.ofNat o))]) _
    refine XS.pop X2.here hx rfl (oh hby D34 5 rfl) rfl rfl ?_
    show oS p e below T2 (mkF m 10 #[vI (Int32.ofNat o), vI (Int32.ofNat n), vR dd] []) _
    exact X2.returnOut hx Bd.returns (oh hby D34 6 rfl) hr
  · show Q_ucbo Z o n dd kd nl vs fm h0 n0 _ T2.heap _
    rw [e2]
    exact ⟨rfl, N2, rfl⟩
set_option maxRecDepth 65536 in
set_option maxHeartbeats 40000000 in
theorem lp_cbw {p : Program} {l : Launch} {e : Env} {R : Room} {s : State} {m : MethodId} {args : Array Value} {below : List Frame} {meth : Method} {c : Code} {cells slots : Nat} {Z : State} {a0 : Array Value} {n0 : Nat} (sa : Addr) (ks : ClassId) (cs : List Int32) (dd : Addr) (kd : ClassId) (rr : Nat) (hx : p.tables.exec = Jvm.exec) (hZ : Z.Warmed39 s.vm) (hw : HW Z a0) (hby : c.code = jdk_52_method_22_code) (hml : c.maxLocals = 7) (hown : s.vm.findClass "java/lang/StringUTF16" = some m.cls) (hcl : cells ≤ R.cells) (hsl : slots ≤ R.slots) (hfr : 1 ≤ R.frames) (hlo : 13 ≤ R.locals) (hy0 : sA Z) (hy1 : sH Z) (hy2 : sL Z) (hy3 : n0 ≤ dd) (hy4 : sa ≠ dd) (hWs : ∀ c ∈ cs, own_W c) (hc44 : cs.length ≤ 44) (hG40 : 40 < cs.length) (hrn : rr < 40) (hwide : (255 : Int32) < cs.getD rr 0) (hlow : ∀ q, q < rr → ¬ (255 : Int32) < cs.getD q 0) :
    ∀ (k : Nat) (i : Nat) (vs : List Value) (z6 : Slot) (T0 : State) (h0 : Heap) (locs : List Loc), Stand p l e R s m args below meth c T0 locs cells slots → T0.heap = h0 → Fr n0 locs → n0 ≤ h0.size → Arv Z h0 sa ks .byte (Int32.ofNat (2 * cs.length)) (StrChars.Road.wideBytes cs) (.int 0) → Arv Z h0 dd kd .byte (40 : Int32) vs (.int 0) → Old Z n0 h0 → (One z6) → (vs.length = 40) → (i + k = rr) → ∃ (T' : State) (h' : Heap) (locs' : List Loc), Stand p l e R s m args below meth c T' locs' cells slots ∧ T'.heap = h' ∧ Fr n0 locs' ∧ Keep h0 h' ([dd] : List Addr) ∧ ∀ t, Steps p.tables e below (T'.setTop (mkF m 34 #[vR sa, vI (Int32.ofNat rr), vR dd, vI (Int32.ofNat rr), vI 40, vI (Int32.ofNat rr), vI (cs.getD rr 0)] [(.int (Int32.ofNat rr))])) t → oS p e below T0 (mkF m 10 #[vR sa, vI (Int32.ofNat i), vR dd, vI (Int32.ofNat i), vI 40, vI (Int32.ofNat i), z6] []) t := by
  intro k
  induction k with
  | zero =>
    intro i vs z6 T0 h0 locs X0 e0 N0 Z0 q0 q1 q2 hz6 hvl hik
    have pre0 : ∀ t, oS p e below T0 (mkF m 10 #[vR sa, vI (Int32.ofNat i), vR dd, vI (Int32.ofNat i), vI 40, vI (Int32.ofNat i), z6] []) t → oS p e below T0 (mkF m 10 #[vR sa, vI (Int32.ofNat i), vR dd, vI (Int32.ofNat i), vI 40, vI (Int32.ofNat i), z6] []) t := fun _ kk => kk
    have hi2 : i = rr := by omega
    have hil : i < cs.length := by omega
    have hci := hWs _ (own_getmem hil)
    have hwd : (255 : Int32) < cs.getD i 0 := by rw [hi2]; exact hwide
    obtain ⟨_, _, ⟨T1, L1, k1, n1⟩, -, X1, ⟨Lc1, hQ1, l1, y1, z1⟩, st1⟩ := Jvm.LawKit.callS X0 hx (y := y_2) hown (mvT hZ (ow hw 232 rfl)) (mvT hZ (ow hw 233 rfl)) (mvT hZ (ow hw 46 rfl)) (mvT hZ (ow hw 234 rfl)) (by decide) (backOf (W := 0) (rm_getCh l Z a0 hw [] sa i (cs.getD i 0) ks (2 * cs.length) (StrChars.Road.wideBytes cs) h0 n0 Z0 hy0 hy1 hy2 q2 q0 (by omega) (by omega) (StrChars.Road.wide_lo _ _ _ hil) (StrChars.Road.wide_hi _ _ _ hil) (hci.1) (hci.2)) hZ (ow hw 234 rfl) (ow hw 46 rfl) (Nat.le_trans (by decide) hfr) (Nat.le_trans (by decide) hlo)) (g := (mkF m 19 #[vR sa, vI (Int32.ofNat i), vR dd, vI (Int32.ofNat i), vI 40, vI (Int32.ofNat i), z6] [(.int (Int32.ofNat i)), (.ref sa)])) rfl (by rw [hml]; rfl) (argsL := [(.ref sa), (.int (Int32.ofNat i))]) (rest := []) (lenOf pd_5 rfl) rfl (by show 2 * 0 + _ ≤ _; exact Nat.le_of_eq rfl) (oh hby D35 11 rfl) (fun _ _ => ⟨rfl, e0, hcl, hsl⟩)
    dsimp only [Pt.U, Pt.locs, Pt.cells, Pt.slots] at X1 l1 y1 z1 st1 hQ1
    subst l1 y1 z1
    obtain ⟨rfl, Nq1, e1⟩ := hQ1
    have N1 := Fr.app N0 Nq1
    have pre2 : ∀ t, oS p e below T1 (mkF m 34 #[vR sa, vI (Int32.ofNat i), vR dd, vI (Int32.ofNat i), vI 40, vI (Int32.ofNat i), vI (cs.getD i 0)] [(.int (Int32.ofNat i))]) t → oS p e below T0 (mkF m 10 #[vR sa, vI (Int32.ofNat i), vR dd, vI (Int32.ofNat i), vI 40, vI (Int32.ofNat i), z6] []) t := fun t kk => pre0 t (by
      refine XS.iload X0.here hx rfl (oh hby D35 6 rfl) rfl ?_
      refine XS.iload X0.here hx rfl (oh hby D35 7 rfl) rfl ?_
      refine XS.icmpNo X0.here hx rfl (oh hby D35 8 rfl) rfl (tlt ((own_inb (n := 40) (by omega) (by omega)).2 : (Int32.ofNat i) < (40 : Int32))).2.1 ?_
      refine XS.aloadN X0.here hx rfl (oh hby D35 9 rfl) rfl rfl ?_
      refine XS.iloadN X0.here hx rfl (oh hby D35 10 rfl) rfl ?_
      show oS p e below T0 (mkF m 19 #[vR sa, vI (Int32.ofNat i), vR dd, vI (Int32.ofNat i), vI 40, vI (Int32.ofNat i), z6] [(.int (Int32.ofNat i)), (.ref sa)]) _
      refine st1 _ ?_
      show oS p e below T1 (mkF m 22 #[vR sa, vI (Int32.ofNat i), vR dd, vI (Int32.ofNat i), vI 40, vI (Int32.ofNat i), z6] [(.int (cs.getD i 0))]) _
      refine XS.istoreS X1.here hx rfl (oh hby D35 12 rfl) rfl rfl hz6 ?_
      refine XS.iload X1.here hx rfl (oh hby D35 13 rfl) rfl ?_
      refine XS.sipush X1.here hx rfl (oh hby D35 14 rfl) ?_
      refine XS.icmpNo X1.here hx rfl (oh hby D35 15 rfl) rfl (tlt (hwd : (255 : Int32) < (cs.getD i 0))).2.2.2 ?_
      refine XS.iload X1.here hx rfl (oh hby D35 16 rfl) rfl ?_
      show oS p e below T1 (mkF m 34 #[vR sa, vI (Int32.ofNat i), vR dd, vI (Int32.ofNat i), vI 40, vI (Int32.ofNat i), vI (cs.getD i 0)] [(.int (Int32.ofNat i))]) _
      exact kk)
    exact ⟨T1, h0, _, X1, e1, N1, (Keep.refl h0 ([dd] : List Addr)), (by rw [← hi2]; exact pre2)⟩
  | succ k ih =>
    intro i vs z6 T0 h0 locs X0 e0 N0 Z0 q0 q1 q2 hz6 hvl hik
    have pre0 : ∀ t, oS p e below T0 (mkF m 10 #[vR sa, vI (Int32.ofNat i), vR dd, vI (Int32.ofNat i), vI 40, vI (Int32.ofNat i), z6] []) t → oS p e below T0 (mkF m 10 #[vR sa, vI (Int32.ofNat i), vR dd, vI (Int32.ofNat i), vI 40, vI (Int32.ofNat i), z6] []) t := fun _ kk => kk
    have hil : i < cs.length := by omega
    have hci := hWs _ (own_getmem hil)
    have hlw := hlow i (by omega)
    obtain ⟨_, _, ⟨T1, L1, k1, n1⟩, -, X1, ⟨Lc1, hQ1, l1, y1, z1⟩, st1⟩ := Jvm.LawKit.callS X0 hx (y := y_2) hown (mvT hZ (ow hw 232 rfl)) (mvT hZ (ow hw 233 rfl)) (mvT hZ (ow hw 46 rfl)) (mvT hZ (ow hw 234 rfl)) (by decide) (backOf (W := 0) (rm_getCh l Z a0 hw [] sa i (cs.getD i 0) ks (2 * cs.length) (StrChars.Road.wideBytes cs) h0 n0 Z0 hy0 hy1 hy2 q2 q0 (by omega) (by omega) (StrChars.Road.wide_lo _ _ _ hil) (StrChars.Road.wide_hi _ _ _ hil) (hci.1) (hci.2)) hZ (ow hw 234 rfl) (ow hw 46 rfl) (Nat.le_trans (by decide) hfr) (Nat.le_trans (by decide) hlo)) (g := (mkF m 19 #[vR sa, vI (Int32.ofNat i), vR dd, vI (Int32.ofNat i), vI 40, vI (Int32.ofNat i), z6] [(.int (Int32.ofNat i)), (.ref sa)])) rfl (by rw [hml]; rfl) (argsL := [(.ref sa), (.int (Int32.ofNat i))]) (rest := []) (lenOf pd_5 rfl) rfl (by show 2 * 0 + _ ≤ _; exact Nat.le_of_eq rfl) (oh hby D35 11 rfl) (fun _ _ => ⟨rfl, e0, hcl, hsl⟩)
    dsimp only [Pt.U, Pt.locs, Pt.cells, Pt.slots] at X1 l1 y1 z1 st1 hQ1
    subst l1 y1 z1
    obtain ⟨rfl, Nq1, e1⟩ := hQ1
    have N1 := Fr.app N0 Nq1
    obtain ⟨cl2, Ar2, qq2, S2, M2, Hh2, U2⟩ := id q1
    obtain ⟨T2, h2, X2, e2, W2, st2⟩ := stB X1 hx hZ e1 Ar2 (j := (Int32.ofNat i)) (inb_of S2 (own_inb (n := 40) (by omega) (by omega))) (g := (mkF m 40 #[vR sa, vI (Int32.ofNat i), vR dd, vI (Int32.ofNat i), vI 40, vI (Int32.ofNat i), vI (cs.getD i 0)] [(.int ((cs.getD i 0).toInt8.toInt32)), (.int (Int32.ofNat i)), (.ref dd)])) rfl rfl (oh hby D35 22 rfl)
    have N2 := Fr.snoc X2 N1 hy3
    have V2 : Arv Z h2 dd kd .byte (40 : Int32) (vs.set i (.int (nar .byte ((cs.getD i 0).toInt8.toInt32)))) (.int 0) := Arv.set Ar2 qq2 S2 M2 Hh2 U2 (fits_nar_byte _) W2 i (own_clamp (by omega)) (by omega)
    have pre3 : ∀ t, oS p e below T2 (mkF m 10 #[vR sa, vI ((Int32.ofNat i) + (1 : Int32)), vR dd, vI ((Int32.ofNat i) + (1 : Int32)), vI 40, vI ((Int32.ofNat i) + (1 : Int32)), vI (cs.getD i 0)] []) t → oS p e below T0 (mkF m 10 #[vR sa, vI (Int32.ofNat i), vR dd, vI (Int32.ofNat i), vI 40, vI (Int32.ofNat i), z6] []) t := fun t kk => pre0 t (by
      refine XS.iload X0.here hx rfl (oh hby D35 6 rfl) rfl ?_
      refine XS.iload X0.here hx rfl (oh hby D35 7 rfl) rfl ?_
      refine XS.icmpNo X0.here hx rfl (oh hby D35 8 rfl) rfl (tlt ((own_inb (n := 40) (by omega) (by omega)).2 : (Int32.ofNat i) < (40 : Int32))).2.1 ?_
      refine XS.aloadN X0.here hx rfl (oh hby D35 9 rfl) rfl rfl ?_
      refine XS.iloadN X0.here hx rfl (oh hby D35 10 rfl) rfl ?_
      show oS p e below T0 (mkF m 19 #[vR sa, vI (Int32.ofNat i), vR dd, vI (Int32.ofNat i), vI 40, vI (Int32.ofNat i), z6] [(.int (Int32.ofNat i)), (.ref sa)]) _
      refine st1 _ ?_
      show oS p e below T1 (mkF m 22 #[vR sa, vI (Int32.ofNat i), vR dd, vI (Int32.ofNat i), vI 40, vI (Int32.ofNat i), z6] [(.int (cs.getD i 0))]) _
      refine XS.istoreS X1.here hx rfl (oh hby D35 12 rfl) rfl rfl hz6 ?_
      refine XS.iload X1.here hx rfl (oh hby D35 13 rfl) rfl ?_
      refine XS.sipush X1.here hx rfl (oh hby D35 14 rfl) ?_
      refine XS.icmpYes X1.here hx rfl (pc0 := 29) (pc' := 35) rfl (oh hby D35 15 rfl) rfl (flt (hlw : ¬ ((255 : Int32) < (cs.getD i 0)))).2.2.2 (by decide) (by decide) ?_
      refine XS.aloadN X1.here hx rfl (oh hby D35 18 rfl) rfl rfl ?_
      show oS p e below T1 (mkF m 36 #[vR sa, vI (Int32.ofNat i), vR dd, vI (Int32.ofNat i), vI 40, vI (Int32.ofNat i), vI (cs.getD i 0)] [(.ref dd)]) _
      refine XS.iloadN X1.here hx rfl (oh hby D35 19 rfl) rfl ?_
      refine XS.iload X1.here hx rfl (oh hby D35 20 rfl) rfl ?_
      refine XS.i2b X1.here hx rfl (oh hby D35 21 rfl) rfl ?_
      refine st2 _ ?_
      show oS p e below T2 (mkF m 41 #[vR sa, vI (Int32.ofNat i), vR dd, vI (Int32.ofNat i), vI 40, vI (Int32.ofNat i), vI (cs.getD i 0)] []) _
      refine XS.iinc X2.here hx rfl (oh hby D35 23 rfl) rfl (l' := #[vR sa, vI ((Int32.ofNat i) + (1 : Int32)), vR dd, vI (Int32.ofNat i), vI 40, vI (Int32.ofNat i), vI (cs.getD i 0)]) rfl ?_
      refine XS.iinc X2.here hx rfl (oh hby D35 24 rfl) rfl (l' := #[vR sa, vI ((Int32.ofNat i) + (1 : Int32)), vR dd, vI ((Int32.ofNat i) + (1 : Int32)), vI 40, vI (Int32.ofNat i), vI (cs.getD i 0)]) rfl ?_
      refine XS.iinc X2.here hx rfl (oh hby D35 25 rfl) rfl (l' := #[vR sa, vI ((Int32.ofNat i) + (1 : Int32)), vR dd, vI ((Int32.ofNat i) + (1 : Int32)), vI 40, vI ((Int32.ofNat i) + (1 : Int32)), vI (cs.getD i 0)]) rfl ?_
      refine XS.goto X2.here hx rfl (pc0 := 50) (pc' := 10) rfl (oh hby D35 26 rfl) (by decide) (by decide) ?_
      show oS p e below T2 (mkF m 10 #[vR sa, vI ((Int32.ofNat i) + (1 : Int32)), vR dd, vI ((Int32.ofNat i) + (1 : Int32)), vI 40, vI ((Int32.ofNat i) + (1 : Int32)), vI (cs.getD i 0)] []) _
      exact kk)
    have c4 := (q0.other W2 hy4)
    have c5 := (q2.wr W2 hy3)
    have preH : ∀ t, oS p e below T2 (mkF m 10 #[vR sa, vI (Int32.ofNat (i + 1)), vR dd, vI (Int32.ofNat (i + 1)), vI 40, vI (Int32.ofNat (i + 1)), (Slot.val (.int (cs.getD i 0)))] []) t → oS p e below T0 (mkF m 10 #[vR sa, vI (Int32.ofNat i), vR dd, vI (Int32.ofNat i), vI 40, vI (Int32.ofNat i), z6] []) t := by
      rw [inc_ofNat i]
      exact pre3
    obtain ⟨T9, h9, lo9, X9, e9, N9, K9, pre9⟩ := ih ((i + 1)) ((vs.set i (.int (nar .byte ((cs.getD i 0).toInt8.toInt32))))) ((Slot.val (.int (cs.getD i 0)))) T2 h2 _ X2 e2 N2 (Nat.le_trans Z0 (Keep.of_wr W2).1) c4 V2 c5 (One.val rfl) (by simpa using hvl) (by omega)
    exact ⟨T9, h9, _, X9, e9, N9, (((Keep.refl h0 ([dd] : List Addr)).wr W2 (Or.inl (by simp))).trans K9 (allS (Or.inl (by simp)) all0)), fun t kk => preH t (pre9 t kk)⟩
set_option maxRecDepth 65536 in
set_option maxHeartbeats 40000000 in
theorem lp_cbl {p : Program} {l : Launch} {e : Env} {R : Room} {s : State} {m : MethodId} {args : Array Value} {below : List Frame} {meth : Method} {c : Code} {cells slots : Nat} {Z : State} {a0 : Array Value} {n0 : Nat} (sa : Addr) (ks : ClassId) (cs : List Int32) (dd : Addr) (kd : ClassId) (ie : Nat) (hx : p.tables.exec = Jvm.exec) (hZ : Z.Warmed39 s.vm) (hw : HW Z a0) (hby : c.code = jdk_52_method_22_code) (hml : c.maxLocals = 7) (hown : s.vm.findClass "java/lang/StringUTF16" = some m.cls) (hcl : cells ≤ R.cells) (hsl : slots ≤ R.slots) (hfr : 1 ≤ R.frames) (hlo : 13 ≤ R.locals) (hy0 : sA Z) (hy1 : sH Z) (hy2 : sL Z) (hy3 : n0 ≤ dd) (hy4 : sa ≠ dd) (hWs : ∀ c ∈ cs, own_W c) (hc44 : cs.length ≤ 44) (hG40 : 40 < cs.length) (hie : ie = 40) (hlow : ∀ q, q < 40 → ¬ (255 : Int32) < cs.getD q 0) :
    ∀ (k : Nat) (i : Nat) (vs : List Value) (z6 : Slot) (T0 : State) (h0 : Heap) (locs : List Loc), Stand p l e R s m args below meth c T0 locs cells slots → T0.heap = h0 → Fr n0 locs → n0 ≤ h0.size → Arv Z h0 sa ks .byte (Int32.ofNat (2 * cs.length)) (StrChars.Road.wideBytes cs) (.int 0) → Arv Z h0 dd kd .byte (40 : Int32) vs (.int 0) → Old Z n0 h0 → (One z6) → (vs = own_bs ((cs.take 40).take i) ++ (List.replicate (40 - i) (Value.int 0))) → (i + k = ie) → ∃ zx : Slot, ∃ (T' : State) (h' : Heap) (locs' : List Loc), Stand p l e R s m args below meth c T' locs' cells slots ∧ T'.heap = h' ∧ Fr n0 locs' ∧ Keep h0 h' ([dd] : List Addr) ∧ (One zx) ∧ (Arv Z h' dd kd .byte (40 : Int32) (own_bs (cs.take 40)) (.int 0)) ∧ ∀ t, Steps p.tables e below (T'.setTop (mkF m 53 #[vR sa, vI (Int32.ofNat ie), vR dd, vI (Int32.ofNat ie), vI 40, vI (Int32.ofNat ie), zx] [])) t → oS p e below T0 (mkF m 10 #[vR sa, vI (Int32.ofNat i), vR dd, vI (Int32.ofNat i), vI 40, vI (Int32.ofNat i), z6] []) t := by
  intro k
  induction k with
  | zero =>
    intro i vs z6 T0 h0 locs X0 e0 N0 Z0 q0 q1 q2 hz6 hvs hik
    have pre0 : ∀ t, oS p e below T0 (mkF m 10 #[vR sa, vI (Int32.ofNat i), vR dd, vI (Int32.ofNat i), vI 40, vI (Int32.ofNat i), z6] []) t → oS p e below T0 (mkF m 10 #[vR sa, vI (Int32.ofNat i), vR dd, vI (Int32.ofNat i), vI 40, vI (Int32.ofNat i), z6] []) t := fun _ kk => kk
    have hi2 : i = ie := by omega
    have hi' : i = 40 := by omega
    have hv' : vs = own_bs (cs.take 40) := by rw [hvs, hi', Nat.sub_self, List.take_of_length_le (by rw [List.length_take]; omega)]; simp
    have R1 : Arv Z h0 dd kd .byte (40 : Int32) (own_bs (cs.take 40)) (.int 0) := by have q := q1; rw [hv'] at q; exact q
    have pre2 : ∀ t, oS p e below T0 (mkF m 53 #[vR sa, vI (Int32.ofNat i), vR dd, vI (Int32.ofNat i), vI 40, vI (Int32.ofNat i), z6] []) t → oS p e below T0 (mkF m 10 #[vR sa, vI (Int32.ofNat i), vR dd, vI (Int32.ofNat i), vI 40, vI (Int32.ofNat i), z6] []) t := fun t kk => pre0 t (by
      refine XS.iload X0.here hx rfl (oh hby D35 6 rfl) rfl ?_
      refine XS.iload X0.here hx rfl (oh hby D35 7 rfl) rfl ?_
      refine XS.icmpYes X0.here hx rfl (pc0 := 14) (pc' := 53) rfl (oh hby D35 8 rfl) rfl (flt ((own_nlt (n := 40) (by omega) (by omega)) : ¬ ((Int32.ofNat i) < (40 : Int32)))).2.1 (by decide) (by decide) ?_
      show oS p e below T0 (mkF m 53 #[vR sa, vI (Int32.ofNat i), vR dd, vI (Int32.ofNat i), vI 40, vI (Int32.ofNat i), z6] []) _
      exact kk)
    exact ⟨z6, T0, h0, _, X0, e0, N0, (Keep.refl h0 ([dd] : List Addr)), hz6, R1, (by rw [← hi2]; exact pre2)⟩
  | succ k ih =>
    intro i vs z6 T0 h0 locs X0 e0 N0 Z0 q0 q1 q2 hz6 hvs hik
    have pre0 : ∀ t, oS p e below T0 (mkF m 10 #[vR sa, vI (Int32.ofNat i), vR dd, vI (Int32.ofNat i), vI 40, vI (Int32.ofNat i), z6] []) t → oS p e below T0 (mkF m 10 #[vR sa, vI (Int32.ofNat i), vR dd, vI (Int32.ofNat i), vI 40, vI (Int32.ofNat i), z6] []) t := fun _ kk => kk
    have hil : i < cs.length := by omega
    have hci := hWs _ (own_getmem hil)
    have hlw := hlow i (by omega)
    have hdi : (cs.take 40).getD i 0 = cs.getD i 0 := by rw [List.getD_eq_getElem?_getD, List.getD_eq_getElem?_getD, List.getElem?_take_of_lt (by omega)]
    have hvl : vs.length = 40 := by rw [hvs, List.length_append, own_bsl, List.length_take, List.length_take, List.length_replicate]; omega
    obtain ⟨_, _, ⟨T1, L1, k1, n1⟩, -, X1, ⟨Lc1, hQ1, l1, y1, z1⟩, st1⟩ := Jvm.LawKit.callS X0 hx (y := y_2) hown (mvT hZ (ow hw 232 rfl)) (mvT hZ (ow hw 233 rfl)) (mvT hZ (ow hw 46 rfl)) (mvT hZ (ow hw 234 rfl)) (by decide) (backOf (W := 0) (rm_getCh l Z a0 hw [] sa i (cs.getD i 0) ks (2 * cs.length) (StrChars.Road.wideBytes cs) h0 n0 Z0 hy0 hy1 hy2 q2 q0 (by omega) (by omega) (StrChars.Road.wide_lo _ _ _ hil) (StrChars.Road.wide_hi _ _ _ hil) (hci.1) (hci.2)) hZ (ow hw 234 rfl) (ow hw 46 rfl) (Nat.le_trans (by decide) hfr) (Nat.le_trans (by decide) hlo)) (g := (mkF m 19 #[vR sa, vI (Int32.ofNat i), vR dd, vI (Int32.ofNat i), vI 40, vI (Int32.ofNat i), z6] [(.int (Int32.ofNat i)), (.ref sa)])) rfl (by rw [hml]; rfl) (argsL := [(.ref sa), (.int (Int32.ofNat i))]) (rest := []) (lenOf pd_5 rfl) rfl (by show 2 * 0 + _ ≤ _; exact Nat.le_of_eq rfl) (oh hby D35 11 rfl) (fun _ _ => ⟨rfl, e0, hcl, hsl⟩)
    dsimp only [Pt.U, Pt.locs, Pt.cells, Pt.slots] at X1 l1 y1 z1 st1 hQ1
    subst l1 y1 z1
    obtain ⟨rfl, Nq1, e1⟩ := hQ1
    have N1 := Fr.app N0 Nq1
    obtain ⟨cl2, Ar2, qq2, S2, M2, Hh2, U2⟩ := id q1
    obtain ⟨T2, h2, X2, e2, W2, st2⟩ := stB X1 hx hZ e1 Ar2 (j := (Int32.ofNat i)) (inb_of S2 (own_inb (n := 40) (by omega) (by omega))) (g := (mkF m 40 #[vR sa, vI (Int32.ofNat i), vR dd, vI (Int32.ofNat i), vI 40, vI (Int32.ofNat i), vI (cs.getD i 0)] [(.int ((cs.getD i 0).toInt8.toInt32)), (.int (Int32.ofNat i)), (.ref dd)])) rfl rfl (oh hby D35 22 rfl)
    have N2 := Fr.snoc X2 N1 hy3
    have V2 : Arv Z h2 dd kd .byte (40 : Int32) (vs.set i (.int (nar .byte ((cs.getD i 0).toInt8.toInt32)))) (.int 0) := Arv.set Ar2 qq2 S2 M2 Hh2 U2 (fits_nar_byte _) W2 i (own_clamp (by omega)) (by omega)
    have pre3 : ∀ t, oS p e below T2 (mkF m 10 #[vR sa, vI ((Int32.ofNat i) + (1 : Int32)), vR dd, vI ((Int32.ofNat i) + (1 : Int32)), vI 40, vI ((Int32.ofNat i) + (1 : Int32)), vI (cs.getD i 0)] []) t → oS p e below T0 (mkF m 10 #[vR sa, vI (Int32.ofNat i), vR dd, vI (Int32.ofNat i), vI 40, vI (Int32.ofNat i), z6] []) t := fun t kk => pre0 t (by
      refine XS.iload X0.here hx rfl (oh hby D35 6 rfl) rfl ?_
      refine XS.iload X0.here hx rfl (oh hby D35 7 rfl) rfl ?_
      refine XS.icmpNo X0.here hx rfl (oh hby D35 8 rfl) rfl (tlt ((own_inb (n := 40) (by omega) (by omega)).2 : (Int32.ofNat i) < (40 : Int32))).2.1 ?_
      refine XS.aloadN X0.here hx rfl (oh hby D35 9 rfl) rfl rfl ?_
      refine XS.iloadN X0.here hx rfl (oh hby D35 10 rfl) rfl ?_
      show oS p e below T0 (mkF m 19 #[vR sa, vI (Int32.ofNat i), vR dd, vI (Int32.ofNat i), vI 40, vI (Int32.ofNat i), z6] [(.int (Int32.ofNat i)), (.ref sa)]) _
      refine st1 _ ?_
      show oS p e below T1 (mkF m 22 #[vR sa, vI (Int32.ofNat i), vR dd, vI (Int32.ofNat i), vI 40, vI (Int32.ofNat i), z6] [(.int (cs.getD i 0))]) _
      refine XS.istoreS X1.here hx rfl (oh hby D35 12 rfl) rfl rfl hz6 ?_
      refine XS.iload X1.here hx rfl (oh hby D35 13 rfl) rfl ?_
      refine XS.sipush X1.here hx rfl (oh hby D35 14 rfl) ?_
      refine XS.icmpYes X1.here hx rfl (pc0 := 29) (pc' := 35) rfl (oh hby D35 15 rfl) rfl (flt (hlw : ¬ ((255 : Int32) < (cs.getD i 0)))).2.2.2 (by decide) (by decide) ?_
      refine XS.aloadN X1.here hx rfl (oh hby D35 18 rfl) rfl rfl ?_
      show oS p e below T1 (mkF m 36 #[vR sa, vI (Int32.ofNat i), vR dd, vI (Int32.ofNat i), vI 40, vI (Int32.ofNat i), vI (cs.getD i 0)] [(.ref dd)]) _
      refine XS.iloadN X1.here hx rfl (oh hby D35 19 rfl) rfl ?_
      refine XS.iload X1.here hx rfl (oh hby D35 20 rfl) rfl ?_
      refine XS.i2b X1.here hx rfl (oh hby D35 21 rfl) rfl ?_
      refine st2 _ ?_
      show oS p e below T2 (mkF m 41 #[vR sa, vI (Int32.ofNat i), vR dd, vI (Int32.ofNat i), vI 40, vI (Int32.ofNat i), vI (cs.getD i 0)] []) _
      refine XS.iinc X2.here hx rfl (oh hby D35 23 rfl) rfl (l' := #[vR sa, vI ((Int32.ofNat i) + (1 : Int32)), vR dd, vI (Int32.ofNat i), vI 40, vI (Int32.ofNat i), vI (cs.getD i 0)]) rfl ?_
      refine XS.iinc X2.here hx rfl (oh hby D35 24 rfl) rfl (l' := #[vR sa, vI ((Int32.ofNat i) + (1 : Int32)), vR dd, vI ((Int32.ofNat i) + (1 : Int32)), vI 40, vI (Int32.ofNat i), vI (cs.getD i 0)]) rfl ?_
      refine XS.iinc X2.here hx rfl (oh hby D35 25 rfl) rfl (l' := #[vR sa, vI ((Int32.ofNat i) + (1 : Int32)), vR dd, vI ((Int32.ofNat i) + (1 : Int32)), vI 40, vI ((Int32.ofNat i) + (1 : Int32)), vI (cs.getD i 0)]) rfl ?_
      refine XS.goto X2.here hx rfl (pc0 := 50) (pc' := 10) rfl (oh hby D35 26 rfl) (by decide) (by decide) ?_
      show oS p e below T2 (mkF m 10 #[vR sa, vI ((Int32.ofNat i) + (1 : Int32)), vR dd, vI ((Int32.ofNat i) + (1 : Int32)), vI 40, vI ((Int32.ofNat i) + (1 : Int32)), vI (cs.getD i 0)] []) _
      exact kk)
    have c4 := (q0.other W2 hy4)
    have c5 := (q2.wr W2 hy3)
    have preH : ∀ t, oS p e below T2 (mkF m 10 #[vR sa, vI (Int32.ofNat (i + 1)), vR dd, vI (Int32.ofNat (i + 1)), vI 40, vI (Int32.ofNat (i + 1)), (Slot.val (.int (cs.getD i 0)))] []) t → oS p e below T0 (mkF m 10 #[vR sa, vI (Int32.ofNat i), vR dd, vI (Int32.ofNat i), vI 40, vI (Int32.ofNat i), z6] []) t := by
      rw [inc_ofNat i]
      exact pre3
    obtain ⟨zx_, T9, h9, lo9, X9, e9, N9, K9, g9_0, g9_1, pre9⟩ := ih ((i + 1)) ((vs.set i (.int (nar .byte ((cs.getD i 0).toInt8.toInt32))))) ((Slot.val (.int (cs.getD i 0)))) T2 h2 _ X2 e2 N2 (Nat.le_trans Z0 (Keep.of_wr W2).1) c4 V2 c5 (One.val rfl) (by rw [own_nar8, ← hdi, hvs]; exact own_latstep (own_take40 hG40) (by omega) _) (by omega)
    exact ⟨zx_, T9, h9, _, X9, e9, N9, (((Keep.refl h0 ([dd] : List Addr)).wr W2 (Or.inl (by simp))).trans K9 (allS (Or.inl (by simp)) all0)), g9_0, g9_1, fun t kk => preH t (pre9 t kk)⟩
theorem pd_19 : parseMethodDescriptor "(II[B)V" = some ⟨[.int, .int, (.array .byte)], none⟩ := by decide +kernel
def Q_cb5w (Z : State) (sa : Addr) (ks : ClassId) (cs : List Int32) (dd : Addr) (kd : ClassId) (vs : List Value) (rr : Nat) (fm : Value) (h0 : Heap) (n0 : Nat) (v : Option Value) (h : Heap) (L : List Loc) : Prop := (v = some (.int (Int32.ofNat rr))) ∧ (Fr n0 L) ∧ (Keep h0 h ([dd] : List Addr))
set_option maxRecDepth 65536 in
set_option maxHeartbeats 40000000 in
theorem rm_cb5w (l : Launch) (Z : State) (a0 : Array Value) (hw : HW Z a0) (ws : List Jvm.Cond) (sa : Addr) (ks : ClassId) (cs : List Int32) (dd : Addr) (kd : ClassId) (vs : List Value) (rr : Nat) (fm : Value) (h0 : Heap) (n0 : Nat) (Z0 : n0 ≤ h0.size) (q0 : sF Z fm) (hFM : fm.isRef = true) (q2 : sA Z) (q3 : sH Z) (q4 : sL Z) (q5 : Old Z n0 h0) (q6 : Arv Z h0 sa ks .byte (Int32.ofNat (2 * cs.length)) (StrChars.Road.wideBytes cs) (.int 0)) (q7 : Arv Z h0 dd kd .byte (40 : Int32) vs (.int 0)) (q8 : n0 ≤ dd) (q9 : sa ≠ dd) (hWs : ∀ c ∈ cs, own_W c) (hc44 : cs.length ≤ 44) (hG40 : 40 < cs.length) (hv0 : vs = (List.replicate 40 (Value.int 0))) (hrn : rr < 40) (hwide : (255 : Int32) < cs.getD rr 0) (hlow : ∀ q, q < rr → ¬ (255 : Int32) < cs.getD q 0) :
    mF l y_36 jdk_52_method_22_code 7 (some .int) ws (rmk 3 0 0 43) #[(.ref sa), (.int 0), (.ref dd), (.int 0), (.int 40)] Z h0 (Q_cb5w Z sa ks cs dd kd vs rr fm h0 n0) := by
  refine MetFree.of_bodySF (plainFor_of_name pn_0) hisR ?_
  intro p e s m args below meth c s₁ Bd hml0 hP hK
  obtain ⟨rfl, hZ, hh⟩ := hP
  have hx := Bd.exec
  have hby := Bd.bytes
  have hml : c.maxLocals = 7 := hml0
  have hown : s.vm.findClass "java/lang/StringUTF16" = some m.cls := findClass_of_methodNamed Bd.named
  have hnm := (name_of_methodNamed Bd.named Bd.method).1
  have X0 : Stand p l e (rmk 3 0 0 43) s m #[(.ref sa), (.int 0), (.ref dd), (.int 0), (.int 40)] below meth c s₁ [] 0 0 := Stand.of_body Bd
  have e0 : s₁.heap = h0 := by rw [← hh, Bd.state]; rfl
  have N0 := Fr.nil n0
  have pre0 : ∀ t, oS p e below s₁ (mkF m 0 #[vR sa, vI 0, vR dd, vI 0, vI 40, .unset, .unset] []) t → oS p e below s₁ (entryFrame m #[(.ref sa), (.int 0), (.ref dd), (.int 0), (.int 40)] 7) t := fun t k => castTop (ef_0 m sa (0 : Int32) dd (0 : Int32) (40 : Int32)) k
  obtain ⟨_, _, ⟨T1, L1, k1, n1⟩, -, X1, ⟨Lc1, hQ1, l1, y1, z1⟩, st1⟩ := Jvm.LawKit.callS X0 hx (y := y_35) hown (mvT hZ (ow hw 245 rfl)) (mvT hZ (ow hw 246 rfl)) (mvT hZ (ow hw 46 rfl)) (mvT hZ (ow hw 247 rfl)) (by decide) (backOf (W := 0) (rm_ucbo l Z a0 hw [] 0 40 sa ks cs.length (StrChars.Road.wideBytes cs) fm h0 n0 Z0 q0 hFM q5 q6 (by omega) (by omega)) hZ (ow hw 247 rfl) (ow hw 46 rfl) (by decide) (by decide)) (g := (mkF m 4 #[vR sa, vI 0, vR dd, vI 0, vI 40, .unset, .unset] [(.ref sa), (.int 40), (.int 0)])) rfl (by rw [hml]; rfl) (argsL := [(.int 0), (.int 40), (.ref sa)]) (rest := []) (lenOf pd_19 rfl) rfl (by show 2 * 0 + _ ≤ _; exact Nat.le_of_eq rfl) (oh hby D35 3 rfl) (fun _ _ => ⟨rfl, e0, (by decide : 0 + 0 ≤ _), (by decide : 0 + 0 ≤ _)⟩)
  dsimp only [Pt.U, Pt.locs, Pt.cells, Pt.slots] at X1 l1 y1 z1 st1 hQ1
  subst l1 y1 z1
  obtain ⟨rfl, Nq1, e1⟩ := hQ1
  have N1 := Fr.app N0 Nq1
  have pre2 : ∀ t, oS p e below T1 (mkF m 10 #[vR sa, vI 0, vR dd, vI 0, vI 40, vI 0, .unset] []) t → oS p e below s₁ (entryFrame m #[(.ref sa), (.int 0), (.ref dd), (.int 0), (.int 40)] 7) t := fun t kk => pre0 t (by
    refine XS.iloadN X0.here hx rfl (oh hby D35 0 rfl) rfl ?_
    refine XS.iload X0.here hx rfl (oh hby D35 1 rfl) rfl ?_
    refine XS.aloadN X0.here hx rfl (oh hby D35 2 rfl) rfl rfl ?_
    refine st1 _ ?_
    show oS p e below T1 (mkF m 7 #[vR sa, vI 0, vR dd, vI 0, vI 40, .unset, .unset] []) _
    refine XS.iconst X1.here hx rfl (oh hby D35 4 rfl) ?_
    refine XS.istore X1.here hx rfl (oh hby D35 5 rfl) rfl (l' := #[vR sa, vI 0, vR dd, vI 0, vI 40, vI 0, .unset]) rfl ?_
    show oS p e below T1 (mkF m 10 #[vR sa, vI 0, vR dd, vI 0, vI 40, vI 0, .unset] []) _
    exact kk)
  have preh3 : ∀ t, oS p e below T1 (mkF m 10 #[vR sa, vI (Int32.ofNat 0), vR dd, vI (Int32.ofNat 0), vI 40, vI (Int32.ofNat 0), Slot.unset] []) t → oS p e below s₁ (entryFrame m #[(.ref sa), (.int 0), (.ref dd), (.int 0), (.int 40)] 7) t := by
    exact pre2
  obtain ⟨T3, h3, lo3, X3, e3, N3, K3, st3⟩ := lp_cbw (sa) (ks) (cs) (dd) (kd) (rr) hx hZ hw hby hml hown (by decide : 0 ≤ _) (by decide : 0 ≤ _) (by decide) (by decide) q2 q3 q4 q8 q9 hWs hc44 hG40 hrn hwide hlow rr (0) (vs) (Slot.unset) T1 h0 _ X1 e1 N1 Z0 q6 q7 q5 (One.u) (by rw [hv0]; rfl) (by omega)
  obtain ⟨fs, hr, hrun, hended, hW, hsame⟩ := X3.leave (v := some (.int (Int32.ofNat rr))) (fun h => by rw [Bd.returns] at h; cases h)
  refine ⟨_, _, preh3 _ ?_, hrun, hended, _, _, rfl, ?_, ⟨_, rfl⟩, hW, hsame.mono (by decide) (by decide)⟩
  · refine st3 _ ?_
    show oS p e below T3 (mkF m 34 #[vR sa, vI (Int32.ofNat rr), vR dd, vI (Int32.ofNat rr), vI 40, vI (Int32.ofNat rr), vI (cs.getD rr 0)] [(.int (Int32.ofNat rr))]) _
    exact retI X3 hx Bd.returns (oh hby D35 17 rfl) hr
  · show Q_cb5w Z sa ks cs dd kd vs rr fm h0 n0 _ T3.heap _
    rw [e3]
    exact ⟨rfl, N3, ((Keep.refl h0 ([dd] : List Addr)).trans K3 (allS (Or.inl (by simp)) all0))⟩
def Q_cb5l (Z : State) (sa : Addr) (ks : ClassId) (cs : List Int32) (dd : Addr) (kd : ClassId) (vs : List Value) (fm : Value) (h0 : Heap) (n0 : Nat) (v : Option Value) (h : Heap) (L : List Loc) : Prop := (v = some (.int 40)) ∧ (Fr n0 L) ∧ (Keep h0 h ([dd] : List Addr)) ∧ (Arv Z h dd kd .byte (40 : Int32) (own_bs (cs.take 40)) (.int 0))
set_option maxRecDepth 65536 in
set_option maxHeartbeats 40000000 in
theorem rm_cb5l (l : Launch) (Z : State) (a0 : Array Value) (hw : HW Z a0) (ws : List Jvm.Cond) (sa : Addr) (ks : ClassId) (cs : List Int32) (dd : Addr) (kd : ClassId) (vs : List Value) (fm : Value) (h0 : Heap) (n0 : Nat) (Z0 : n0 ≤ h0.size) (q0 : sF Z fm) (hFM : fm.isRef = true) (q2 : sA Z) (q3 : sH Z) (q4 : sL Z) (q5 : Old Z n0 h0) (q6 : Arv Z h0 sa ks .byte (Int32.ofNat (2 * cs.length)) (StrChars.Road.wideBytes cs) (.int 0)) (q7 : Arv Z h0 dd kd .byte (40 : Int32) vs (.int 0)) (q8 : n0 ≤ dd) (q9 : sa ≠ dd) (hWs : ∀ c ∈ cs, own_W c) (hc44 : cs.length ≤ 44) (hG40 : 40 < cs.length) (hv0 : vs = (List.replicate 40 (Value.int 0))) (hlow : ∀ q, q < 40 → ¬ (255 : Int32) < cs.getD q 0) :
    mF l y_36 jdk_52_method_22_code 7 (some .int) ws (rmk 3 0 0 43) #[(.ref sa), (.int 0), (.ref dd), (.int 0), (.int 40)] Z h0 (Q_cb5l Z sa ks cs dd kd vs fm h0 n0) := by
  refine MetFree.of_bodySF (plainFor_of_name pn_0) hisR ?_
  intro p e s m args below meth c s₁ Bd hml0 hP hK
  obtain ⟨rfl, hZ, hh⟩ := hP
  have hx := Bd.exec
  have hby := Bd.bytes
  have hml : c.maxLocals = 7 := hml0
  have hown : s.vm.findClass "java/lang/StringUTF16" = some m.cls := findClass_of_methodNamed Bd.named
  have hnm := (name_of_methodNamed Bd.named Bd.method).1
  have X0 : Stand p l e (rmk 3 0 0 43) s m #[(.ref sa), (.int 0), (.ref dd), (.int 0), (.int 40)] below meth c s₁ [] 0 0 := Stand.of_body Bd
  have e0 : s₁.heap = h0 := by rw [← hh, Bd.state]; rfl
  have N0 := Fr.nil n0
  have pre0 : ∀ t, oS p e below s₁ (mkF m 0 #[vR sa, vI 0, vR dd, vI 0, vI 40, .unset, .unset] []) t → oS p e below s₁ (entryFrame m #[(.ref sa), (.int 0), (.ref dd), (.int 0), (.int 40)] 7) t := fun t k => castTop (ef_0 m sa (0 : Int32) dd (0 : Int32) (40 : Int32)) k
  obtain ⟨_, _, ⟨T1, L1, k1, n1⟩, -, X1, ⟨Lc1, hQ1, l1, y1, z1⟩, st1⟩ := Jvm.LawKit.callS X0 hx (y := y_35) hown (mvT hZ (ow hw 245 rfl)) (mvT hZ (ow hw 246 rfl)) (mvT hZ (ow hw 46 rfl)) (mvT hZ (ow hw 247 rfl)) (by decide) (backOf (W := 0) (rm_ucbo l Z a0 hw [] 0 40 sa ks cs.length (StrChars.Road.wideBytes cs) fm h0 n0 Z0 q0 hFM q5 q6 (by omega) (by omega)) hZ (ow hw 247 rfl) (ow hw 46 rfl) (by decide) (by decide)) (g := (mkF m 4 #[vR sa, vI 0, vR dd, vI 0, vI 40, .unset, .unset] [(.ref sa), (.int 40), (.int 0)])) rfl (by rw [hml]; rfl) (argsL := [(.int 0), (.int 40), (.ref sa)]) (rest := []) (lenOf pd_19 rfl) rfl (by show 2 * 0 + _ ≤ _; exact Nat.le_of_eq rfl) (oh hby D35 3 rfl) (fun _ _ => ⟨rfl, e0, (by decide : 0 + 0 ≤ _), (by decide : 0 + 0 ≤ _)⟩)
  dsimp only [Pt.U, Pt.locs, Pt.cells, Pt.slots] at X1 l1 y1 z1 st1 hQ1
  subst l1 y1 z1
  obtain ⟨rfl, Nq1, e1⟩ := hQ1
  have N1 := Fr.app N0 Nq1
  have pre2 : ∀ t, oS p e below T1 (mkF m 10 #[vR sa, vI 0, vR dd, vI 0, vI 40, vI 0, .unset] []) t → oS p e below s₁ (entryFrame m #[(.ref sa), (.int 0), (.ref dd), (.int 0), (.int 40)] 7) t := fun t kk => pre0 t (by
    refine XS.iloadN X0.here hx rfl (oh hby D35 0 rfl) rfl ?_
    refine XS.iload X0.here hx rfl (oh hby D35 1 rfl) rfl ?_
    refine XS.aloadN X0.here hx rfl (oh hby D35 2 rfl) rfl rfl ?_
    refine st1 _ ?_
    show oS p e below T1 (mkF m 7 #[vR sa, vI 0, vR dd, vI 0, vI 40, .unset, .unset] []) _
    refine XS.iconst X1.here hx rfl (oh hby D35 4 rfl) ?_
    refine XS.istore X1.here hx rfl (oh hby D35 5 rfl) rfl (l' := #[vR sa, vI 0, vR dd, vI 0, vI 40, vI 0, .unset]) rfl ?_
    show oS p e below T1 (mkF m 10 #[vR sa, vI 0, vR dd, vI 0, vI 40, vI 0, .unset] []) _
    exact kk)
  have preh3 : ∀ t, oS p e below T1 (mkF m 10 #[vR sa, vI (Int32.ofNat 0), vR dd, vI (Int32.ofNat 0), vI 40, vI (Int32.ofNat 0), Slot.unset] []) t → oS p e below s₁ (entryFrame m #[(.ref sa), (.int 0), (.ref dd), (.int 0), (.int 40)] 7) t := by
    exact pre2
  obtain ⟨zx_3, T3, h3, lo3, X3, e3, N3, K3, f3_0, f3_1, st3⟩ := lp_cbl (sa) (ks) (cs) (dd) (kd) (40) hx hZ hw hby hml hown (by decide : 0 ≤ _) (by decide : 0 ≤ _) (by decide) (by decide) q2 q3 q4 q8 q9 hWs hc44 hG40 (rfl) hlow 40 (0) (vs) (Slot.unset) T1 h0 _ X1 e1 N1 Z0 q6 q7 q5 (One.u) (by rw [hv0]; rfl) (by omega)
  obtain ⟨fs, hr, hrun, hended, hW, hsame⟩ := X3.leave (v := some (.int 40)) (fun h => by rw [Bd.returns] at h; cases h)
  refine ⟨_, _, preh3 _ ?_, hrun, hended, _, _, rfl, ?_, ⟨_, rfl⟩, hW, hsame.mono (by decide) (by decide)⟩
  · refine st3 _ ?_
    show oS p e below T3 (mkF m 53 #[vR sa, vI (Int32.ofNat 40), vR dd, vI (Int32.ofNat 40), vI 40, vI (Int32.ofNat 40), zx_3] []) _
    refine XS.iload X3.here hx rfl (oh hby D35 27 rfl) rfl ?_
    show oS p e below T3 (mkF m 55 #[vR sa, vI 40, vR dd, vI 40, vI 40, vI 40, zx_3] [(.int 40)]) _
    exact retI X3 hx Bd.returns (oh hby D35 28 rfl) hr
  · show Q_cb5l Z sa ks cs dd kd vs fm h0 n0 _ T3.heap _
    rw [e3]
    exact ⟨rfl, N3, ((Keep.refl h0 ([dd] : List Addr)).trans K3 (allS (Or.inl (by simp)) all0)), f3_1⟩
theorem pd_20 : parseMethodDescriptor "([BI[BII)I" = some ⟨[(.array .byte), .int, (.array .byte), .int, .int], some .int⟩ := by decide +kernel
def Q_cb3l (Z : State) (sa : Addr) (ks : ClassId) (cs : List Int32) (fm : Value) (h0 : Heap) (n0 : Nat) (v : Option Value) (h : Heap) (L : List Loc) : Prop := ∃ (tt : Addr) (kt : ClassId), (v = some (.ref tt)) ∧ (Fr n0 L) ∧ (Keep h0 h ([] : List Addr)) ∧ (h0.size ≤ tt) ∧ (Arv Z h tt kt .byte (40 : Int32) (own_bs (cs.take 40)) (.int 0))
set_option maxRecDepth 65536 in
set_option maxHeartbeats 40000000 in
theorem rm_cb3l (l : Launch) (Z : State) (a0 : Array Value) (hw : HW Z a0) (ws : List Jvm.Cond) (sa : Addr) (ks : ClassId) (cs : List Int32) (fm : Value) (h0 : Heap) (n0 : Nat) (Z0 : n0 ≤ h0.size) (q0 : sF Z fm) (hFM : fm.isRef = true) (q2 : sA Z) (q3 : sH Z) (q4 : sL Z) (q5 : Old Z n0 h0) (q6 : Arv Z h0 sa ks .byte (Int32.ofNat (2 * cs.length)) (StrChars.Road.wideBytes cs) (.int 0)) (hWs : ∀ c ∈ cs, own_W c) (hG40 : 40 < cs.length) (hG44 : cs.length ≤ 44) (hlow : ∀ q, q < 40 → ¬ (255 : Int32) < cs.getD q 0) :
    mF l y_37 jdk_52_method_17_code 6 (some (.array .byte)) ws (rmk 4 1 40 61) #[(.ref sa), (.int 0), (.int 40)] Z h0 (Q_cb3l Z sa ks cs fm h0 n0) := by
  refine MetFree.of_bodySF (plainFor_of_name pn_0) hisR ?_
  intro p e s m args below meth c s₁ Bd hml0 hP hK
  obtain ⟨rfl, hZ, hh⟩ := hP
  have hx := Bd.exec
  have hby := Bd.bytes
  have hml : c.maxLocals = 6 := hml0
  have hown : s.vm.findClass "java/lang/StringUTF16" = some m.cls := findClass_of_methodNamed Bd.named
  have hnm := (name_of_methodNamed Bd.named Bd.method).1
  have X0 : Stand p l e (rmk 4 1 40 61) s m #[(.ref sa), (.int 0), (.int 40)] below meth c s₁ [] 0 0 := Stand.of_body Bd
  have e0 : s₁.heap = h0 := by rw [← hh, Bd.state]; rfl
  have N0 := Fr.nil n0
  have pre0 : ∀ t, oS p e below s₁ (mkF m 0 #[vR sa, vI 0, vI 40, .unset, .unset, .unset] []) t → oS p e below s₁ (entryFrame m #[(.ref sa), (.int 0), (.int 40)] 6) t := fun t k => castTop (ef_5 m sa (0 : Int32) (40 : Int32)) k
  obtain ⟨T1, h1, ky1, X1, e1, E1, A1, st1⟩ := newP X0 hx hZ (ow hw 16 rfl) e0 (g := (mkF m 1 #[vR sa, vI 0, vI 40, .unset, .unset, .unset] [(.int 40)])) rfl (oh hby D36 1 rfl) rfl ((by decide) : ¬ ((40 : Int32) < (0 : Int32))) (cap := 40) ((by decide) : (40 : Int32).toNatClampNeg ≤ 40) (by decide) (by decide) (by decide)
  obtain ⟨b1, g1⟩ : ∃ z, z = h0.size := ⟨_, rfl⟩
  rw [← g1] at A1 st1
  have V1 : Arv Z h1 b1 ky1 .byte (40 : Int32) [] (.int 0) := Arv.new A1 (by decide)
  have U1 : Arv Z h1 b1 ky1 .byte (40 : Int32) [(.int 0), (.int 0), (.int 0), (.int 0), (.int 0), (.int 0), (.int 0), (.int 0), (.int 0), (.int 0), (.int 0), (.int 0), (.int 0), (.int 0), (.int 0), (.int 0), (.int 0), (.int 0), (.int 0), (.int 0), (.int 0), (.int 0), (.int 0), (.int 0), (.int 0), (.int 0), (.int 0), (.int 0), (.int 0), (.int 0), (.int 0), (.int 0), (.int 0), (.int 0), (.int 0), (.int 0), (.int 0), (.int 0), (.int 0), (.int 0)] (.int 0) := V1.pad (pad_rep [] (.int 0) 40)
  have c2 := (q5.ext E1)
  have c3 := (q6.ext E1)
  have ge4 : n0 ≤ b1 := Nat.le_trans Z0 (Nat.le_trans (Nat.le_refl _) (Nat.le_of_eq g1.symm))
  have ne5 : sa ≠ b1 := Nat.ne_of_lt (Nat.lt_of_lt_of_le q6.lt (Nat.le_of_eq g1.symm))
  obtain ⟨_, _, ⟨T6, L6, k6, n6⟩, -, X6, ⟨Lc6, hQ6, l6, y6, z6⟩, st6⟩ := Jvm.LawKit.callS X1 hx (y := y_36) hown (mvT hZ (ow hw 242 rfl)) (mvT hZ (ow hw 243 rfl)) (mvT hZ (ow hw 46 rfl)) (mvT hZ (ow hw 244 rfl)) (by decide) (backOf (W := 0) (rm_cb5l l Z a0 hw [] sa ks cs b1 ky1 ([(.int 0), (.int 0), (.int 0), (.int 0), (.int 0), (.int 0), (.int 0), (.int 0), (.int 0), (.int 0), (.int 0), (.int 0), (.int 0), (.int 0), (.int 0), (.int 0), (.int 0), (.int 0), (.int 0), (.int 0), (.int 0), (.int 0), (.int 0), (.int 0), (.int 0), (.int 0), (.int 0), (.int 0), (.int 0), (.int 0), (.int 0), (.int 0), (.int 0), (.int 0), (.int 0), (.int 0), (.int 0), (.int 0), (.int 0), (.int 0)]) fm h1 n0 (Nat.le_trans Z0 E1.1) q0 hFM q2 q3 q4 c2 c3 U1 ge4 ne5 hWs (hG44) hG40 (rfl) hlow) hZ (ow hw 244 rfl) (ow hw 46 rfl) (by decide) (by decide)) (g := (mkF m 9 #[vR sa, vI 0, vI 40, vR b1, .unset, .unset] [(.int 40), (.int 0), (.ref b1), (.int 0), (.ref sa)])) rfl (by rw [hml]; rfl) (argsL := [(.ref sa), (.int 0), (.ref b1), (.int 0), (.int 40)]) (rest := []) (lenOf pd_20 rfl) rfl (by show 2 * 0 + _ ≤ _; exact Nat.le_of_eq rfl) (oh hby D36 8 rfl) (fun _ _ => ⟨rfl, e1, (by decide : 1 + 0 ≤ _), (by decide : 40 + 0 ≤ _)⟩)
  dsimp only [Pt.U, Pt.locs, Pt.cells, Pt.slots] at X6 l6 y6 z6 st6 hQ6
  subst l6 y6 z6
  obtain ⟨rfl, Nq6, K6, f6_0⟩ := hQ6
  have N6 := Fr.app N0 Nq6
  obtain ⟨fs, hr, hrun, hended, hW, hsame⟩ := X6.leave (v := some (.ref b1)) (fun h => by rw [Bd.returns] at h; cases h)
  refine ⟨_, _, pre0 _ ?_, hrun, hended, _, _, rfl, ?_, ⟨_, rfl⟩, hW, hsame.mono (by decide) (by decide)⟩
  · refine XS.iloadN X0.here hx rfl (oh hby D36 0 rfl) rfl ?_
    refine st1 _ ?_
    show oS p e below T1 (mkF m 3 #[vR sa, vI 0, vI 40, .unset, .unset, .unset] [(.ref b1)]) _
    refine XS.astoreN X1.here hx rfl (oh hby D36 2 rfl) rfl rfl (l' := #[vR sa, vI 0, vI 40, vR b1, .unset, .unset]) rfl ?_
    refine XS.aloadN X1.here hx rfl (oh hby D36 3 rfl) rfl rfl ?_
    refine XS.iloadN X1.here hx rfl (oh hby D36 4 rfl) rfl ?_
    refine XS.aloadN X1.here hx rfl (oh hby D36 5 rfl) rfl rfl ?_
    refine XS.iconst X1.here hx rfl (oh hby D36 6 rfl) ?_
    show oS p e below T1 (mkF m 8 #[vR sa, vI 0, vI 40, vR b1, .unset, .unset] [(.int 0), (.ref b1), (.int 0), (.ref sa)]) _
    refine XS.iloadN X1.here hx rfl (oh hby D36 7 rfl) rfl ?_
    refine st6 _ ?_
    show oS p e below T6 (mkF m 12 #[vR sa, vI 0, vI 40, vR b1, .unset, .unset] [(.int 40)]) _
    refine XS.istore X6.here hx rfl (oh hby D36 9 rfl) rfl (l' := #[vR sa, vI 0, vI 40, vR b1, vI 40, .unset]) rfl ?_
    refine XS.iload X6.here hx rfl (oh hby D36 10 rfl) rfl ?_
    refine XS.iloadN X6.here hx rfl (oh hby D36 11 rfl) rfl ?_
    refine XS.icmpYes X6.here hx rfl (pc0 := 17) (pc' := 64) rfl (oh hby D36 12 rfl) rfl (teq ((by decide) : (40 : Int32) = (40 : Int32))).1 (by decide) (by decide) ?_
    refine XS.aloadN X6.here hx rfl (oh hby D36 30 rfl) rfl rfl ?_
    show oS p e below T6 (mkF m 65 #[vR sa, vI 0, vI 40, vR b1, vI 40, .unset] [(.ref b1)]) _
    jvm_step X6.here [X6.here.top, hx, (oh hby D36 31 rfl), X6.method', Bd.returns, Value.isRef, FieldType.isReference]
    first | (intro acts; rw [hr _ acts rfl rfl rfl]) | rw [hr _ _ rfl rfl rfl]
    exact Steps.refl _
  · show Q_cb3l Z sa ks cs fm h0 n0 _ T6.heap _
    exact ⟨b1, ky1, rfl, N6, (((Keep.refl h0 ([] : List Addr)).ext E1).trans K6 (allS (Or.inr (Nat.le_trans (Nat.le_refl _) (Nat.le_of_eq g1.symm))) all0)), (Nat.le_trans (Nat.le_refl _) (Nat.le_of_eq g1.symm)), f6_0⟩
def Q_cb3w (Z : State) (sa : Addr) (ks : ClassId) (cs : List Int32) (rr : Nat) (fm : Value) (h0 : Heap) (n0 : Nat) (v : Option Value) (h : Heap) (L : List Loc) : Prop := ∃ (tt : Addr) (kt : ClassId), (v = some (.ref tt)) ∧ (Fr n0 L) ∧ (Keep h0 h ([] : List Addr)) ∧ (h0.size ≤ tt) ∧ (Arv Z h tt kt .byte (Int32.ofNat (2 * 40)) (StrChars.Road.wideBytes (cs.take 40)) (.int 0))
set_option maxRecDepth 65536 in
set_option maxHeartbeats 40000000 in
theorem rm_cb3w (l : Launch) (Z : State) (a0 : Array Value) (hw : HW Z a0) (ws : List Jvm.Cond) (sa : Addr) (ks : ClassId) (cs : List Int32) (rr : Nat) (fm : Value) (h0 : Heap) (n0 : Nat) (Z0 : n0 ≤ h0.size) (q0 : sF Z fm) (hFM : fm.isRef = true) (q2 : sA Z) (q3 : sH Z) (q4 : sL Z) (q5 : Old Z n0 h0) (q6 : Arv Z h0 sa ks .byte (Int32.ofNat (2 * cs.length)) (StrChars.Road.wideBytes cs) (.int 0)) (hWs : ∀ c ∈ cs, own_W c) (hG40 : 40 < cs.length) (hG44 : cs.length ≤ 44) (hrn : rr < 40) (hwide : (255 : Int32) < cs.getD rr 0) (hlow : ∀ q, q < rr → ¬ (255 : Int32) < cs.getD q 0) :
    mF l y_37 jdk_52_method_17_code 6 (some (.array .byte)) ws (rmk 4 2 128 61) #[(.ref sa), (.int 0), (.int 40)] Z h0 (Q_cb3w Z sa ks cs rr fm h0 n0) := by
  refine MetFree.of_bodySF (plainFor_of_name pn_0) hisR ?_
  intro p e s m args below meth c s₁ Bd hml0 hP hK
  obtain ⟨rfl, hZ, hh⟩ := hP
  have hx := Bd.exec
  have hby := Bd.bytes
  have hml : c.maxLocals = 6 := hml0
  have hown : s.vm.findClass "java/lang/StringUTF16" = some m.cls := findClass_of_methodNamed Bd.named
  have hnm := (name_of_methodNamed Bd.named Bd.method).1
  have X0 : Stand p l e (rmk 4 2 128 61) s m #[(.ref sa), (.int 0), (.int 40)] below meth c s₁ [] 0 0 := Stand.of_body Bd
  have e0 : s₁.heap = h0 := by rw [← hh, Bd.state]; rfl
  have N0 := Fr.nil n0
  have pre0 : ∀ t, oS p e below s₁ (mkF m 0 #[vR sa, vI 0, vI 40, .unset, .unset, .unset] []) t → oS p e below s₁ (entryFrame m #[(.ref sa), (.int 0), (.int 40)] 6) t := fun t k => castTop (ef_5 m sa (0 : Int32) (40 : Int32)) k
  have hrl : rr < cs.length := by omega
  have hcr := hWs _ (own_getmem hrl)
  have hdr : (cs.take 40).getD rr 0 = cs.getD rr 0 := by rw [List.getD_eq_getElem?_getD, List.getD_eq_getElem?_getD, List.getElem?_take_of_lt hrn]
  have hrt : rr < (cs.take 40).length := by rw [own_take40 hG40]; exact hrn
  obtain ⟨T1, h1, ky1, X1, e1, E1, A1, st1⟩ := newP X0 hx hZ (ow hw 16 rfl) e0 (g := (mkF m 1 #[vR sa, vI 0, vI 40, .unset, .unset, .unset] [(.int 40)])) rfl (oh hby D36 1 rfl) rfl ((by decide) : ¬ ((40 : Int32) < (0 : Int32))) (cap := 40) ((by decide) : (40 : Int32).toNatClampNeg ≤ 40) (by decide) (by decide) (by decide)
  obtain ⟨b1, g1⟩ : ∃ z, z = h0.size := ⟨_, rfl⟩
  rw [← g1] at A1 st1
  have V1 : Arv Z h1 b1 ky1 .byte (40 : Int32) [] (.int 0) := Arv.new A1 (by decide)
  have U1 : Arv Z h1 b1 ky1 .byte (40 : Int32) [(.int 0), (.int 0), (.int 0), (.int 0), (.int 0), (.int 0), (.int 0), (.int 0), (.int 0), (.int 0), (.int 0), (.int 0), (.int 0), (.int 0), (.int 0), (.int 0), (.int 0), (.int 0), (.int 0), (.int 0), (.int 0), (.int 0), (.int 0), (.int 0), (.int 0), (.int 0), (.int 0), (.int 0), (.int 0), (.int 0), (.int 0), (.int 0), (.int 0), (.int 0), (.int 0), (.int 0), (.int 0), (.int 0), (.int 0), (.int 0)] (.int 0) := V1.pad (pad_rep [] (.int 0) 40)
  have c2 := (q5.ext E1)
  have c3 := (q6.ext E1)
  have ge4 : n0 ≤ b1 := Nat.le_trans Z0 (Nat.le_trans (Nat.le_refl _) (Nat.le_of_eq g1.symm))
  have ne5 : sa ≠ b1 := Nat.ne_of_lt (Nat.lt_of_lt_of_le q6.lt (Nat.le_of_eq g1.symm))
  obtain ⟨_, _, ⟨T6, L6, k6, n6⟩, -, X6, ⟨Lc6, hQ6, l6, y6, z6⟩, st6⟩ := Jvm.LawKit.callS X1 hx (y := y_36) hown (mvT hZ (ow hw 242 rfl)) (mvT hZ (ow hw 243 rfl)) (mvT hZ (ow hw 46 rfl)) (mvT hZ (ow hw 244 rfl)) (by decide) (backOf (W := 0) (rm_cb5w l Z a0 hw [] sa ks cs b1 ky1 ([(.int 0), (.int 0), (.int 0), (.int 0), (.int 0), (.int 0), (.int 0), (.int 0), (.int 0), (.int 0), (.int 0), (.int 0), (.int 0), (.int 0), (.int 0), (.int 0), (.int 0), (.int 0), (.int 0), (.int 0), (.int 0), (.int 0), (.int 0), (.int 0), (.int 0), (.int 0), (.int 0), (.int 0), (.int 0), (.int 0), (.int 0), (.int 0), (.int 0), (.int 0), (.int 0), (.int 0), (.int 0), (.int 0), (.int 0), (.int 0)]) rr fm h1 n0 (Nat.le_trans Z0 E1.1) q0 hFM q2 q3 q4 c2 c3 U1 ge4 ne5 hWs (hG44) hG40 (rfl) hrn hwide hlow) hZ (ow hw 244 rfl) (ow hw 46 rfl) (by decide) (by decide)) (g := (mkF m 9 #[vR sa, vI 0, vI 40, vR b1, .unset, .unset] [(.int 40), (.int 0), (.ref b1), (.int 0), (.ref sa)])) rfl (by rw [hml]; rfl) (argsL := [(.ref sa), (.int 0), (.ref b1), (.int 0), (.int 40)]) (rest := []) (lenOf pd_20 rfl) rfl (by show 2 * 0 + _ ≤ _; exact Nat.le_of_eq rfl) (oh hby D36 8 rfl) (fun _ _ => ⟨rfl, e1, (by decide : 1 + 0 ≤ _), (by decide : 40 + 0 ≤ _)⟩)
  dsimp only [Pt.U, Pt.locs, Pt.cells, Pt.slots] at X6 l6 y6 z6 st6 hQ6
  subst l6 y6 z6
  obtain ⟨rfl, Nq6, K6⟩ := hQ6
  have N6 := Fr.app N0 Nq6
  obtain ⟨_, _, ⟨T7, L7, k7, n7⟩, -, X7, ⟨Lc7, hQ7, l7, y7, z7⟩, st7⟩ := Jvm.LawKit.callS X6 hx (y := y_3) hown (mvT hZ (ow hw 222 rfl)) (mvT hZ (ow hw 223 rfl)) (mvT hZ (ow hw 46 rfl)) (mvT hZ (ow hw 224 rfl)) (by decide) (backOf (W := 2) (rm_nbl l Z a0 hw [] 40 T6.heap n0 (Nat.le_trans Z0 (Nat.le_trans E1.1 K6.1)) (by decide)) hZ (ow hw 224 rfl) (ow hw 46 rfl) (by decide) (by decide)) (g := (mkF m 27 #[vR sa, vI 0, vI 40, vR b1, vI (Int32.ofNat rr), .unset] [(.int 40), (.int 0), (.ref sa)])) rfl (by rw [hml]; rfl) (argsL := [(.int 40)]) (rest := [(.int 0), (.ref sa)]) (lenOf pd_0 rfl) rfl (by show 2 * 0 + _ ≤ _; exact Nat.le_of_eq rfl) (oh hby D36 20 rfl) (fun _ _ => ⟨rfl, rfl, (by decide : 1 + 0 ≤ _), (by decide : 40 + 0 ≤ _)⟩)
  dsimp only [Pt.U, Pt.locs, Pt.cells, Pt.slots] at X7 l7 y7 z7 st7 hQ7
  subst l7 y7 z7
  obtain ⟨rfl, Nq7, e7⟩ := hQ7
  have N7 := Fr.app N6 Nq7
  have c8 := (c3.keep K6 (ninS ne5 nin0))
  obtain ⟨_, _, ⟨T9, L9, k9, n9⟩, -, X9, ⟨Lc9, hQ9, l9, y9, z9⟩, st9⟩ := Jvm.LawKit.callS X7 hx (y := y_29) hown (mvT hZ (ow hw 257 rfl)) (mvT hZ (ow hw 97 rfl)) (mvT hZ (ow hw 98 rfl)) (mvT hZ (ow hw 99 rfl)) (by decide) (backOf (W := 0) (rm_cor l Z a0 hw [] sa (2 * 40) ks (2 * cs.length) (StrChars.Road.wideBytes cs) T6.heap n0 (Nat.le_trans Z0 (Nat.le_trans E1.1 K6.1)) c8 (by omega) (by omega) (by omega) (own_widelen cs)) hZ (ow hw 99 rfl) (ow hw 98 rfl) (by decide) (by decide)) (g := (mkF m 30 #[vR sa, vI 0, vI 40, vR b1, vI (Int32.ofNat rr), .unset] [(.int (Int32.ofNat (2 * 40))), (.int 0), (.ref sa)])) rfl (by rw [hml]; rfl) (argsL := [(.ref sa), (.int 0), (.int (Int32.ofNat (2 * 40)))]) (rest := []) (lenOf pd_16 rfl) rfl (by show 2 * 0 + _ ≤ _; exact Nat.le_of_eq rfl) (oh hby D36 21 rfl) (fun _ _ => ⟨rfl, e7, (by decide : 1 + 1 ≤ _), (by decide : 40 + 88 ≤ _)⟩)
  dsimp only [Pt.U, Pt.locs, Pt.cells, Pt.slots] at X9 l9 y9 z9 st9 hQ9
  subst l9 y9 z9
  obtain ⟨tt_9, kt_9, rfl, Nq9, K9, f9_0, f9_1⟩ := hQ9
  have N9 := Fr.app N7 Nq9
  have R10 : Arv Z T9.heap tt_9 kt_9 .byte (Int32.ofNat (2 * 40)) (StrChars.Road.wideBytes (cs.take 40)) (.int 0) := by have q := f9_1; rw [own_widetake] at q; exact q
  have c11 := ((c2.keep K6 (allS ge4 all0)).keep K9 all0)
  obtain ⟨_, _, ⟨T12, L12, k12, n12⟩, -, X12, ⟨Lc12, hQ12, l12, y12, z12⟩, st12⟩ := Jvm.LawKit.callS X9 hx (y := y_2) hown (mvT hZ (ow hw 232 rfl)) (mvT hZ (ow hw 233 rfl)) (mvT hZ (ow hw 46 rfl)) (mvT hZ (ow hw 234 rfl)) (by decide) (backOf (W := 0) (rm_getCh l Z a0 hw [] tt_9 rr (cs.getD rr 0) kt_9 (2 * 40) (StrChars.Road.wideBytes (cs.take 40)) T9.heap n0 (Nat.le_trans Z0 (Nat.le_trans (Nat.le_trans E1.1 K6.1) K9.1)) q2 q3 q4 c11 R10 (by omega) (by omega) (by rw [← hdr]; exact StrChars.Road.wide_lo _ _ _ hrt) (by rw [← hdr]; exact StrChars.Road.wide_hi _ _ _ hrt) (hcr.1) (hcr.2)) hZ (ow hw 234 rfl) (ow hw 46 rfl) (by decide) (by decide)) (g := (mkF m 39 #[vR sa, vI 0, vI 40, vR b1, vI (Int32.ofNat rr), vR tt_9] [(.int (Int32.ofNat rr)), (.ref tt_9)])) rfl (by rw [hml]; rfl) (argsL := [(.ref tt_9), (.int (Int32.ofNat rr))]) (rest := []) (lenOf pd_5 rfl) rfl (by show 2 * 0 + _ ≤ _; exact Nat.le_of_eq rfl) (oh hby D36 25 rfl) (fun _ _ => ⟨rfl, rfl, (by decide : 2 + 0 ≤ _), (by decide : 128 + 0 ≤ _)⟩)
  dsimp only [Pt.U, Pt.locs, Pt.cells, Pt.slots] at X12 l12 y12 z12 st12 hQ12
  subst l12 y12 z12
  obtain ⟨rfl, Nq12, e12⟩ := hQ12
  have N12 := Fr.app N9 Nq12
  obtain ⟨fs, hr, hrun, hended, hW, hsame⟩ := X12.leave (v := some (.ref tt_9)) (fun h => by rw [Bd.returns] at h; cases h)
  refine ⟨_, _, pre0 _ ?_, hrun, hended, _, _, rfl, ?_, ⟨_, rfl⟩, hW, hsame.mono (by decide) (by decide)⟩
  · refine XS.iloadN X0.here hx rfl (oh hby D36 0 rfl) rfl ?_
    refine st1 _ ?_
    show oS p e below T1 (mkF m 3 #[vR sa, vI 0, vI 40, .unset, .unset, .unset] [(.ref b1)]) _
    refine XS.astoreN X1.here hx rfl (oh hby D36 2 rfl) rfl rfl (l' := #[vR sa, vI 0, vI 40, vR b1, .unset, .unset]) rfl ?_
    refine XS.aloadN X1.here hx rfl (oh hby D36 3 rfl) rfl rfl ?_
    refine XS.iloadN X1.here hx rfl (oh hby D36 4 rfl) rfl ?_
    refine XS.aloadN X1.here hx rfl (oh hby D36 5 rfl) rfl rfl ?_
    refine XS.iconst X1.here hx rfl (oh hby D36 6 rfl) ?_
    show oS p e below T1 (mkF m 8 #[vR sa, vI 0, vI 40, vR b1, .unset, .unset] [(.int 0), (.ref b1), (.int 0), (.ref sa)]) _
    refine XS.iloadN X1.here hx rfl (oh hby D36 7 rfl) rfl ?_
    refine st6 _ ?_
    show oS p e below T6 (mkF m 12 #[vR sa, vI 0, vI 40, vR b1, .unset, .unset] [(.int (Int32.ofNat rr))]) _
    refine XS.istore X6.here hx rfl (oh hby D36 9 rfl) rfl (l' := #[vR sa, vI 0, vI 40, vR b1, vI (Int32.ofNat rr), .unset]) rfl ?_
    refine XS.iload X6.here hx rfl (oh hby D36 10 rfl) rfl ?_
    refine XS.iloadN X6.here hx rfl (oh hby D36 11 rfl) rfl ?_
    refine XS.icmpNo X6.here hx rfl (oh hby D36 12 rfl) rfl (feq ((fun q => absurd (own_oinj (i := rr) (n := 40) (by omega) (by omega) q) (by omega)) : ¬ ((Int32.ofNat rr) = (40 : Int32)))).1 ?_
    refine XS.aloadN X6.here hx rfl (oh hby D36 13 rfl) rfl rfl ?_
    show oS p e below T6 (mkF m 21 #[vR sa, vI 0, vI 40, vR b1, vI (Int32.ofNat rr), .unset] [(.ref sa)]) _
    refine XS.iloadN X6.here hx rfl (oh hby D36 14 rfl) rfl ?_
    refine XS.iconst X6.here hx rfl (oh hby D36 15 rfl) ?_
    refine XS.ishl X6.here hx rfl (oh hby D36 16 rfl) rfl ?_
    refine XS.iloadN X6.here hx rfl (oh hby D36 17 rfl) rfl ?_
    refine XS.iloadN X6.here hx rfl (oh hby D36 18 rfl) rfl ?_
    show oS p e below T6 (mkF m 26 #[vR sa, vI 0, vI 40, vR b1, vI (Int32.ofNat rr), .unset] [(.int 40), (.int 0), (.int 0), (.ref sa)]) _
    refine XS.iadd X6.here hx rfl (oh hby D36 19 rfl) rfl ?_
    refine st7 _ ?_
    show oS p e below T7 (mkF m 30 #[vR sa, vI 0, vI 40, vR b1, vI (Int32.ofNat rr), .unset] [(.int (Int32.ofNat (2 * 40))), (.int 0), (.ref sa)]) _
    refine st9 _ ?_
    show oS p e below T9 (mkF m 33 #[vR sa, vI 0, vI 40, vR b1, vI (Int32.ofNat rr), .unset] [(.ref tt_9)]) _
    refine XS.astore X9.here hx rfl (oh hby D36 22 rfl) rfl rfl (l' := #[vR sa, vI 0, vI 40, vR b1, vI (Int32.ofNat rr), vR tt_9]) rfl ?_
    refine XS.aload X9.here hx rfl (oh hby D36 23 rfl) rfl rfl ?_
    refine XS.iload X9.here hx rfl (oh hby D36 24 rfl) rfl ?_
    refine st12 _ ?_
    show oS p e below T12 (mkF m 42 #[vR sa, vI 0, vI 40, vR b1, vI (Int32.ofNat rr), vR tt_9] [(.int (cs.getD rr 0))]) _
    refine XS.sipush X12.here hx rfl (oh hby D36 26 rfl) ?_
    refine XS.icmpYes X12.here hx rfl (pc0 := 45) (pc' := 61) rfl (oh hby D36 27 rfl) rfl (tlt (hwide : (255 : Int32) < (cs.getD rr 0))).2.2.1 (by decide) (by decide) ?_
    refine XS.aload X12.here hx rfl (oh hby D36 28 rfl) rfl rfl ?_
    show oS p e below T12 (mkF m 63 #[vR sa, vI 0, vI 40, vR b1, vI (Int32.ofNat rr), vR tt_9] [(.ref tt_9)]) _
    jvm_step X12.here [X12.here.top, hx, (oh hby D36 29 rfl), X12.method', Bd.returns, Value.isRef, FieldType.isReference]
    first | (intro acts; rw [hr _ acts rfl rfl rfl]) | rw [hr _ _ rfl rfl rfl]
    exact Steps.refl _
  · show Q_cb3w Z sa ks cs rr fm h0 n0 _ T12.heap _
    rw [e12]
    exact ⟨tt_9, kt_9, rfl, N12, ((((Keep.refl h0 ([] : List Addr)).ext E1).trans K6 (allS (Or.inr (Nat.le_trans (Nat.le_refl _) (Nat.le_of_eq g1.symm))) all0)).trans K9 all0), (Nat.le_trans (Nat.le_trans E1.1 K6.1) f9_0), R10⟩
def Q_nsWl (Z : State) (sa : Addr) (ks : ClassId) (cs : List Int32) (G : Int32) (fm : Value) (h0 : Heap) (n0 : Nat) (v : Option Value) (h : Heap) (L : List Loc) : Prop := ∃ (xr : Addr) (tt : Addr) (kt : ClassId), (v = some (.ref xr)) ∧ (Fr n0 L) ∧ (Keep h0 h ([] : List Addr)) ∧ (h0.size ≤ xr) ∧ (h0.size ≤ tt) ∧ (eS Z h xr) ∧ (fV Z h xr (.ref tt)) ∧ (fC Z h xr (.int 0)) ∧ (Arv Z h tt kt .byte (40 : Int32) (own_bs (cs.take 40)) (.int 0))
set_option maxRecDepth 65536 in
set_option maxHeartbeats 40000000 in
theorem rm_nsWl (l : Launch) (Z : State) (a0 : Array Value) (hw : HW Z a0) (ws : List Jvm.Cond) (sa : Addr) (ks : ClassId) (cs : List Int32) (G : Int32) (fm : Value) (h0 : Heap) (n0 : Nat) (Z0 : n0 ≤ h0.size) (q0 : sC Z G) (hCS : ¬ (G = (0 : Int32))) (q2 : sF Z fm) (hFM : fm.isRef = true) (q4 : sA Z) (q5 : sH Z) (q6 : sL Z) (q7 : Old Z n0 h0) (q8 : Arv Z h0 sa ks .byte (Int32.ofNat (2 * cs.length)) (StrChars.Road.wideBytes cs) (.int 0)) (hWs : ∀ c ∈ cs, own_W c) (hG40 : 40 < cs.length) (hG44 : cs.length ≤ 44) (hlow : ∀ q, q < 40 → ¬ (255 : Int32) < cs.getD q 0) :
    mF l y_38 jdk_52_method_69_code 5 (some (.object "java/lang/String")) ws (rmk 5 2 44 78) #[(.ref sa), (.int 0), (.int 40)] Z h0 (Q_nsWl Z sa ks cs G fm h0 n0) := by
  refine MetFree.of_bodySF (plainFor_of_name pn_0) hisR ?_
  intro p e s m args below meth c s₁ Bd hml0 hP hK
  obtain ⟨rfl, hZ, hh⟩ := hP
  have hx := Bd.exec
  have hby := Bd.bytes
  have hml : c.maxLocals = 5 := hml0
  have hown : s.vm.findClass "java/lang/StringUTF16" = some m.cls := findClass_of_methodNamed Bd.named
  have hnm := (name_of_methodNamed Bd.named Bd.method).1
  have X0 : Stand p l e (rmk 5 2 44 78) s m #[(.ref sa), (.int 0), (.int 40)] below meth c s₁ [] 0 0 := Stand.of_body Bd
  have e0 : s₁.heap = h0 := by rw [← hh, Bd.state]; rfl
  have N0 := Fr.nil n0
  have pre0 : ∀ t, oS p e below s₁ (mkF m 0 #[vR sa, vI 0, vI 40, .unset, .unset] []) t → oS p e below s₁ (entryFrame m #[(.ref sa), (.int 0), (.int 40)] 5) t := fun t k => castTop (ef_4 m sa (0 : Int32) (40 : Int32)) k
  obtain ⟨T1, X1, e1, st1⟩ := getS2 X0 hx hZ hown (host := "") (Or.inl (ow hw 238 rfl)) Via.refl e0 (q0.ext q7.2) (g := (mkF m 8 #[vR sa, vI 0, vI 40, .unset, .unset] [])) rfl (oh hby D37 2 rfl)
  obtain ⟨_, _, ⟨T2, L2, k2, n2⟩, -, X2, ⟨Lc2, hQ2, l2, y2, z2⟩, st2⟩ := Jvm.LawKit.callS X1 hx (y := y_37) hown (mvT hZ (ow hw 239 rfl)) (mvT hZ (ow hw 240 rfl)) (mvT hZ (ow hw 46 rfl)) (mvT hZ (ow hw 241 rfl)) (by decide) (backOf (W := 0) (rm_cb3l l Z a0 hw [] sa ks cs fm h0 n0 Z0 q2 hFM q4 q5 q6 q7 q8 hWs hG40 hG44 hlow) hZ (ow hw 241 rfl) (ow hw 46 rfl) (by decide) (by decide)) (g := (mkF m 17 #[vR sa, vI 0, vI 40, .unset, .unset] [(.int 40), (.int 0), (.ref sa)])) rfl (by rw [hml]; rfl) (argsL := [(.ref sa), (.int 0), (.int 40)]) (rest := []) (lenOf pd_16 rfl) rfl (by show 2 * 0 + _ ≤ _; exact Nat.le_of_eq rfl) (oh hby D37 7 rfl) (fun _ _ => ⟨rfl, e1, (by decide : 0 + 1 ≤ _), (by decide : 0 + 40 ≤ _)⟩)
  dsimp only [Pt.U, Pt.locs, Pt.cells, Pt.slots] at X2 l2 y2 z2 st2 hQ2
  subst l2 y2 z2
  obtain ⟨tt_2, kt_2, rfl, Nq2, K2, f2_0, f2_1⟩ := hQ2
  have N2 := Fr.app N0 Nq2
  obtain ⟨_, _, ⟨T3, L3, k3, n3⟩, -, X3, ⟨Lc3, hQ3, l3, y3, z3⟩, st3⟩ := Jvm.LawKit.callS X2 hx (y := y_7) hown (mvT hZ (ow hw 258 rfl)) (mvT hZ (ow hw 52 rfl)) (mvT hZ (ow hw 46 rfl)) (mvT hZ (ow hw 53 rfl)) (by decide) (backOf (W := 0) (rm_codL0 l Z a0 hw [] tt_2 40 kt_2 (own_bs (cs.take 40)) T2.heap n0 (Nat.le_trans Z0 K2.1) f2_1) hZ (ow hw 53 rfl) (ow hw 46 rfl) (by decide) (by decide)) (g := (mkF m 23 #[vR sa, vI 0, vI 40, vR tt_2, .unset] [(.int 40), (.ref tt_2)])) rfl (by rw [hml]; rfl) (argsL := [(.ref tt_2), (.int 40)]) (rest := []) (lenOf pd_6 rfl) rfl (by show 2 * 0 + _ ≤ _; exact Nat.le_of_eq rfl) (oh hby D37 11 rfl) (fun _ _ => ⟨rfl, rfl, (by decide : 1 + 0 ≤ _), (by decide : 40 + 0 ≤ _)⟩)
  dsimp only [Pt.U, Pt.locs, Pt.cells, Pt.slots] at X3 l3 y3 z3 st3 hQ3
  subst l3 y3 z3
  obtain ⟨rfl, Nq3, e3⟩ := hQ3
  have N3 := Fr.app N2 Nq3
  obtain ⟨T4, h4, X4, e4, E4, A4, D4, -, st4⟩ := newO X3 hx hZ hown (ow hw 259 rfl) (ow hw 3 rfl) (ow hw 4 rfl) e3 (g := (mkF m 28 #[vR sa, vI 0, vI 40, vR tt_2, vI 0] [])) rfl (oh hby D37 13 rfl) (by decide) (by decide)
  obtain ⟨b4, g4⟩ : ∃ z, z = T2.heap.size := ⟨_, rfl⟩
  rw [← g4] at A4 D4 st4
  have D4_value : fV Z h4 b4 .null := D4 (Or.inr (ow hw 17 rfl)) (ty := (.array .byte)) (by decide)
  have D4_coder : fC Z h4 b4 (.int 0) := D4 (Or.inr (ow hw 18 rfl)) (ty := .byte) (by decide)
  have ge5 : n0 ≤ b4 := Nat.le_trans Z0 (Nat.le_trans K2.1 (Nat.le_of_eq g4.symm))
  obtain ⟨_, _, ⟨T6, L6, k6, n6⟩, -, X6, ⟨Lc6, hQ6, l6, y6, z6⟩, st6⟩ := X4.specialBack hx (y := y_33) rfl hown (mvT hZ (ow hw 260 rfl)) (mvT hZ (ow hw 115 rfl)) (mvT hZ (ow hw 116 rfl)) (by decide) (backOf (W := 1) (rm_strBB0 l Z a0 hw [] b4 tt_2 h4 n0 (Nat.le_trans Z0 (Nat.le_trans K2.1 E4.1)) A4 D4_value D4_coder ge5) hZ (ow hw 116 rfl) (ow hw 4 rfl) (by decide) (by decide)) (g := (mkF m 35 #[vR sa, vI 0, vI 40, vR tt_2, vI 0] [(.int 0), (.ref tt_2), (.ref b4), (.ref b4)])) rfl (by rw [hml]; rfl) (Steps.refl _) (a := b4) (argsL := [(.ref tt_2), (.int 0)]) (rest := [(.ref b4)]) (lenOf pd_17 rfl) rfl (by show 2 * 0 + _ ≤ _; exact Nat.le_of_eq rfl) (oh hby D37 17 rfl) (fun _ _ => ⟨rfl, e4, (by decide : 2 + 0 ≤ _), (by decide : 44 + 0 ≤ _)⟩)
  dsimp only [Pt.U, Pt.locs, Pt.cells, Pt.slots] at X6 l6 y6 z6 st6 hQ6
  subst l6 y6 z6
  obtain ⟨rfl, Nq6, K6, f6_0, f6_1⟩ := hQ6
  have N6 := Fr.app N3 Nq6
  have ne7 : tt_2 ≠ b4 := Nat.ne_of_lt (Nat.lt_of_lt_of_le f2_1.lt (Nat.le_of_eq g4.symm))
  have c8 := ((f2_1.ext E4).keep K6 (ninS ne7 nin0))
  have c9 := (A4.keep K6)
  obtain ⟨fs, hr, hrun, hended, hW, hsame⟩ := X6.leave (v := some (.ref b4)) (fun h => by rw [Bd.returns] at h; cases h)
  refine ⟨_, _, pre0 _ ?_, hrun, hended, _, _, rfl, ?_, ⟨_, rfl⟩, hW, hsame.mono (by decide) (by decide)⟩
  · refine XS.iloadN X0.here hx rfl (oh hby D37 0 rfl) rfl ?_
    refine XS.ifYes X0.here hx rfl (pc0 := 1) (pc' := 8) rfl (oh hby D37 1 rfl) rfl ((if0 _ _).trans (feq ((by decide) : ¬ ((40 : Int32) = (0 : Int32)))).2) (by decide) (by decide) ?_
    refine st1 _ ?_
    show oS p e below T1 (mkF m 11 #[vR sa, vI 0, vI 40, .unset, .unset] [(.int G)]) _
    refine XS.ifNo X1.here hx rfl (oh hby D37 3 rfl) rfl ((if0 _ _).trans (feq (hCS : ¬ (G = (0 : Int32)))).1) ?_
    refine XS.aloadN X1.here hx rfl (oh hby D37 4 rfl) rfl rfl ?_
    refine XS.iloadN X1.here hx rfl (oh hby D37 5 rfl) rfl ?_
    refine XS.iloadN X1.here hx rfl (oh hby D37 6 rfl) rfl ?_
    refine st2 _ ?_
    show oS p e below T2 (mkF m 20 #[vR sa, vI 0, vI 40, .unset, .unset] [(.ref tt_2)]) _
    refine XS.astoreN X2.here hx rfl (oh hby D37 8 rfl) rfl rfl (l' := #[vR sa, vI 0, vI 40, vR tt_2, .unset]) rfl ?_
    refine XS.aloadN X2.here hx rfl (oh hby D37 9 rfl) rfl rfl ?_
    refine XS.iloadN X2.here hx rfl (oh hby D37 10 rfl) rfl ?_
    refine st3 _ ?_
    show oS p e below T3 (mkF m 26 #[vR sa, vI 0, vI 40, vR tt_2, .unset] [(.int 0)]) _
    refine XS.istore X3.here hx rfl (oh hby D37 12 rfl) rfl (l' := #[vR sa, vI 0, vI 40, vR tt_2, vI 0]) rfl ?_
    refine st4 _ ?_
    show oS p e below T4 (mkF m 31 #[vR sa, vI 0, vI 40, vR tt_2, vI 0] [(.ref b4)]) _
    refine XS.dup X4.here hx rfl (oh hby D37 14 rfl) rfl rfl ?_
    refine XS.aloadN X4.here hx rfl (oh hby D37 15 rfl) rfl rfl ?_
    refine XS.iload X4.here hx rfl (oh hby D37 16 rfl) rfl ?_
    refine st6.trans ?_
    show oS p e below T6 (mkF m 38 #[vR sa, vI 0, vI 40, vR tt_2, vI 0] [(.ref b4)]) _
    jvm_step X6.here [X6.here.top, hx, (oh hby D37 18 rfl), X6.method', Bd.returns, Value.isRef, FieldType.isReference]
    first | (intro acts; rw [hr _ acts rfl rfl rfl]) | rw [hr _ _ rfl rfl rfl]
    exact Steps.refl _
  · show Q_nsWl Z sa ks cs G fm h0 n0 _ T6.heap _
    exact ⟨b4, tt_2, kt_2, rfl, N6, ((((Keep.refl h0 ([] : List Addr)).trans K2 all0).ext E4).trans K6 (allS (Or.inr (Nat.le_trans K2.1 (Nat.le_of_eq g4.symm))) all0)), (Nat.le_trans K2.1 (Nat.le_of_eq g4.symm)), (Nat.le_trans (Nat.le_refl _) f2_0), c9, f6_0, f6_1, c8⟩
def Q_nsWw (Z : State) (sa : Addr) (ks : ClassId) (cs : List Int32) (rr : Nat) (G : Int32) (fm : Value) (h0 : Heap) (n0 : Nat) (v : Option Value) (h : Heap) (L : List Loc) : Prop := ∃ (xr : Addr) (tt : Addr) (kt : ClassId), (v = some (.ref xr)) ∧ (Fr n0 L) ∧ (Keep h0 h ([] : List Addr)) ∧ (h0.size ≤ xr) ∧ (h0.size ≤ tt) ∧ (eS Z h xr) ∧ (fV Z h xr (.ref tt)) ∧ (fC Z h xr (.int 1)) ∧ (Arv Z h tt kt .byte (Int32.ofNat (2 * 40)) (StrChars.Road.wideBytes (cs.take 40)) (.int 0))
set_option maxRecDepth 65536 in
set_option maxHeartbeats 40000000 in
theorem rm_nsWw (l : Launch) (Z : State) (a0 : Array Value) (hw : HW Z a0) (ws : List Jvm.Cond) (sa : Addr) (ks : ClassId) (cs : List Int32) (rr : Nat) (G : Int32) (fm : Value) (h0 : Heap) (n0 : Nat) (Z0 : n0 ≤ h0.size) (q0 : sC Z G) (hCS : ¬ (G = (0 : Int32))) (q2 : sF Z fm) (hFM : fm.isRef = true) (q4 : sA Z) (q5 : sH Z) (q6 : sL Z) (q7 : Old Z n0 h0) (q8 : Arv Z h0 sa ks .byte (Int32.ofNat (2 * cs.length)) (StrChars.Road.wideBytes cs) (.int 0)) (hWs : ∀ c ∈ cs, own_W c) (hG40 : 40 < cs.length) (hG44 : cs.length ≤ 44) (hrn : rr < 40) (hwide : (255 : Int32) < cs.getD rr 0) (hlow : ∀ q, q < rr → ¬ (255 : Int32) < cs.getD q 0) :
    mF l y_38 jdk_52_method_69_code 5 (some (.object "java/lang/String")) ws (rmk 5 3 132 78) #[(.ref sa), (.int 0), (.int 40)] Z h0 (Q_nsWw Z sa ks cs rr G fm h0 n0) := by
  refine MetFree.of_bodySF (plainFor_of_name pn_0) hisR ?_
  intro p e s m args below meth c s₁ Bd hml0 hP hK
  obtain ⟨rfl, hZ, hh⟩ := hP
  have hx := Bd.exec
  have hby := Bd.bytes
  have hml : c.maxLocals = 5 := hml0
  have hown : s.vm.findClass "java/lang/StringUTF16" = some m.cls := findClass_of_methodNamed Bd.named
  have hnm := (name_of_methodNamed Bd.named Bd.method).1
  have X0 : Stand p l e (rmk 5 3 132 78) s m #[(.ref sa), (.int 0), (.int 40)] below meth c s₁ [] 0 0 := Stand.of_body Bd
  have e0 : s₁.heap = h0 := by rw [← hh, Bd.state]; rfl
  have N0 := Fr.nil n0
  have pre0 : ∀ t, oS p e below s₁ (mkF m 0 #[vR sa, vI 0, vI 40, .unset, .unset] []) t → oS p e below s₁ (entryFrame m #[(.ref sa), (.int 0), (.int 40)] 5) t := fun t k => castTop (ef_4 m sa (0 : Int32) (40 : Int32)) k
  obtain ⟨T1, X1, e1, st1⟩ := getS2 X0 hx hZ hown (host := "") (Or.inl (ow hw 238 rfl)) Via.refl e0 (q0.ext q7.2) (g := (mkF m 8 #[vR sa, vI 0, vI 40, .unset, .unset] [])) rfl (oh hby D37 2 rfl)
  obtain ⟨_, _, ⟨T2, L2, k2, n2⟩, -, X2, ⟨Lc2, hQ2, l2, y2, z2⟩, st2⟩ := Jvm.LawKit.callS X1 hx (y := y_37) hown (mvT hZ (ow hw 239 rfl)) (mvT hZ (ow hw 240 rfl)) (mvT hZ (ow hw 46 rfl)) (mvT hZ (ow hw 241 rfl)) (by decide) (backOf (W := 0) (rm_cb3w l Z a0 hw [] sa ks cs rr fm h0 n0 Z0 q2 hFM q4 q5 q6 q7 q8 hWs hG40 hG44 hrn hwide hlow) hZ (ow hw 241 rfl) (ow hw 46 rfl) (by decide) (by decide)) (g := (mkF m 17 #[vR sa, vI 0, vI 40, .unset, .unset] [(.int 40), (.int 0), (.ref sa)])) rfl (by rw [hml]; rfl) (argsL := [(.ref sa), (.int 0), (.int 40)]) (rest := []) (lenOf pd_16 rfl) rfl (by show 2 * 0 + _ ≤ _; exact Nat.le_of_eq rfl) (oh hby D37 7 rfl) (fun _ _ => ⟨rfl, e1, (by decide : 0 + 2 ≤ _), (by decide : 0 + 128 ≤ _)⟩)
  dsimp only [Pt.U, Pt.locs, Pt.cells, Pt.slots] at X2 l2 y2 z2 st2 hQ2
  subst l2 y2 z2
  obtain ⟨tt_2, kt_2, rfl, Nq2, K2, f2_0, f2_1⟩ := hQ2
  have N2 := Fr.app N0 Nq2
  obtain ⟨_, _, ⟨T3, L3, k3, n3⟩, -, X3, ⟨Lc3, hQ3, l3, y3, z3⟩, st3⟩ := Jvm.LawKit.callS X2 hx (y := y_7) hown (mvT hZ (ow hw 258 rfl)) (mvT hZ (ow hw 52 rfl)) (mvT hZ (ow hw 46 rfl)) (mvT hZ (ow hw 53 rfl)) (by decide) (backOf (W := 0) (rm_codL1 l Z a0 hw [] tt_2 40 kt_2 (StrChars.Road.wideBytes (cs.take 40)) T2.heap n0 (Nat.le_trans Z0 K2.1) f2_1 (by decide) (by decide)) hZ (ow hw 53 rfl) (ow hw 46 rfl) (by decide) (by decide)) (g := (mkF m 23 #[vR sa, vI 0, vI 40, vR tt_2, .unset] [(.int 40), (.ref tt_2)])) rfl (by rw [hml]; rfl) (argsL := [(.ref tt_2), (.int 40)]) (rest := []) (lenOf pd_6 rfl) rfl (by show 2 * 0 + _ ≤ _; exact Nat.le_of_eq rfl) (oh hby D37 11 rfl) (fun _ _ => ⟨rfl, rfl, (by decide : 2 + 0 ≤ _), (by decide : 128 + 0 ≤ _)⟩)
  dsimp only [Pt.U, Pt.locs, Pt.cells, Pt.slots] at X3 l3 y3 z3 st3 hQ3
  subst l3 y3 z3
  obtain ⟨rfl, Nq3, e3⟩ := hQ3
  have N3 := Fr.app N2 Nq3
  obtain ⟨T4, h4, X4, e4, E4, A4, D4, -, st4⟩ := newO X3 hx hZ hown (ow hw 259 rfl) (ow hw 3 rfl) (ow hw 4 rfl) e3 (g := (mkF m 28 #[vR sa, vI 0, vI 40, vR tt_2, vI 1] [])) rfl (oh hby D37 13 rfl) (by decide) (by decide)
  obtain ⟨b4, g4⟩ : ∃ z, z = T2.heap.size := ⟨_, rfl⟩
  rw [← g4] at A4 D4 st4
  have D4_value : fV Z h4 b4 .null := D4 (Or.inr (ow hw 17 rfl)) (ty := (.array .byte)) (by decide)
  have D4_coder : fC Z h4 b4 (.int 0) := D4 (Or.inr (ow hw 18 rfl)) (ty := .byte) (by decide)
  have ge5 : n0 ≤ b4 := Nat.le_trans Z0 (Nat.le_trans K2.1 (Nat.le_of_eq g4.symm))
  obtain ⟨_, _, ⟨T6, L6, k6, n6⟩, -, X6, ⟨Lc6, hQ6, l6, y6, z6⟩, st6⟩ := X4.specialBack hx (y := y_33) rfl hown (mvT hZ (ow hw 260 rfl)) (mvT hZ (ow hw 115 rfl)) (mvT hZ (ow hw 116 rfl)) (by decide) (backOf (W := 1) (rm_strBB1 l Z a0 hw [] b4 tt_2 h4 n0 (Nat.le_trans Z0 (Nat.le_trans K2.1 E4.1)) A4 D4_value D4_coder ge5) hZ (ow hw 116 rfl) (ow hw 4 rfl) (by decide) (by decide)) (g := (mkF m 35 #[vR sa, vI 0, vI 40, vR tt_2, vI 1] [(.int 1), (.ref tt_2), (.ref b4), (.ref b4)])) rfl (by rw [hml]; rfl) (Steps.refl _) (a := b4) (argsL := [(.ref tt_2), (.int 1)]) (rest := [(.ref b4)]) (lenOf pd_17 rfl) rfl (by show 2 * 0 + _ ≤ _; exact Nat.le_of_eq rfl) (oh hby D37 17 rfl) (fun _ _ => ⟨rfl, e4, (by decide : 3 + 0 ≤ _), (by decide : 132 + 0 ≤ _)⟩)
  dsimp only [Pt.U, Pt.locs, Pt.cells, Pt.slots] at X6 l6 y6 z6 st6 hQ6
  subst l6 y6 z6
  obtain ⟨rfl, Nq6, K6, f6_0, f6_1⟩ := hQ6
  have N6 := Fr.app N3 Nq6
  have ne7 : tt_2 ≠ b4 := Nat.ne_of_lt (Nat.lt_of_lt_of_le f2_1.lt (Nat.le_of_eq g4.symm))
  have c8 := ((f2_1.ext E4).keep K6 (ninS ne7 nin0))
  have c9 := (A4.keep K6)
  obtain ⟨fs, hr, hrun, hended, hW, hsame⟩ := X6.leave (v := some (.ref b4)) (fun h => by rw [Bd.returns] at h; cases h)
  refine ⟨_, _, pre0 _ ?_, hrun, hended, _, _, rfl, ?_, ⟨_, rfl⟩, hW, hsame.mono (by decide) (by decide)⟩
  · refine XS.iloadN X0.here hx rfl (oh hby D37 0 rfl) rfl ?_
    refine XS.ifYes X0.here hx rfl (pc0 := 1) (pc' := 8) rfl (oh hby D37 1 rfl) rfl ((if0 _ _).trans (feq ((by decide) : ¬ ((40 : Int32) = (0 : Int32)))).2) (by decide) (by decide) ?_
    refine st1 _ ?_
    show oS p e below T1 (mkF m 11 #[vR sa, vI 0, vI 40, .unset, .unset] [(.int G)]) _
    refine XS.ifNo X1.here hx rfl (oh hby D37 3 rfl) rfl ((if0 _ _).trans (feq (hCS : ¬ (G = (0 : Int32)))).1) ?_
    refine XS.aloadN X1.here hx rfl (oh hby D37 4 rfl) rfl rfl ?_
    refine XS.iloadN X1.here hx rfl (oh hby D37 5 rfl) rfl ?_
    refine XS.iloadN X1.here hx rfl (oh hby D37 6 rfl) rfl ?_
    refine st2 _ ?_
    show oS p e below T2 (mkF m 20 #[vR sa, vI 0, vI 40, .unset, .unset] [(.ref tt_2)]) _
    refine XS.astoreN X2.here hx rfl (oh hby D37 8 rfl) rfl rfl (l' := #[vR sa, vI 0, vI 40, vR tt_2, .unset]) rfl ?_
    refine XS.aloadN X2.here hx rfl (oh hby D37 9 rfl) rfl rfl ?_
    refine XS.iloadN X2.here hx rfl (oh hby D37 10 rfl) rfl ?_
    refine st3 _ ?_
    show oS p e below T3 (mkF m 26 #[vR sa, vI 0, vI 40, vR tt_2, .unset] [(.int 1)]) _
    refine XS.istore X3.here hx rfl (oh hby D37 12 rfl) rfl (l' := #[vR sa, vI 0, vI 40, vR tt_2, vI 1]) rfl ?_
    refine st4 _ ?_
    show oS p e below T4 (mkF m 31 #[vR sa, vI 0, vI 40, vR tt_2, vI 1] [(.ref b4)]) _
    refine XS.dup X4.here hx rfl (oh hby D37 14 rfl) rfl rfl ?_
    refine XS.aloadN X4.here hx rfl (oh hby D37 15 rfl) rfl rfl ?_
    refine XS.iload X4.here hx rfl (oh hby D37 16 rfl) rfl ?_
    refine st6.trans ?_
    show oS p e below T6 (mkF m 38 #[vR sa, vI 0, vI 40, vR tt_2, vI 1] [(.ref b4)]) _
    jvm_step X6.here [X6.here.top, hx, (oh hby D37 18 rfl), X6.method', Bd.returns, Value.isRef, FieldType.isReference]
    first | (intro acts; rw [hr _ acts rfl rfl rfl]) | rw [hr _ _ rfl rfl rfl]
    exact Steps.refl _
  · show Q_nsWw Z sa ks cs rr G fm h0 n0 _ T6.heap _
    exact ⟨b4, tt_2, kt_2, rfl, N6, ((((Keep.refl h0 ([] : List Addr)).trans K2 all0).ext E4).trans K6 (allS (Or.inr (Nat.le_trans K2.1 (Nat.le_of_eq g4.symm))) all0)), (Nat.le_trans K2.1 (Nat.le_of_eq g4.symm)), (Nat.le_trans (Nat.le_refl _) f2_0), c9, f6_0, f6_1, c8⟩
theorem pd_21 : parseMethodDescriptor "(III)V" = some ⟨[.int, .int, .int], none⟩ := by decide +kernel
theorem pd_22 : parseMethodDescriptor "([BII)Ljava/lang/String;" = some ⟨[(.array .byte), .int, .int], some (.object "java/lang/String")⟩ := by decide +kernel
def Q_sub40 (Z : State) (xs : Addr) (t1 : Addr) (k1 : ClassId) (cd : Int32) (nn : Int32) (vs : List Value) (cs : List Int32) (G : Int32) (fm : Value) (h0 : Heap) (n0 : Nat) (v : Option Value) (h : Heap) (L : List Loc) : Prop := ∃ (xr : Addr) (tt : Addr) (kt : ClassId) (cq : Int32) (nq : Int32) (vq : List Value), (v = some (.ref xr)) ∧ (Fr n0 L) ∧ (Keep h0 h ([] : List Addr)) ∧ (h0.size ≤ xr) ∧ (h0.size ≤ tt) ∧ (eS Z h xr) ∧ (fV Z h xr (.ref tt)) ∧ (fC Z h xr (.int cq)) ∧ (Arv Z h tt kt .byte nq vq (.int 0)) ∧ ((cq = (0 : Int32) ∧ nq = (40 : Int32) ∧ vq = own_bs (cs.take 40) ∧ ∀ c ∈ (cs.take 40), ¬ (255 : Int32) < c) ∨ (cq = (1 : Int32) ∧ nq = Int32.ofNat (2 * 40) ∧ vq = StrChars.Road.wideBytes (cs.take 40) ∧ ∃ c ∈ (cs.take 40), (255 : Int32) < c))
set_option maxRecDepth 65536 in
set_option maxHeartbeats 40000000 in
theorem rm_sub40 (l : Launch) (Z : State) (a0 : Array Value) (hw : HW Z a0) (ws : List Jvm.Cond) (xs : Addr) (t1 : Addr) (k1 : ClassId) (cd : Int32) (nn : Int32) (vs : List Value) (cs : List Int32) (G : Int32) (fm : Value) (h0 : Heap) (n0 : Nat) (Z0 : n0 ≤ h0.size) (q0 : sC Z G) (hCS : ¬ (G = (0 : Int32))) (q2 : sF Z fm) (hFM : fm.isRef = true) (q4 : sA Z) (q5 : sH Z) (q6 : sL Z) (q7 : Old Z n0 h0) (q8 : eS Z h0 xs) (q9 : fV Z h0 xs (.ref t1)) (q10 : fC Z h0 xs (.int cd)) (q11 : Arv Z h0 t1 k1 .byte nn vs (.int 0)) (hcd1 : StrChars.Road.CodA cs cd nn vs) (hbd1 : ∀ c ∈ cs, ¬ c < 0 ∧ ¬ (65535 : Int32) < c) (hle1 : cs.length ≤ 4000) (hG40 : 40 < cs.length) (hG44 : cs.length ≤ 44) :
    mF l y_39 jdk_42_method_92_code 5 (some (.object "java/lang/String")) ws (rmk 6 3 132 94) #[(.ref xs), (.int 0), (.int 40)] Z h0 (Q_sub40 Z xs t1 k1 cd nn vs cs G fm h0 n0) := by
  refine MetFree.of_bodySF (plainFor_of_name pn_1) hisR ?_
  intro p e s m args below meth c s₁ Bd hml0 hP hK
  obtain ⟨rfl, hZ, hh⟩ := hP
  have hx := Bd.exec
  have hby := Bd.bytes
  have hml : c.maxLocals = 5 := hml0
  have hown : s.vm.findClass "java/lang/String" = some m.cls := findClass_of_methodNamed Bd.named
  have hnm := (name_of_methodNamed Bd.named Bd.method).1
  have X0 : Stand p l e (rmk 6 3 132 94) s m #[(.ref xs), (.int 0), (.int 40)] below meth c s₁ [] 0 0 := Stand.of_body Bd
  have e0 : s₁.heap = h0 := by rw [← hh, Bd.state]; rfl
  have N0 := Fr.nil n0
  have pre0 : ∀ t, oS p e below s₁ (mkF m 0 #[vR xs, vI 0, vI 40, .unset, .unset] []) t → oS p e below s₁ (entryFrame m #[(.ref xs), (.int 0), (.int 40)] 5) t := fun t k => castTop (ef_4 m xs (0 : Int32) (40 : Int32)) k
  obtain ⟨cq1, kq1, q1a, q1b, q1c⟩ := isOf hZ e0 q8
  obtain ⟨_, _, ⟨T1, L1, k1, n1⟩, -, X1, ⟨Lc1, hQ1, l1, y1, z1⟩, st1⟩ := X0.virtualBack hx (y := y_40) (z := y_40) hown (mvT hZ (ow hw 77 rfl)) (mvT hZ (ow hw 28 rfl)) (notFace_of_selects (args := #[]) (mvT hZ (ow hw 30 rfl))) (mvT hZ (ow hw 30 rfl)) (mvT hZ (ow hw 29 rfl)) (by decide) (StrChars.Road.lenW (W := 0) hZ (own_hw_lenW hw) (kI := 4) (ow hw 3 rfl) q8 q9 q10 q11 hcd1 hbd1 (q0.ext q7.2) hCS hle1 (by decide) (by decide)) q1a q1c (g := (mkF m 1 #[vR xs, vI 0, vI 40, .unset, .unset] [(.ref xs)])) rfl (by rw [hml]; rfl) (Steps.refl _) (argsL := []) (rest := []) (lenOf pd_8 rfl) rfl (by show 2 * 0 + _ ≤ _; exact Nat.le_of_eq rfl) (oh hby D38 1 rfl) (fun _ _ => ⟨rfl, e0, (by decide : 0 + 0 ≤ _), (by decide : 0 + 0 ≤ _)⟩)
  dsimp only [Pt.U, Pt.locs, Pt.cells, Pt.slots] at X1 l1 y1 z1 st1 hQ1
  subst l1 y1 z1
  obtain ⟨rfl, rfl, e1⟩ := hQ1
  have N1 := Fr.app N0 (Fr.nil n0)
  obtain ⟨_, _, ⟨T2, L2, k2, n2⟩, -, X2, ⟨Lc2, hQ2, l2, y2, z2⟩, st2⟩ := Jvm.LawKit.callS X1 hx (y := y_32) hown (mvT hZ (ow hw 78 rfl)) (mvT hZ (ow hw 79 rfl)) (mvT hZ (ow hw 4 rfl)) (mvT hZ (ow hw 80 rfl)) (by decide) (backOf (W := 0) (rm_cbbe l Z a0 hw [] cs.length fm h0 n0 Z0 q2 hFM q7 (by omega) (by omega)) hZ (ow hw 80 rfl) (ow hw 4 rfl) (by decide) (by decide)) (g := (mkF m 8 #[vR xs, vI 0, vI 40, vI (Int32.ofNat cs.length), .unset] [(.int (Int32.ofNat cs.length)), (.int 40), (.int 0)])) rfl (by rw [hml]; rfl) (argsL := [(.int 0), (.int 40), (.int (Int32.ofNat cs.length))]) (rest := []) (lenOf pd_21 rfl) rfl (by show 2 * 0 + _ ≤ _; exact Nat.le_of_eq rfl) (oh hby D38 6 rfl) (fun _ _ => ⟨rfl, e1, (by decide : 0 + 0 ≤ _), (by decide : 0 + 0 ≤ _)⟩)
  dsimp only [Pt.U, Pt.locs, Pt.cells, Pt.slots] at X2 l2 y2 z2 st2 hQ2
  subst l2 y2 z2
  obtain ⟨rfl, Nq2, e2⟩ := hQ2
  have N2 := Fr.app N1 Nq2
  have pre3 : ∀ t, oS p e below T2 (mkF m 27 #[vR xs, vI 0, vI 40, vI (Int32.ofNat cs.length), vI 40] []) t → oS p e below s₁ (entryFrame m #[(.ref xs), (.int 0), (.int 40)] 5) t := fun t kk => pre0 t (by
    refine XS.aloadN X0.here hx rfl (oh hby D38 0 rfl) rfl rfl ?_
    refine st1.trans ?_
    show oS p e below T1 (mkF m 4 #[vR xs, vI 0, vI 40, .unset, .unset] [(.int (Int32.ofNat cs.length))]) _
    refine XS.istoreN X1.here hx rfl (oh hby D38 2 rfl) rfl (l' := #[vR xs, vI 0, vI 40, vI (Int32.ofNat cs.length), .unset]) rfl ?_
    refine XS.iloadN X1.here hx rfl (oh hby D38 3 rfl) rfl ?_
    refine XS.iloadN X1.here hx rfl (oh hby D38 4 rfl) rfl ?_
    refine XS.iloadN X1.here hx rfl (oh hby D38 5 rfl) rfl ?_
    refine st2 _ ?_
    show oS p e below T2 (mkF m 11 #[vR xs, vI 0, vI 40, vI (Int32.ofNat cs.length), .unset] []) _
    refine XS.iloadN X2.here hx rfl (oh hby D38 7 rfl) rfl ?_
    refine XS.ifNo X2.here hx rfl (oh hby D38 8 rfl) rfl ((if0 _ _).trans (teq ((by decide) : (0 : Int32) = (0 : Int32))).2) ?_
    refine XS.iloadN X2.here hx rfl (oh hby D38 9 rfl) rfl ?_
    refine XS.iloadN X2.here hx rfl (oh hby D38 10 rfl) rfl ?_
    refine XS.icmpYes X2.here hx rfl (pc0 := 17) (pc' := 22) rfl (oh hby D38 11 rfl) rfl (feq ((fun q => absurd (own_oinj (i := 40) (n := cs.length) (by omega) (by omega) q) (by omega)) : ¬ ((40 : Int32) = (Int32.ofNat cs.length)))).2 (by decide) (by decide) ?_
    show oS p e below T2 (mkF m 22 #[vR xs, vI 0, vI 40, vI (Int32.ofNat cs.length), .unset] []) _
    refine XS.iloadN X2.here hx rfl (oh hby D38 12 rfl) rfl ?_
    refine XS.iloadN X2.here hx rfl (oh hby D38 13 rfl) rfl ?_
    refine XS.isub X2.here hx rfl (oh hby D38 14 rfl) rfl ?_
    refine XS.istore X2.here hx rfl (oh hby D38 15 rfl) rfl (l' := #[vR xs, vI 0, vI 40, vI (Int32.ofNat cs.length), vI 40]) rfl ?_
    show oS p e below T2 (mkF m 27 #[vR xs, vI 0, vI 40, vI (Int32.ofNat cs.length), vI 40] []) _
    exact kk)
  rcases hcd1 with ⟨hc1, hc2, hc3, hc4⟩ | ⟨hc1, hc2, hc3, hc4⟩
  · subst hc1
    subst hc2
    subst hc3
    obtain ⟨cq4, kq4, q4a, q4b, q4c⟩ := isOf hZ e2 q8
    obtain ⟨_, _, ⟨T4, L4, k4, n4⟩, -, X4, ⟨Lc4, hQ4, l4, y4, z4⟩, st4⟩ := X2.virtualBack hx (y := y_23) (z := y_23) hown (mvT hZ (ow hw 86 rfl)) (mvT hZ (ow hw 87 rfl)) (notFace_of_selects (args := #[]) (mvT hZ (ow hw 89 rfl))) (mvT hZ (ow hw 89 rfl)) (mvT hZ (ow hw 88 rfl)) (by decide) (backOf (W := 0) (rm_sLat l Z a0 hw [] xs G h0 n0 Z0 q0 hCS q7 q10) hZ (ow hw 90 rfl) (ow hw 4 rfl) (by decide) (by decide)) q4a q4c (g := (mkF m 28 #[vR xs, vI 0, vI 40, vI (Int32.ofNat cs.length), vI 40] [(.ref xs)])) rfl (by rw [hml]; rfl) (Steps.refl _) (argsL := []) (rest := []) (lenOf pd_14 rfl) rfl (by show 2 * 0 + _ ≤ _; exact Nat.le_of_eq rfl) (oh hby D38 17 rfl) (fun _ _ => ⟨rfl, e2, (by decide : 0 + 0 ≤ _), (by decide : 0 + 0 ≤ _)⟩)
    dsimp only [Pt.U, Pt.locs, Pt.cells, Pt.slots] at X4 l4 y4 z4 st4 hQ4
    subst l4 y4 z4
    obtain ⟨rfl, Nq4, e4⟩ := hQ4
    have N4 := Fr.app N2 Nq4
    obtain ⟨T5, X5, e5, st5⟩ := getF X4 hx hZ hown (host := "") (Or.inl (ow hw 21 rfl)) Via.refl e4 q9 (g := (mkF m 35 #[vR xs, vI 0, vI 40, vI (Int32.ofNat cs.length), vI 40] [(.ref xs)])) rfl rfl (oh hby D38 20 rfl)
    obtain ⟨_, _, ⟨T6, L6, k6, n6⟩, -, X6, ⟨Lc6, hQ6, l6, y6, z6⟩, st6⟩ := Jvm.LawKit.callS X5 hx (y := y_34) hown (mvT hZ (ow hw 91 rfl)) (mvT hZ (ow hw 92 rfl)) (mvT hZ (ow hw 93 rfl)) (mvT hZ (ow hw 94 rfl)) (by decide) (backOf (W := 0) (rm_nsL l Z a0 hw [] t1 k1 cs h0 n0 Z0 q11 hG40 hG44) hZ (ow hw 94 rfl) (ow hw 93 rfl) (by decide) (by decide)) (g := (mkF m 41 #[vR xs, vI 0, vI 40, vI (Int32.ofNat cs.length), vI 40] [(.int 40), (.int 0), (.ref t1)])) rfl (by rw [hml]; rfl) (argsL := [(.ref t1), (.int 0), (.int 40)]) (rest := []) (lenOf pd_22 rfl) rfl (by show 2 * 0 + _ ≤ _; exact Nat.le_of_eq rfl) (oh hby D38 23 rfl) (fun _ _ => ⟨rfl, e5, (by decide : 0 + 2 ≤ _), (by decide : 0 + 92 ≤ _)⟩)
    dsimp only [Pt.U, Pt.locs, Pt.cells, Pt.slots] at X6 l6 y6 z6 st6 hQ6
    subst l6 y6 z6
    obtain ⟨xr_6, tt_6, kt_6, rfl, Nq6, K6, f6_0, f6_1, f6_2, f6_3, f6_4, f6_5⟩ := hQ6
    have N6 := Fr.app N4 Nq6
    obtain ⟨fs, hr, hrun, hended, hW, hsame⟩ := X6.leave (v := some (.ref xr_6)) (fun h => by rw [Bd.returns] at h; cases h)
    refine ⟨_, _, pre3 _ ?_, hrun, hended, _, _, rfl, ?_, ⟨_, rfl⟩, hW, hsame.mono (by decide) (by decide)⟩
    · refine XS.aloadN X2.here hx rfl (oh hby D38 16 rfl) rfl rfl ?_
      refine st4.trans ?_
      show oS p e below T4 (mkF m 31 #[vR xs, vI 0, vI 40, vI (Int32.ofNat cs.length), vI 40] [(.int 1)]) _
      refine XS.ifNo X4.here hx rfl (oh hby D38 18 rfl) rfl ((if0 _ _).trans (feq ((by decide) : ¬ ((1 : Int32) = (0 : Int32)))).1) ?_
      refine XS.aloadN X4.here hx rfl (oh hby D38 19 rfl) rfl rfl ?_
      refine st5 _ ?_
      show oS p e below T5 (mkF m 38 #[vR xs, vI 0, vI 40, vI (Int32.ofNat cs.length), vI 40] [(.ref t1)]) _
      refine XS.iloadN X5.here hx rfl (oh hby D38 21 rfl) rfl ?_
      refine XS.iload X5.here hx rfl (oh hby D38 22 rfl) rfl ?_
      refine st6 _ ?_
      show oS p e below T6 (mkF m 44 #[vR xs, vI 0, vI 40, vI (Int32.ofNat cs.length), vI 40] [(.ref xr_6)]) _
      refine XS.goto X6.here hx rfl (pc0 := 44) (pc' := 57) rfl (oh hby D38 24 rfl) (by decide) (by decide) ?_
      show oS p e below T6 (mkF m 57 #[vR xs, vI 0, vI 40, vI (Int32.ofNat cs.length), vI 40] [(.ref xr_6)]) _
      jvm_step X6.here [X6.here.top, hx, (oh hby D38 30 rfl), X6.method', Bd.returns, Value.isRef, FieldType.isReference]
      first | (intro acts; rw [hr _ acts rfl rfl rfl]) | rw [hr _ _ rfl rfl rfl]
      exact Steps.refl _
    · show Q_sub40 Z xs t1 k1 (0 : Int32) (Int32.ofNat cs.length) (own_bs cs) cs G fm h0 n0 _ T6.heap _
      exact ⟨xr_6, tt_6, kt_6, (0 : Int32), (40 : Int32), (own_bs (cs.take 40)), rfl, N6, ((Keep.refl h0 ([] : List Addr)).trans K6 all0), (Nat.le_trans (Nat.le_refl _) f6_0), (Nat.le_trans (Nat.le_refl _) f6_1), f6_2, f6_3, f6_4, f6_5, (Or.inl ⟨rfl, rfl, rfl, fun c hc => hc4 c (List.mem_of_mem_take hc)⟩)⟩
  · subst hc1
    subst hc2
    subst hc3
    obtain ⟨cq7, kq7, q7a, q7b, q7c⟩ := isOf hZ e2 q8
    obtain ⟨_, _, ⟨T7, L7, k7, n7⟩, -, X7, ⟨Lc7, hQ7, l7, y7, z7⟩, st7⟩ := X2.virtualBack hx (y := y_23) (z := y_23) hown (mvT hZ (ow hw 86 rfl)) (mvT hZ (ow hw 87 rfl)) (notFace_of_selects (args := #[]) (mvT hZ (ow hw 89 rfl))) (mvT hZ (ow hw 89 rfl)) (mvT hZ (ow hw 88 rfl)) (by decide) (backOf (W := 0) (rm_sLatW l Z a0 hw [] xs G h0 n0 Z0 q0 hCS q7 q10) hZ (ow hw 90 rfl) (ow hw 4 rfl) (by decide) (by decide)) q7a q7c (g := (mkF m 28 #[vR xs, vI 0, vI 40, vI (Int32.ofNat cs.length), vI 40] [(.ref xs)])) rfl (by rw [hml]; rfl) (Steps.refl _) (argsL := []) (rest := []) (lenOf pd_14 rfl) rfl (by show 2 * 0 + _ ≤ _; exact Nat.le_of_eq rfl) (oh hby D38 17 rfl) (fun _ _ => ⟨rfl, e2, (by decide : 0 + 0 ≤ _), (by decide : 0 + 0 ≤ _)⟩)
    dsimp only [Pt.U, Pt.locs, Pt.cells, Pt.slots] at X7 l7 y7 z7 st7 hQ7
    subst l7 y7 z7
    obtain ⟨rfl, Nq7, e7⟩ := hQ7
    have N7 := Fr.app N2 Nq7
    obtain ⟨T8, X8, e8, st8⟩ := getF X7 hx hZ hown (host := "") (Or.inl (ow hw 21 rfl)) Via.refl e7 q9 (g := (mkF m 48 #[vR xs, vI 0, vI 40, vI (Int32.ofNat cs.length), vI 40] [(.ref xs)])) rfl rfl (oh hby D38 26 rfl)
    have pre9 : ∀ t, oS p e below T8 (mkF m 54 #[vR xs, vI 0, vI 40, vI (Int32.ofNat cs.length), vI 40] [(.int 40), (.int 0), (.ref t1)]) t → oS p e below s₁ (entryFrame m #[(.ref xs), (.int 0), (.int 40)] 5) t := fun t kk => pre3 t (by
      refine XS.aloadN X2.here hx rfl (oh hby D38 16 rfl) rfl rfl ?_
      refine st7.trans ?_
      show oS p e below T7 (mkF m 31 #[vR xs, vI 0, vI 40, vI (Int32.ofNat cs.length), vI 40] [(.int 0)]) _
      refine XS.ifYes X7.here hx rfl (pc0 := 31) (pc' := 47) rfl (oh hby D38 18 rfl) rfl ((if0 _ _).trans (teq ((by decide) : (0 : Int32) = (0 : Int32))).1) (by decide) (by decide) ?_
      refine XS.aloadN X7.here hx rfl (oh hby D38 25 rfl) rfl rfl ?_
      refine st8 _ ?_
      show oS p e below T8 (mkF m 51 #[vR xs, vI 0, vI 40, vI (Int32.ofNat cs.length), vI 40] [(.ref t1)]) _
      refine XS.iloadN X8.here hx rfl (oh hby D38 27 rfl) rfl ?_
      refine XS.iload X8.here hx rfl (oh hby D38 28 rfl) rfl ?_
      show oS p e below T8 (mkF m 54 #[vR xs, vI 0, vI 40, vI (Int32.ofNat cs.length), vI 40] [(.int 40), (.int 0), (.ref t1)]) _
      exact kk)
    by_cases hwd : ∃ c ∈ cs.take 40, (255 : Int32) < c
    · obtain ⟨rr, hr1, hr2, hr3⟩ := own_first (cs.take 40) hwd
      simp only [Nat.zero_add] at hr2 hr3
      rw [own_take40 hG40] at hr1
      have hg : ∀ q, q < 40 → (cs.take 40).getD q 0 = cs.getD q 0 := fun q hq => by rw [List.getD_eq_getElem?_getD, List.getD_eq_getElem?_getD, List.getElem?_take_of_lt hq]
      obtain ⟨_, _, ⟨T10, L10, k10, n10⟩, -, X10, ⟨Lc10, hQ10, l10, y10, z10⟩, st10⟩ := Jvm.LawKit.callS X8 hx (y := y_38) hown (mvT hZ (ow hw 235 rfl)) (mvT hZ (ow hw 236 rfl)) (mvT hZ (ow hw 46 rfl)) (mvT hZ (ow hw 237 rfl)) (by decide) (backOf (W := 0) (rm_nsWw l Z a0 hw [] t1 k1 cs rr G fm h0 n0 Z0 q0 hCS q2 hFM q4 q5 q6 q7 q11 (hbd1) hG40 hG44 (hr1) (by rw [← hg rr hr1]; exact hr3) (fun q hq => by rw [← hg q (by omega)]; exact hr2 q hq)) hZ (ow hw 237 rfl) (ow hw 46 rfl) (by decide) (by decide)) (g := (mkF m 54 #[vR xs, vI 0, vI 40, vI (Int32.ofNat cs.length), vI 40] [(.int 40), (.int 0), (.ref t1)])) rfl (by rw [hml]; rfl) (argsL := [(.ref t1), (.int 0), (.int 40)]) (rest := []) (lenOf pd_22 rfl) rfl (by show 2 * 0 + _ ≤ _; exact Nat.le_of_eq rfl) (oh hby D38 29 rfl) (fun _ _ => ⟨rfl, e8, (by decide : 0 + 3 ≤ _), (by decide : 0 + 132 ≤ _)⟩)
      dsimp only [Pt.U, Pt.locs, Pt.cells, Pt.slots] at X10 l10 y10 z10 st10 hQ10
      subst l10 y10 z10
      obtain ⟨xr_10, tt_10, kt_10, rfl, Nq10, K10, f10_0, f10_1, f10_2, f10_3, f10_4, f10_5⟩ := hQ10
      have N10 := Fr.app N7 Nq10
      obtain ⟨fs, hr, hrun, hended, hW, hsame⟩ := X10.leave (v := some (.ref xr_10)) (fun h => by rw [Bd.returns] at h; cases h)
      refine ⟨_, _, pre9 _ ?_, hrun, hended, _, _, rfl, ?_, ⟨_, rfl⟩, hW, hsame.mono (by decide) (by decide)⟩
      · refine st10 _ ?_
        show oS p e below T10 (mkF m 57 #[vR xs, vI 0, vI 40, vI (Int32.ofNat cs.length), vI 40] [(.ref xr_10)]) _
        jvm_step X10.here [X10.here.top, hx, (oh hby D38 30 rfl), X10.method', Bd.returns, Value.isRef, FieldType.isReference]
        first | (intro acts; rw [hr _ acts rfl rfl rfl]) | rw [hr _ _ rfl rfl rfl]
        exact Steps.refl _
      · show Q_sub40 Z xs t1 k1 (1 : Int32) (Int32.ofNat (2 * cs.length)) (StrChars.Road.wideBytes cs) cs G fm h0 n0 _ T10.heap _
        exact ⟨xr_10, tt_10, kt_10, (1 : Int32), (Int32.ofNat (2 * 40)), (StrChars.Road.wideBytes (cs.take 40)), rfl, N10, ((Keep.refl h0 ([] : List Addr)).trans K10 all0), (Nat.le_trans (Nat.le_refl _) f10_0), (Nat.le_trans (Nat.le_refl _) f10_1), f10_2, f10_3, f10_4, f10_5, (Or.inr ⟨rfl, rfl, rfl, hwd⟩)⟩
    · obtain ⟨_, _, ⟨T11, L11, k11, n11⟩, -, X11, ⟨Lc11, hQ11, l11, y11, z11⟩, st11⟩ := Jvm.LawKit.callS X8 hx (y := y_38) hown (mvT hZ (ow hw 235 rfl)) (mvT hZ (ow hw 236 rfl)) (mvT hZ (ow hw 46 rfl)) (mvT hZ (ow hw 237 rfl)) (by decide) (backOf (W := 0) (rm_nsWl l Z a0 hw [] t1 k1 cs G fm h0 n0 Z0 q0 hCS q2 hFM q4 q5 q6 q7 q11 (hbd1) hG40 hG44 (fun q hq r => hwd ⟨_, own_getmem (cs := cs.take 40) (i := q) (by rw [own_take40 hG40]; exact hq), by rw [show (cs.take 40).getD q 0 = cs.getD q 0 by rw [List.getD_eq_getElem?_getD, List.getD_eq_getElem?_getD, List.getElem?_take_of_lt hq]]; exact r⟩)) hZ (ow hw 237 rfl) (ow hw 46 rfl) (by decide) (by decide)) (g := (mkF m 54 #[vR xs, vI 0, vI 40, vI (Int32.ofNat cs.length), vI 40] [(.int 40), (.int 0), (.ref t1)])) rfl (by rw [hml]; rfl) (argsL := [(.ref t1), (.int 0), (.int 40)]) (rest := []) (lenOf pd_22 rfl) rfl (by show 2 * 0 + _ ≤ _; exact Nat.le_of_eq rfl) (oh hby D38 29 rfl) (fun _ _ => ⟨rfl, e8, (by decide : 0 + 2 ≤ _), (by decide : 0 + 44 ≤ _)⟩)
      dsimp only [Pt.U, Pt.locs, Pt.cells, Pt.slots] at X11 l11 y11 z11 st11 hQ11
      subst l11 y11 z11
      obtain ⟨xr_11, tt_11, kt_11, rfl, Nq11, K11, f11_0, f11_1, f11_2, f11_3, f11_4, f11_5⟩ := hQ11
      have N11 := Fr.app N7 Nq11
      obtain ⟨fs, hr, hrun, hended, hW, hsame⟩ := X11.leave (v := some (.ref xr_11)) (fun h => by rw [Bd.returns] at h; cases h)
      refine ⟨_, _, pre9 _ ?_, hrun, hended, _, _, rfl, ?_, ⟨_, rfl⟩, hW, hsame.mono (by decide) (by decide)⟩
      · refine st11 _ ?_
        show oS p e below T11 (mkF m 57 #[vR xs, vI 0, vI 40, vI (Int32.ofNat cs.length), vI 40] [(.ref xr_11)]) _
        jvm_step X11.here [X11.here.top, hx, (oh hby D38 30 rfl), X11.method', Bd.returns, Value.isRef, FieldType.isReference]
        first | (intro acts; rw [hr _ acts rfl rfl rfl]) | rw [hr _ _ rfl rfl rfl]
        exact Steps.refl _
      · show Q_sub40 Z xs t1 k1 (1 : Int32) (Int32.ofNat (2 * cs.length)) (StrChars.Road.wideBytes cs) cs G fm h0 n0 _ T11.heap _
        exact ⟨xr_11, tt_11, kt_11, (0 : Int32), (40 : Int32), (own_bs (cs.take 40)), rfl, N11, ((Keep.refl h0 ([] : List Addr)).trans K11 all0), (Nat.le_trans (Nat.le_refl _) f11_0), (Nat.le_trans (Nat.le_refl _) f11_1), f11_2, f11_3, f11_4, f11_5, (Or.inl ⟨rfl, rfl, rfl, fun c hc q => hwd ⟨c, hc, q⟩⟩)⟩
def Q_asbI (Z : State) (xb : Addr) (G : Int32) (h0 : Heap) (n0 : Nat) (v : Option Value) (h : Heap) (L : List Loc) : Prop := ∃ (vb : Addr) (kb : ClassId), (v = none) ∧ (Fr n0 L) ∧ (Keep h0 h ([xb] : List Addr)) ∧ (fB Z h xb "value" "[B" (.ref vb)) ∧ (fB Z h xb "coder" "B" (.int 0)) ∧ (fB Z h xb "count" "I" (.int 0)) ∧ (fB Z h xb "maybeLatin1" "Z" (.int 0)) ∧ (h0.size ≤ vb) ∧ (Arv Z h vb kb .byte (16 : Int32) (List.replicate 16 (Value.int 0)) (.int 0))
set_option maxRecDepth 65536 in
set_option maxHeartbeats 40000000 in
theorem rm_asbI (l : Launch) (Z : State) (a0 : Array Value) (hw : HW Z a0) (ws : List Jvm.Cond) (xb : Addr) (G : Int32) (h0 : Heap) (n0 : Nat) (Z0 : n0 ≤ h0.size) (q0 : sC Z G) (hCS : ¬ (G = (0 : Int32))) (q2 : Old Z n0 h0) (q3 : Exa Z h0 xb "java/lang/StringBuilder") (q4 : fB Z h0 xb "value" "[B" .null) (q5 : fB Z h0 xb "coder" "B" (.int 0)) (q6 : fB Z h0 xb "count" "I" (.int 0)) (q7 : fB Z h0 xb "maybeLatin1" "Z" (.int 0)) (q8 : n0 ≤ xb) :
    mF l y_41 jdk_68_method_2_code 2 none ws (rmk 1 1 16 12) #[(.ref xb), (.int 16)] Z h0 (Q_asbI Z xb G h0 n0) := by
  refine MetFree.of_bodySF (plainFor_of_name pn_2) hisR ?_
  intro p e s m args below meth c s₁ Bd hml0 hP hK
  obtain ⟨rfl, hZ, hh⟩ := hP
  have hx := Bd.exec
  have hby := Bd.bytes
  have hml : c.maxLocals = 2 := hml0
  have hown : s.vm.findClass "java/lang/AbstractStringBuilder" = some m.cls := findClass_of_methodNamed Bd.named
  have hnm := (name_of_methodNamed Bd.named Bd.method).1
  have X0 : Stand p l e (rmk 1 1 16 12) s m #[(.ref xb), (.int 16)] below meth c s₁ [] 0 0 := Stand.of_body Bd
  have e0 : s₁.heap = h0 := by rw [← hh, Bd.state]; rfl
  have N0 := Fr.nil n0
  have pre0 : ∀ t, oS p e below s₁ (mkF m 0 #[vR xb, vI 16] []) t → oS p e below s₁ (entryFrame m #[(.ref xb), (.int 16)] 2) t := fun t k => castTop (ef_2 m xb (16 : Int32)) k
  obtain ⟨T1, X1, e1, st1⟩ := initO X0 hx hZ hown (ow hw 66 rfl) (ow hw 13 rfl) (ow hw 14 rfl) e0 (g := (mkF m 1 #[vR xb, vI 16] [(.ref xb)])) rfl (by rw [hml]; rfl) rfl (oh hby D39 1 rfl) (by decide) (W := 0) (by show 2 * 0 + _ ≤ _; exact Nat.le_of_eq rfl) (by decide)
  obtain ⟨T2, X2, e2, st2⟩ := getS2 X1 hx hZ hown (host := "") (Or.inl (ow hw 67 rfl)) Via.refl e1 (q0.ext q2.2) (g := (mkF m 4 #[vR xb, vI 16] [])) rfl (oh hby D39 2 rfl)
  obtain ⟨T3, h3, ky3, X3, e3, E3, A3, st3⟩ := newP X2 hx hZ (ow hw 16 rfl) e2 (g := (mkF m 12 #[vR xb, vI 16] [(.int 16), (.ref xb)])) rfl (oh hby D39 6 rfl) rfl ((by decide) : ¬ ((16 : Int32) < (0 : Int32))) (cap := 16) ((by decide) : (16 : Int32).toNatClampNeg ≤ 16) (by decide) (by decide) (by decide)
  obtain ⟨b3, g3⟩ : ∃ z, z = h0.size := ⟨_, rfl⟩
  rw [← g3] at A3 st3
  have V3 : Arv Z h3 b3 ky3 .byte (16 : Int32) [] (.int 0) := Arv.new A3 (by decide)
  have U3 : Arv Z h3 b3 ky3 .byte (16 : Int32) [(.int 0), (.int 0), (.int 0), (.int 0), (.int 0), (.int 0), (.int 0), (.int 0), (.int 0), (.int 0), (.int 0), (.int 0), (.int 0), (.int 0), (.int 0), (.int 0)] (.int 0) := V3.pad (pad_rep [] (.int 0) 16)
  have c4 := (q4.ext E3)
  have c5 := (q3.ext E3)
  obtain ⟨T6, h6, X6, e6, W6, st6⟩ := putF X3 hx hZ hown (host := "") (Or.inl (ow hw 68 rfl)) Via.refl e3 c4 c5 (Or.inl (ow hw 69 rfl)) (ow hw 55 rfl) (ty := (.array .byte)) (by decide) rfl rfl (g := (mkF m 14 #[vR xb, vI 16] [(.ref b3), (.ref xb)])) rfl rfl (oh hby D39 7 rfl)
  have N6 := Fr.snoc X6 N0 q8
  have F6 : fB Z h6 xb "value" "[B" (.ref b3) := c4.same W6
  have c7 := ((q5.ext E3).other W6 (Or.inr (slot_ne (Or.inl (ow hw 71 rfl)) (Or.inl (ow hw 69 rfl)) (by decide) (t := .byte) (t' := (.array .byte)) (by decide) (by decide))))
  have c8 := (c5.wr W6)
  obtain ⟨T9, h9, X9, e9, W9, st9⟩ := putFN X6 hx hZ hown (ow hw 70 rfl) Via.refl e6 c7 c8 (Or.inl (ow hw 71 rfl)) (ow hw 55 rfl) (ty := .byte) (v' := (.int 0)) (by decide) rfl rfl (g := (mkF m 19 #[vR xb, vI 16] [(.int 0), (.ref xb)])) rfl rfl (oh hby D39 10 rfl)
  have N9 := Fr.snoc X9 N6 q8
  have F9 : fB Z h9 xb "coder" "B" (.int 0) := c7.same W9
  have c10 := (F6.other W9 (Or.inr (slot_ne (Or.inl (ow hw 69 rfl)) (Or.inl (ow hw 71 rfl)) (by decide) (t := (.array .byte)) (t' := .byte) (by decide) (by decide))))
  have ne11 : xb ≠ b3 := Nat.ne_of_lt (Nat.lt_of_lt_of_le q6.lt (Nat.le_of_eq g3.symm))
  have c12 := ((U3.other W6 (Ne.symm ne11)).other W9 (Ne.symm ne11))
  have c13 := (((q6.ext E3).other W6 (Or.inr (slot_ne (Or.inl (ow hw 129 rfl)) (Or.inl (ow hw 69 rfl)) (by decide) (t := .int) (t' := (.array .byte)) (by decide) (by decide)))).other W9 (Or.inr (slot_ne (Or.inl (ow hw 129 rfl)) (Or.inl (ow hw 71 rfl)) (by decide) (t := .int) (t' := .byte) (by decide) (by decide))))
  have c14 := (((q7.ext E3).other W6 (Or.inr (slot_ne (Or.inl (ow hw 276 rfl)) (Or.inl (ow hw 69 rfl)) (by decide) (t := .boolean) (t' := (.array .byte)) (by decide) (by decide)))).other W9 (Or.inr (slot_ne (Or.inl (ow hw 276 rfl)) (Or.inl (ow hw 71 rfl)) (by decide) (t := .boolean) (t' := .byte) (by decide) (by decide))))
  obtain ⟨fs, hr, hrun, hended, hW, hsame⟩ := X9.leave (v := none) (fun _ => rfl)
  refine ⟨_, _, pre0 _ ?_, hrun, hended, _, _, rfl, ?_, ⟨_, rfl⟩, hW, hsame.mono (by decide) (by decide)⟩
  · refine XS.aloadN X0.here hx rfl (oh hby D39 0 rfl) rfl rfl ?_
    refine st1 _ ?_
    show oS p e below T1 (mkF m 4 #[vR xb, vI 16] []) _
    refine st2 _ ?_
    show oS p e below T2 (mkF m 7 #[vR xb, vI 16] [(.int G)]) _
    refine XS.ifNo X2.here hx rfl (oh hby D39 3 rfl) rfl ((if0 _ _).trans (feq (hCS : ¬ (G = (0 : Int32)))).1) ?_
    refine XS.aloadN X2.here hx rfl (oh hby D39 4 rfl) rfl rfl ?_
    refine XS.iloadN X2.here hx rfl (oh hby D39 5 rfl) rfl ?_
    refine st3 _ ?_
    show oS p e below T3 (mkF m 14 #[vR xb, vI 16] [(.ref b3), (.ref xb)]) _
    refine st6 _ ?_
    show oS p e below T6 (mkF m 17 #[vR xb, vI 16] []) _
    refine XS.aloadN X6.here hx rfl (oh hby D39 8 rfl) rfl rfl ?_
    refine XS.iconst X6.here hx rfl (oh hby D39 9 rfl) ?_
    refine st9 _ ?_
    show oS p e below T9 (mkF m 22 #[vR xb, vI 16] []) _
    refine XS.goto X9.here hx rfl (pc0 := 22) (pc' := 38) rfl (oh hby D39 11 rfl) (by decide) (by decide) ?_
    show oS p e below T9 (mkF m 38 #[vR xb, vI 16] []) _
    exact X9.returnOut hx Bd.returns (oh hby D39 12 rfl) hr
  · show Q_asbI Z xb G h0 n0 _ T9.heap _
    rw [e9]
    exact ⟨b3, ky3, rfl, N9, ((((Keep.refl h0 ([xb] : List Addr)).ext E3).wr W6 (Or.inl (by simp))).wr W9 (Or.inl (by simp))), c10, F9, c13, c14, (Nat.le_trans (Nat.le_refl _) (Nat.le_of_eq g3.symm)), c12⟩
theorem pd_23 : parseMethodDescriptor "(I)V" = some ⟨[.int], none⟩ := by decide +kernel
def Q_sbI (Z : State) (xb : Addr) (G : Int32) (h0 : Heap) (n0 : Nat) (v : Option Value) (h : Heap) (L : List Loc) : Prop := ∃ (vb : Addr) (kb : ClassId), (v = none) ∧ (Fr n0 L) ∧ (Keep h0 h ([xb] : List Addr)) ∧ (fB Z h xb "value" "[B" (.ref vb)) ∧ (fB Z h xb "coder" "B" (.int 0)) ∧ (fB Z h xb "count" "I" (.int 0)) ∧ (fB Z h xb "maybeLatin1" "Z" (.int 0)) ∧ (h0.size ≤ vb) ∧ (Arv Z h vb kb .byte (16 : Int32) (List.replicate 16 (Value.int 0)) (.int 0))
set_option maxRecDepth 65536 in
set_option maxHeartbeats 40000000 in
theorem rm_sbI (l : Launch) (Z : State) (a0 : Array Value) (hw : HW Z a0) (ws : List Jvm.Cond) (xb : Addr) (G : Int32) (h0 : Heap) (n0 : Nat) (Z0 : n0 ≤ h0.size) (q0 : sC Z G) (hCS : ¬ (G = (0 : Int32))) (q2 : Old Z n0 h0) (q3 : Exa Z h0 xb "java/lang/StringBuilder") (q4 : fB Z h0 xb "value" "[B" .null) (q5 : fB Z h0 xb "coder" "B" (.int 0)) (q6 : fB Z h0 xb "count" "I" (.int 0)) (q7 : fB Z h0 xb "maybeLatin1" "Z" (.int 0)) (q8 : n0 ≤ xb) :
    mF l y_42 jdk_67_method_1_code 1 none ws (rmk 2 1 16 25) #[(.ref xb)] Z h0 (Q_sbI Z xb G h0 n0) := by
  refine MetFree.of_bodySF (plainFor_of_name pn_3) hisR ?_
  intro p e s m args below meth c s₁ Bd hml0 hP hK
  obtain ⟨rfl, hZ, hh⟩ := hP
  have hx := Bd.exec
  have hby := Bd.bytes
  have hml : c.maxLocals = 1 := hml0
  have hown : s.vm.findClass "java/lang/StringBuilder" = some m.cls := findClass_of_methodNamed Bd.named
  have hnm := (name_of_methodNamed Bd.named Bd.method).1
  have X0 : Stand p l e (rmk 2 1 16 25) s m #[(.ref xb)] below meth c s₁ [] 0 0 := Stand.of_body Bd
  have e0 : s₁.heap = h0 := by rw [← hh, Bd.state]; rfl
  have N0 := Fr.nil n0
  have pre0 : ∀ t, oS p e below s₁ (mkF m 0 #[vR xb] []) t → oS p e below s₁ (entryFrame m #[(.ref xb)] 1) t := fun t k => castTop (ef_8 m xb) k
  obtain ⟨_, _, ⟨T1, L1, k1, n1⟩, -, X1, ⟨Lc1, hQ1, l1, y1, z1⟩, st1⟩ := X0.specialBack hx (y := y_41) rfl hown (mvT hZ (ow hw 60 rfl)) (mvT hZ (ow hw 61 rfl)) (mvT hZ (ow hw 65 rfl)) (by decide) (backOf (W := 0) (rm_asbI l Z a0 hw [] xb G h0 n0 Z0 q0 hCS q2 q3 q4 q5 q6 q7 q8) hZ (ow hw 65 rfl) (ow hw 64 rfl) (by decide) (by decide)) (g := (mkF m 3 #[vR xb] [(.int 16), (.ref xb)])) rfl (by rw [hml]; rfl) (Steps.refl _) (a := xb) (argsL := [(.int 16)]) (rest := []) (lenOf pd_23 rfl) rfl (by show 2 * 0 + _ ≤ _; exact Nat.le_of_eq rfl) (oh hby D40 2 rfl) (fun _ _ => ⟨rfl, e0, (by decide : 0 + 1 ≤ _), (by decide : 0 + 16 ≤ _)⟩)
  dsimp only [Pt.U, Pt.locs, Pt.cells, Pt.slots] at X1 l1 y1 z1 st1 hQ1
  subst l1 y1 z1
  obtain ⟨vb_1, kb_1, rfl, Nq1, K1, f1_0, f1_1, f1_2, f1_3, f1_4, f1_5⟩ := hQ1
  have N1 := Fr.app N0 Nq1
  obtain ⟨fs, hr, hrun, hended, hW, hsame⟩ := X1.leave (v := none) (fun _ => rfl)
  refine ⟨_, _, pre0 _ ?_, hrun, hended, _, _, rfl, ?_, ⟨_, rfl⟩, hW, hsame.mono (by decide) (by decide)⟩
  · refine XS.aloadN X0.here hx rfl (oh hby D40 0 rfl) rfl rfl ?_
    refine XS.bipush X0.here hx rfl (oh hby D40 1 rfl) ?_
    refine st1.trans ?_
    show oS p e below T1 (mkF m 6 #[vR xb] []) _
    exact X1.returnOut hx Bd.returns (oh hby D40 3 rfl) hr
  · show Q_sbI Z xb G h0 n0 _ T1.heap _
    exact ⟨vb_1, kb_1, rfl, N1, ((Keep.refl h0 ([xb] : List Addr)).trans K1 (allS (Or.inl (by simp)) all0)), f1_0, f1_1, f1_2, f1_3, (Nat.le_trans (Nat.le_refl _) f1_4), f1_5⟩
def Q_mx16 (Z : State)  (h0 : Heap) (n0 : Nat) (v : Option Value) (h : Heap) (L : List Loc) : Prop := (v = some (.int 24)) ∧ (Fr n0 L) ∧ (h = h0)
set_option maxRecDepth 65536 in
set_option maxHeartbeats 40000000 in
theorem rm_mx16 (l : Launch) (Z : State) (a0 : Array Value) (hw : HW Z a0) (ws : List Jvm.Cond) (h0 : Heap) (n0 : Nat) (Z0 : n0 ≤ h0.size) :
    mF l y_43 jdk_29_method_65_code 2 (some .int) ws (rmk 0 0 0 0) #[(.int 24), (.int 18)] Z h0 (Q_mx16 Z  h0 n0) := by
  refine MetFree.of_bodySF (Jvm.Free.JP.mathPlain rfl (by decide +kernel)) hisR ?_
  intro p e s m args below meth c s₁ Bd hml0 hP hK
  obtain ⟨rfl, hZ, hh⟩ := hP
  have hx := Bd.exec
  have hby := Bd.bytes
  have hml : c.maxLocals = 2 := hml0
  have hown : s.vm.findClass "java/lang/Math" = some m.cls := findClass_of_methodNamed Bd.named
  have hnm := (name_of_methodNamed Bd.named Bd.method).1
  have X0 : Stand p l e (rmk 0 0 0 0) s m #[(.int 24), (.int 18)] below meth c s₁ [] 0 0 := Stand.of_body Bd
  have e0 : s₁.heap = h0 := by rw [← hh, Bd.state]; rfl
  have N0 := Fr.nil n0
  have pre0 : ∀ t, oS p e below s₁ (mkF m 0 #[vI 24, vI 18] []) t → oS p e below s₁ (entryFrame m #[(.int 24), (.int 18)] 2) t := fun t k => castTop (ef_12 m (24 : Int32) (18 : Int32)) k
  obtain ⟨fs, hr, hrun, hended, hW, hsame⟩ := X0.leave (v := some (.int 24)) (fun h => by rw [Bd.returns] at h; cases h)
  refine ⟨_, _, pre0 _ ?_, hrun, hended, _, _, rfl, ?_, ⟨_, rfl⟩, hW, hsame.mono (by decide) (by decide)⟩
  · refine XS.iloadN X0.here hx rfl (oh hby D41 0 rfl) rfl ?_
    refine XS.iloadN X0.here hx rfl (oh hby D41 1 rfl) rfl ?_
    refine XS.icmpNo X0.here hx rfl (oh hby D41 2 rfl) rfl (flt ((by decide) : ¬ ((24 : Int32) < (18 : Int32)))).1 ?_
    refine XS.iloadN X0.here hx rfl (oh hby D41 3 rfl) rfl ?_
    refine XS.goto X0.here hx rfl (pc0 := 6) (pc' := 10) rfl (oh hby D41 4 rfl) (by decide) (by decide) ?_
    show oS p e below s₁ (mkF m 10 #[vI 24, vI 18] [(.int 24)]) _
    exact retI X0 hx Bd.returns (oh hby D41 6 rfl) hr
  · show Q_mx16 Z  h0 n0 _ s₁.heap _
    rw [e0]
    exact ⟨rfl, N0, rfl⟩
theorem ef_17 (m : MethodId) (x0 : Int32) (x1 : Int32) (x2 : Int32) : entryFrame m #[(.int x0), (.int x1), (.int x2)] 4 = mkF m 0 #[vI x0, vI x1, vI x2, .unset] [] := by first | (simp [entryFrame, mkF, argsToLocals, Value.category]; done) | rfl
theorem pn_7 : plainName "jdk/internal/util/ArraysSupport" = true := by first | (simp [plainName, overriddenIn]; done) | decide +kernel
def Q_nl16 (Z : State)  (h0 : Heap) (n0 : Nat) (v : Option Value) (h : Heap) (L : List Loc) : Prop := (v = some (.int 40)) ∧ (Fr n0 L) ∧ (h = h0)
set_option maxRecDepth 65536 in
set_option maxHeartbeats 40000000 in
theorem rm_nl16 (l : Launch) (Z : State) (a0 : Array Value) (hw : HW Z a0) (ws : List Jvm.Cond) (h0 : Heap) (n0 : Nat) (Z0 : n0 ≤ h0.size) :
    mF l y_44 jdk_48_method_27_code 4 (some .int) ws (rmk 1 0 0 14) #[(.int 16), (.int 24), (.int 18)] Z h0 (Q_nl16 Z  h0 n0) := by
  refine MetFree.of_bodySF (plainFor_of_name pn_7) hisR ?_
  intro p e s m args below meth c s₁ Bd hml0 hP hK
  obtain ⟨rfl, hZ, hh⟩ := hP
  have hx := Bd.exec
  have hby := Bd.bytes
  have hml : c.maxLocals = 4 := hml0
  have hown : s.vm.findClass "jdk/internal/util/ArraysSupport" = some m.cls := findClass_of_methodNamed Bd.named
  have hnm := (name_of_methodNamed Bd.named Bd.method).1
  have X0 : Stand p l e (rmk 1 0 0 14) s m #[(.int 16), (.int 24), (.int 18)] below meth c s₁ [] 0 0 := Stand.of_body Bd
  have e0 : s₁.heap = h0 := by rw [← hh, Bd.state]; rfl
  have N0 := Fr.nil n0
  have pre0 : ∀ t, oS p e below s₁ (mkF m 0 #[vI 16, vI 24, vI 18, .unset] []) t → oS p e below s₁ (entryFrame m #[(.int 16), (.int 24), (.int 18)] 4) t := fun t k => castTop (ef_17 m (16 : Int32) (24 : Int32) (18 : Int32)) k
  obtain ⟨_, _, ⟨T1, L1, k1, n1⟩, -, X1, ⟨Lc1, hQ1, l1, y1, z1⟩, st1⟩ := Jvm.LawKit.callS X0 hx (y := y_43) hown (mvT hZ (ow hw 144 rfl)) (mvT hZ (ow hw 145 rfl)) (mvT hZ (ow hw 108 rfl)) (mvT hZ (ow hw 146 rfl)) (by decide) (backOf (W := 1) (rm_mx16 l Z a0 hw []  h0 n0 Z0 ) hZ (ow hw 146 rfl) (ow hw 108 rfl) (by decide) (by decide)) (g := (mkF m 3 #[vI 16, vI 24, vI 18, .unset] [(.int 18), (.int 24), (.int 16)])) rfl (by rw [hml]; rfl) (argsL := [(.int 24), (.int 18)]) (rest := [(.int 16)]) (lenOf pd_15 rfl) rfl (by show 2 * 0 + _ ≤ _; exact Nat.le_of_eq rfl) (oh hby D42 3 rfl) (fun _ _ => ⟨rfl, e0, (by decide : 0 + 0 ≤ _), (by decide : 0 + 0 ≤ _)⟩)
  dsimp only [Pt.U, Pt.locs, Pt.cells, Pt.slots] at X1 l1 y1 z1 st1 hQ1
  subst l1 y1 z1
  obtain ⟨rfl, Nq1, e1⟩ := hQ1
  have N1 := Fr.app N0 Nq1
  obtain ⟨fs, hr, hrun, hended, hW, hsame⟩ := X1.leave (v := some (.int 40)) (fun h => by rw [Bd.returns] at h; cases h)
  refine ⟨_, _, pre0 _ ?_, hrun, hended, _, _, rfl, ?_, ⟨_, rfl⟩, hW, hsame.mono (by decide) (by decide)⟩
  · refine XS.iloadN X0.here hx rfl (oh hby D42 0 rfl) rfl ?_
    refine XS.iloadN X0.here hx rfl (oh hby D42 1 rfl) rfl ?_
    refine XS.iloadN X0.here hx rfl (oh hby D42 2 rfl) rfl ?_
    refine st1 _ ?_
    show oS p e below T1 (mkF m 6 #[vI 16, vI 24, vI 18, .unset] [(.int 24), (.int 16)]) _
    refine XS.iadd X1.here hx rfl (oh hby D42 4 rfl) rfl ?_
    refine XS.istoreN X1.here hx rfl (oh hby D42 5 rfl) rfl (l' := #[vI 16, vI 24, vI 18, vI 40]) rfl ?_
    refine XS.iconst X1.here hx rfl (oh hby D42 6 rfl) ?_
    refine XS.iloadN X1.here hx rfl (oh hby D42 7 rfl) rfl ?_
    refine XS.icmpNo X1.here hx rfl (oh hby D42 8 rfl) rfl (tlt ((by decide) : (0 : Int32) < (40 : Int32))).2.1 ?_
    show oS p e below T1 (mkF m 13 #[vI 16, vI 24, vI 18, vI 40] []) _
    refine XS.iloadN X1.here hx rfl (oh hby D42 9 rfl) rfl ?_
    show oS p e below T1 (mkF m 14 #[vI 16, vI 24, vI 18, vI 40] [(.int 40)]) _
    refine X1.ldcInt hx hown (mvT hZ (ow hw 147 rfl)) (g := (mkF m 14 #[vI 16, vI 24, vI 18, vI 40] [(.int 40)])) rfl (oh hby D42 10 rfl) _ ?_
    show oS p e below T1 (mkF m 16 #[vI 16, vI 24, vI 18, vI 40] [(.int 2147483639), (.int 40)]) _
    refine XS.icmpNo X1.here hx rfl (oh hby D42 11 rfl) rfl (flt ((by decide) : ¬ ((2147483639 : Int32) < (40 : Int32)))).2.2.1 ?_
    refine XS.iloadN X1.here hx rfl (oh hby D42 12 rfl) rfl ?_
    show oS p e below T1 (mkF m 20 #[vI 16, vI 24, vI 18, vI 40] [(.int 40)]) _
    exact retI X1 hx Bd.returns (oh hby D42 13 rfl) hr
  · show Q_nl16 Z  h0 n0 _ T1.heap _
    rw [e1]
    exact ⟨rfl, N1, rfl⟩
theorem ef_18 (m : MethodId) (x0 : Addr) (x1 : Int32) : entryFrame m #[(.ref x0), (.int x1)] 6 = mkF m 0 #[vR x0, vI x1, .unset, .unset, .unset, .unset] [] := by first | (simp [entryFrame, mkF, argsToLocals, Value.category]; done) | rfl
def Q_nc16 (Z : State) (xb : Addr) (va : Addr) (ka : ClassId) (vs : List Value) (h0 : Heap) (n0 : Nat) (v : Option Value) (h : Heap) (L : List Loc) : Prop := (v = some (.int 40)) ∧ (Fr n0 L) ∧ (h = h0)
set_option maxRecDepth 65536 in
set_option maxHeartbeats 40000000 in
theorem rm_nc16 (l : Launch) (Z : State) (a0 : Array Value) (hw : HW Z a0) (ws : List Jvm.Cond) (xb : Addr) (va : Addr) (ka : ClassId) (vs : List Value) (h0 : Heap) (n0 : Nat) (Z0 : n0 ≤ h0.size) (q0 : fB Z h0 xb "value" "[B" (.ref va)) (q1 : fB Z h0 xb "coder" "B" (.int 0)) (q2 : Arv Z h0 va ka .byte (16 : Int32) vs (.int 0)) :
    mF l y_45 jdk_68_method_10_code 6 (some .int) ws (rmk 2 0 0 29) #[(.ref xb), (.int 40)] Z h0 (Q_nc16 Z xb va ka vs h0 n0) := by
  refine MetFree.of_bodySF (plainFor_of_name pn_2) hisR ?_
  intro p e s m args below meth c s₁ Bd hml0 hP hK
  obtain ⟨rfl, hZ, hh⟩ := hP
  have hx := Bd.exec
  have hby := Bd.bytes
  have hml : c.maxLocals = 6 := hml0
  have hown : s.vm.findClass "java/lang/AbstractStringBuilder" = some m.cls := findClass_of_methodNamed Bd.named
  have hnm := (name_of_methodNamed Bd.named Bd.method).1
  have X0 : Stand p l e (rmk 2 0 0 29) s m #[(.ref xb), (.int 40)] below meth c s₁ [] 0 0 := Stand.of_body Bd
  have e0 : s₁.heap = h0 := by rw [← hh, Bd.state]; rfl
  have N0 := Fr.nil n0
  have pre0 : ∀ t, oS p e below s₁ (mkF m 0 #[vR xb, vI 40, .unset, .unset, .unset, .unset] []) t → oS p e below s₁ (entryFrame m #[(.ref xb), (.int 40)] 6) t := fun t k => castTop (ef_18 m xb (40 : Int32)) k
  obtain ⟨T1, X1, e1, st1⟩ := getF X0 hx hZ hown (host := "") (Or.inl (ow hw 68 rfl)) Via.refl e0 q0 (g := (mkF m 1 #[vR xb, vI 40, .unset, .unset, .unset, .unset] [(.ref xb)])) rfl rfl (oh hby D43 1 rfl)
  obtain ⟨cl2, Ar2, -, S2, M2, -, -⟩ := id q2
  obtain ⟨T3, X3, e3, st3⟩ := getF X1 hx hZ hown (host := "") (Or.inl (ow hw 70 rfl)) Via.refl e1 q1 (g := (mkF m 8 #[vR xb, vI 40, vI 16, .unset, .unset, .unset] [(.ref xb), (.int 40)])) rfl rfl (oh hby D43 6 rfl)
  obtain ⟨T4, X4, e4, st4⟩ := getF X3 hx hZ hown (host := "") (Or.inl (ow hw 70 rfl)) Via.refl e3 q1 (g := (mkF m 24 #[vR xb, vI 40, vI 16, vI 40, vI 24, .unset] [(.ref xb), (.int 2), (.int 16), (.int 24), (.int 16)])) rfl rfl (oh hby D43 18 rfl)
  obtain ⟨_, _, ⟨T5, L5, k5, n5⟩, -, X5, ⟨Lc5, hQ5, l5, y5, z5⟩, st5⟩ := Jvm.LawKit.callS X4 hx (y := y_44) hown (mvT hZ (ow hw 140 rfl)) (mvT hZ (ow hw 141 rfl)) (mvT hZ (ow hw 142 rfl)) (mvT hZ (ow hw 143 rfl)) (by decide) (backOf (W := 0) (rm_nl16 l Z a0 hw []  h0 n0 Z0 ) hZ (ow hw 143 rfl) (ow hw 142 rfl) (by decide) (by decide)) (g := (mkF m 29 #[vR xb, vI 40, vI 16, vI 40, vI 24, .unset] [(.int 18), (.int 24), (.int 16)])) rfl (by rw [hml]; rfl) (argsL := [(.int 16), (.int 24), (.int 18)]) (rest := []) (lenOf pd_18 rfl) rfl (by show 2 * 0 + _ ≤ _; exact Nat.le_of_eq rfl) (oh hby D43 21 rfl) (fun _ _ => ⟨rfl, e4, (by decide : 0 + 0 ≤ _), (by decide : 0 + 0 ≤ _)⟩)
  dsimp only [Pt.U, Pt.locs, Pt.cells, Pt.slots] at X5 l5 y5 z5 st5 hQ5
  subst l5 y5 z5
  obtain ⟨rfl, Nq5, e5⟩ := hQ5
  have N5 := Fr.app N0 Nq5
  obtain ⟨T6, X6, e6, st6⟩ := getF X5 hx hZ hown (host := "") (Or.inl (ow hw 70 rfl)) Via.refl e5 q1 (g := (mkF m 54 #[vR xb, vI 40, vI 16, vI 40, vI 24, vI 40] [(.ref xb), (.int 40)])) rfl rfl (oh hby D43 28 rfl)
  obtain ⟨fs, hr, hrun, hended, hW, hsame⟩ := X6.leave (v := some (.int 40)) (fun h => by rw [Bd.returns] at h; cases h)
  refine ⟨_, _, pre0 _ ?_, hrun, hended, _, _, rfl, ?_, ⟨_, rfl⟩, hW, hsame.mono (by decide) (by decide)⟩
  · refine XS.aloadN X0.here hx rfl (oh hby D43 0 rfl) rfl rfl ?_
    refine st1 _ ?_
    show oS p e below T1 (mkF m 4 #[vR xb, vI 40, .unset, .unset, .unset, .unset] [(.ref va)]) _
    refine X1.arraylength hx (by rw [e1]; exact Ar2.1) (State.isArrayOf_alike hZ.alike Ar2.2.1) (g := (mkF m 4 #[vR xb, vI 40, .unset, .unset, .unset, .unset] [(.ref va)])) rfl rfl (oh hby D43 2 rfl) _ ?_
    rw [len_of S2 M2]
    show oS p e below T1 (mkF m 5 #[vR xb, vI 40, .unset, .unset, .unset, .unset] [(.int 16)]) _
    refine XS.istoreN X1.here hx rfl (oh hby D43 3 rfl) rfl (l' := #[vR xb, vI 40, vI 16, .unset, .unset, .unset]) rfl ?_
    refine XS.iloadN X1.here hx rfl (oh hby D43 4 rfl) rfl ?_
    refine XS.aloadN X1.here hx rfl (oh hby D43 5 rfl) rfl rfl ?_
    refine st3 _ ?_
    show oS p e below T3 (mkF m 11 #[vR xb, vI 40, vI 16, .unset, .unset, .unset] [(.int 0), (.int 40)]) _
    refine XS.ishl X3.here hx rfl (oh hby D43 7 rfl) rfl ?_
    refine XS.istoreN X3.here hx rfl (oh hby D43 8 rfl) rfl (l' := #[vR xb, vI 40, vI 16, vI 40, .unset, .unset]) rfl ?_
    refine XS.iloadN X3.here hx rfl (oh hby D43 9 rfl) rfl ?_
    refine XS.iloadN X3.here hx rfl (oh hby D43 10 rfl) rfl ?_
    refine XS.isub X3.here hx rfl (oh hby D43 11 rfl) rfl ?_
    show oS p e below T3 (mkF m 16 #[vR xb, vI 40, vI 16, vI 40, .unset, .unset] [(.int 24)]) _
    refine XS.istore X3.here hx rfl (oh hby D43 12 rfl) rfl (l' := #[vR xb, vI 40, vI 16, vI 40, vI 24, .unset]) rfl ?_
    refine XS.iloadN X3.here hx rfl (oh hby D43 13 rfl) rfl ?_
    refine XS.iload X3.here hx rfl (oh hby D43 14 rfl) rfl ?_
    refine XS.iloadN X3.here hx rfl (oh hby D43 15 rfl) rfl ?_
    refine XS.iconst X3.here hx rfl (oh hby D43 16 rfl) ?_
    show oS p e below T3 (mkF m 23 #[vR xb, vI 40, vI 16, vI 40, vI 24, .unset] [(.int 2), (.int 16), (.int 24), (.int 16)]) _
    refine XS.aloadN X3.here hx rfl (oh hby D43 17 rfl) rfl rfl ?_
    refine st4 _ ?_
    show oS p e below T4 (mkF m 27 #[vR xb, vI 40, vI 16, vI 40, vI 24, .unset] [(.int 0), (.int 2), (.int 16), (.int 24), (.int 16)]) _
    refine XS.ishl X4.here hx rfl (oh hby D43 19 rfl) rfl ?_
    refine XS.iadd X4.here hx rfl (oh hby D43 20 rfl) rfl ?_
    refine st5 _ ?_
    show oS p e below T5 (mkF m 32 #[vR xb, vI 40, vI 16, vI 40, vI 24, .unset] [(.int 40)]) _
    refine XS.istore X5.here hx rfl (oh hby D43 22 rfl) rfl (l' := #[vR xb, vI 40, vI 16, vI 40, vI 24, vI 40]) rfl ?_
    refine XS.iload X5.here hx rfl (oh hby D43 23 rfl) rfl ?_
    show oS p e below T5 (mkF m 36 #[vR xb, vI 40, vI 16, vI 40, vI 24, vI 40] [(.int 40)]) _
    refine X5.ldcInt hx hown (mvT hZ (ow hw 148 rfl)) (g := (mkF m 36 #[vR xb, vI 40, vI 16, vI 40, vI 24, vI 40] [(.int 40)])) rfl (oh hby D43 24 rfl) _ ?_
    show oS p e below T5 (mkF m 38 #[vR xb, vI 40, vI 16, vI 40, vI 24, vI 40] [(.int 2147483647), (.int 40)]) _
    refine XS.icmpYes X5.here hx rfl (pc0 := 38) (pc' := 51) rfl (oh hby D43 25 rfl) rfl (feq ((by decide) : ¬ ((40 : Int32) = (2147483647 : Int32)))).2 (by decide) (by decide) ?_
    refine XS.iload X5.here hx rfl (oh hby D43 26 rfl) rfl ?_
    refine XS.aloadN X5.here hx rfl (oh hby D43 27 rfl) rfl rfl ?_
    refine st6 _ ?_
    show oS p e below T6 (mkF m 57 #[vR xb, vI 40, vI 16, vI 40, vI 24, vI 40] [(.int 0), (.int 40)]) _
    refine XS.ishr X6.here hx rfl (oh hby D43 29 rfl) rfl ?_
    show oS p e below T6 (mkF m 58 #[vR xb, vI 40, vI 16, vI 40, vI 24, vI 40] [(.int 40)]) _
    exact retI X6 hx Bd.returns (oh hby D43 30 rfl) hr
  · show Q_nc16 Z xb va ka vs h0 n0 _ T6.heap _
    rw [e6]
    exact ⟨rfl, N5, rfl⟩
theorem pd_24 : parseMethodDescriptor "([BI)[B" = some ⟨[(.array .byte), .int], some (.array .byte)⟩ := by decide +kernel
def Q_ec16 (Z : State) (xb : Addr) (va : Addr) (ka : ClassId) (vs : List Value) (ct : Int32) (h0 : Heap) (n0 : Nat) (v : Option Value) (h : Heap) (L : List Loc) : Prop := ∃ (vb : Addr) (kb : ClassId), (v = none) ∧ (Fr n0 L) ∧ (Keep h0 h ([xb] : List Addr)) ∧ (fB Z h xb "coder" "B" (.int 0)) ∧ (fB Z h xb "count" "I" (.int ct)) ∧ (fB Z h xb "maybeLatin1" "Z" (.int 0)) ∧ (fB Z h xb "value" "[B" (.ref vb)) ∧ (h0.size ≤ vb) ∧ (Arv Z h vb kb .byte (40 : Int32) (vs ++ (List.replicate 24 (Value.int 0))) (.int 0))
set_option maxRecDepth 65536 in
set_option maxHeartbeats 40000000 in
theorem rm_ec16 (l : Launch) (Z : State) (a0 : Array Value) (hw : HW Z a0) (ws : List Jvm.Cond) (xb : Addr) (va : Addr) (ka : ClassId) (vs : List Value) (ct : Int32) (h0 : Heap) (n0 : Nat) (Z0 : n0 ≤ h0.size) (q0 : Exa Z h0 xb "java/lang/StringBuilder") (q1 : n0 ≤ xb) (q2 : fB Z h0 xb "value" "[B" (.ref va)) (q3 : fB Z h0 xb "coder" "B" (.int 0)) (q4 : Arv Z h0 va ka .byte (16 : Int32) vs (.int 0)) (q5 : fB Z h0 xb "count" "I" (.int ct)) (q6 : fB Z h0 xb "maybeLatin1" "Z" (.int 0)) (q7 : va ≠ xb) (hvl : vs.length = 16) :
    mF l y_15 jdk_68_method_9_code 3 none ws (rmk 3 1 164 48) #[(.ref xb), (.int 40)] Z h0 (Q_ec16 Z xb va ka vs ct h0 n0) := by
  refine MetFree.of_bodySF (plainFor_of_name pn_2) hisR ?_
  intro p e s m args below meth c s₁ Bd hml0 hP hK
  obtain ⟨rfl, hZ, hh⟩ := hP
  have hx := Bd.exec
  have hby := Bd.bytes
  have hml : c.maxLocals = 3 := hml0
  have hown : s.vm.findClass "java/lang/AbstractStringBuilder" = some m.cls := findClass_of_methodNamed Bd.named
  have hnm := (name_of_methodNamed Bd.named Bd.method).1
  have X0 : Stand p l e (rmk 3 1 164 48) s m #[(.ref xb), (.int 40)] below meth c s₁ [] 0 0 := Stand.of_body Bd
  have e0 : s₁.heap = h0 := by rw [← hh, Bd.state]; rfl
  have N0 := Fr.nil n0
  have pre0 : ∀ t, oS p e below s₁ (mkF m 0 #[vR xb, vI 40, .unset] []) t → oS p e below s₁ (entryFrame m #[(.ref xb), (.int 40)] 3) t := fun t k => castTop (ef_14 m xb (40 : Int32)) k
  obtain ⟨T1, X1, e1, st1⟩ := getF X0 hx hZ hown (host := "") (Or.inl (ow hw 68 rfl)) Via.refl e0 q2 (g := (mkF m 1 #[vR xb, vI 40, .unset] [(.ref xb)])) rfl rfl (oh hby D44 1 rfl)
  obtain ⟨cl2, Ar2, -, S2, M2, -, -⟩ := id q4
  obtain ⟨T3, X3, e3, st3⟩ := getF X1 hx hZ hown (host := "") (Or.inl (ow hw 70 rfl)) Via.refl e1 q3 (g := (mkF m 6 #[vR xb, vI 40, .unset] [(.ref xb), (.int 16)])) rfl rfl (oh hby D44 4 rfl)
  obtain ⟨T4, X4, e4, st4⟩ := getF X3 hx hZ hown (host := "") (Or.inl (ow hw 68 rfl)) Via.refl e3 q2 (g := (mkF m 19 #[vR xb, vI 40, vI 16] [(.ref xb), (.ref xb)])) rfl rfl (oh hby D44 13 rfl)
  obtain ⟨cq5, q5_, q5_'⟩ := q0.cell
  obtain ⟨_, _, ⟨T5, L5, k5, n5⟩, -, X5, ⟨Lc5, hQ5, l5, y5, z5⟩, st5⟩ := X4.privateBack hx (y := y_45) hown (mvT hZ (ow hw 135 rfl)) (mvT hZ (ow hw 136 rfl)) (own_selpriv (by decide) (mvT hZ (ow hw 138 rfl)) (mvP hZ (ow hw 137 rfl)) (mvT hZ (ow hw 136 rfl))) (Cond.privateMethod_at (mvP hZ (ow hw 137 rfl) (args := #[]))) (mvT hZ (ow hw 139 rfl)) (by decide) (backOf (W := 2) (rm_nc16 l Z a0 hw [] xb va ka vs h0 n0 Z0 q2 q3 q4) hZ (ow hw 139 rfl) (ow hw 64 rfl) (by decide) (by decide)) (g := (mkF m 24 #[vR xb, vI 40, vI 16] [(.int 40), (.ref xb), (.ref va), (.ref xb)])) rfl (by rw [hml]; rfl) (Steps.refl _) (a := xb) (by rw [e4]; exact q5_) q5_' (argsL := [(.int 40)]) (rest := [(.ref va), (.ref xb)]) (lenOf pd_0 rfl) rfl (by show 2 * 0 + _ ≤ _; exact Nat.le_of_eq rfl) (oh hby D44 16 rfl) (fun _ _ => ⟨rfl, e4, (by decide : 0 + 0 ≤ _), (by decide : 0 + 0 ≤ _)⟩)
  dsimp only [Pt.U, Pt.locs, Pt.cells, Pt.slots] at X5 l5 y5 z5 st5 hQ5
  subst l5 y5 z5
  obtain ⟨rfl, Nq5, e5⟩ := hQ5
  have N5 := Fr.app N0 Nq5
  obtain ⟨T6, X6, e6, st6⟩ := getF X5 hx hZ hown (host := "") (Or.inl (ow hw 70 rfl)) Via.refl e5 q3 (g := (mkF m 28 #[vR xb, vI 40, vI 16] [(.ref xb), (.int 40), (.ref va), (.ref xb)])) rfl rfl (oh hby D44 18 rfl)
  obtain ⟨_, _, ⟨T7, L7, k7, n7⟩, -, X7, ⟨Lc7, hQ7, l7, y7, z7⟩, st7⟩ := Jvm.LawKit.callS X6 hx (y := y_30) hown (mvT hZ (ow hw 149 rfl)) (mvT hZ (ow hw 150 rfl)) (mvT hZ (ow hw 98 rfl)) (mvT hZ (ow hw 151 rfl)) (by decide) (backOf (W := 1) (rm_cpO l Z a0 hw [] va 40 ka 16 vs h0 n0 Z0 q4 (by decide) (by decide) hvl) hZ (ow hw 151 rfl) (ow hw 98 rfl) (by decide) (by decide)) (g := (mkF m 32 #[vR xb, vI 40, vI 16] [(.int 40), (.ref va), (.ref xb)])) rfl (by rw [hml]; rfl) (argsL := [(.ref va), (.int 40)]) (rest := [(.ref xb)]) (lenOf pd_24 rfl) rfl (by show 2 * 0 + _ ≤ _; exact Nat.le_of_eq rfl) (oh hby D44 20 rfl) (fun _ _ => ⟨rfl, e6, (by decide : 0 + 1 ≤ _), (by decide : 0 + 164 ≤ _)⟩)
  dsimp only [Pt.U, Pt.locs, Pt.cells, Pt.slots] at X7 l7 y7 z7 st7 hQ7
  subst l7 y7 z7
  obtain ⟨tt_7, kt_7, rfl, Nq7, K7, f7_0, f7_1⟩ := hQ7
  have N7 := Fr.app N5 Nq7
  have c8 := (q2.keep K7 nin0)
  have c9 := (q0.keep K7)
  obtain ⟨T10, h10, X10, e10, W10, st10⟩ := putF X7 hx hZ hown (host := "") (Or.inl (ow hw 68 rfl)) Via.refl rfl c8 c9 (Or.inl (ow hw 69 rfl)) (ow hw 55 rfl) (ty := (.array .byte)) (by decide) rfl rfl (g := (mkF m 35 #[vR xb, vI 40, vI 16] [(.ref tt_7), (.ref xb)])) rfl rfl (oh hby D44 21 rfl)
  have N10 := Fr.snoc X10 N7 q1
  have F10 : fB Z h10 xb "value" "[B" (.ref tt_7) := c8.same W10
  have ne11 : xb ≠ tt_7 := Nat.ne_of_lt (Nat.lt_of_lt_of_le q3.lt f7_0)
  have c12 := (f7_1.other W10 (Ne.symm ne11))
  have c13 := ((q3.keep K7 nin0).other W10 (Or.inr (slot_ne (Or.inl (ow hw 71 rfl)) (Or.inl (ow hw 69 rfl)) (by decide) (t := .byte) (t' := (.array .byte)) (by decide) (by decide))))
  have c14 := ((q5.keep K7 nin0).other W10 (Or.inr (slot_ne (Or.inl (ow hw 129 rfl)) (Or.inl (ow hw 69 rfl)) (by decide) (t := .int) (t' := (.array .byte)) (by decide) (by decide))))
  have c15 := ((q6.keep K7 nin0).other W10 (Or.inr (slot_ne (Or.inl (ow hw 276 rfl)) (Or.inl (ow hw 69 rfl)) (by decide) (t := .boolean) (t' := (.array .byte)) (by decide) (by decide))))
  obtain ⟨fs, hr, hrun, hended, hW, hsame⟩ := X10.leave (v := none) (fun _ => rfl)
  refine ⟨_, _, pre0 _ ?_, hrun, hended, _, _, rfl, ?_, ⟨_, rfl⟩, hW, hsame.mono (by decide) (by decide)⟩
  · refine XS.aloadN X0.here hx rfl (oh hby D44 0 rfl) rfl rfl ?_
    refine st1 _ ?_
    show oS p e below T1 (mkF m 4 #[vR xb, vI 40, .unset] [(.ref va)]) _
    refine X1.arraylength hx (by rw [e1]; exact Ar2.1) (State.isArrayOf_alike hZ.alike Ar2.2.1) (g := (mkF m 4 #[vR xb, vI 40, .unset] [(.ref va)])) rfl rfl (oh hby D44 2 rfl) _ ?_
    rw [len_of S2 M2]
    show oS p e below T1 (mkF m 5 #[vR xb, vI 40, .unset] [(.int 16)]) _
    refine XS.aloadN X1.here hx rfl (oh hby D44 3 rfl) rfl rfl ?_
    refine st3 _ ?_
    show oS p e below T3 (mkF m 9 #[vR xb, vI 40, .unset] [(.int 0), (.int 16)]) _
    refine XS.ishr X3.here hx rfl (oh hby D44 5 rfl) rfl ?_
    refine XS.istoreN X3.here hx rfl (oh hby D44 6 rfl) rfl (l' := #[vR xb, vI 40, vI 16]) rfl ?_
    refine XS.iloadN X3.here hx rfl (oh hby D44 7 rfl) rfl ?_
    refine XS.iloadN X3.here hx rfl (oh hby D44 8 rfl) rfl ?_
    refine XS.isub X3.here hx rfl (oh hby D44 9 rfl) rfl ?_
    show oS p e below T3 (mkF m 14 #[vR xb, vI 40, vI 16] [(.int 24)]) _
    refine XS.ifNo X3.here hx rfl (oh hby D44 10 rfl) rfl ((if0 _ _).trans (tlt ((by decide) : (0 : Int32) < (24 : Int32))).2.2.2) ?_
    refine XS.aloadN X3.here hx rfl (oh hby D44 11 rfl) rfl rfl ?_
    refine XS.aloadN X3.here hx rfl (oh hby D44 12 rfl) rfl rfl ?_
    refine st4 _ ?_
    show oS p e below T4 (mkF m 22 #[vR xb, vI 40, vI 16] [(.ref va), (.ref xb)]) _
    refine XS.aloadN X4.here hx rfl (oh hby D44 14 rfl) rfl rfl ?_
    refine XS.iloadN X4.here hx rfl (oh hby D44 15 rfl) rfl ?_
    refine st5.trans ?_
    show oS p e below T5 (mkF m 27 #[vR xb, vI 40, vI 16] [(.int 40), (.ref va), (.ref xb)]) _
    refine XS.aloadN X5.here hx rfl (oh hby D44 17 rfl) rfl rfl ?_
    refine st6 _ ?_
    show oS p e below T6 (mkF m 31 #[vR xb, vI 40, vI 16] [(.int 0), (.int 40), (.ref va), (.ref xb)]) _
    refine XS.ishl X6.here hx rfl (oh hby D44 19 rfl) rfl ?_
    refine st7 _ ?_
    show oS p e below T7 (mkF m 35 #[vR xb, vI 40, vI 16] [(.ref tt_7), (.ref xb)]) _
    refine st10 _ ?_
    show oS p e below T10 (mkF m 38 #[vR xb, vI 40, vI 16] []) _
    exact X10.returnOut hx Bd.returns (oh hby D44 22 rfl) hr
  · show Q_ec16 Z xb va ka vs ct h0 n0 _ T10.heap _
    rw [e10]
    exact ⟨tt_7, kt_7, rfl, N10, (((Keep.refl h0 ([xb] : List Addr)).trans K7 all0).wr W10 (Or.inl (by simp))), c13, c14, c15, F10, (Nat.le_trans (Nat.le_refl _) f7_0), c12⟩
def Q_mx40 (Z : State)  (h0 : Heap) (n0 : Nat) (v : Option Value) (h : Heap) (L : List Loc) : Prop := (v = some (.int 42)) ∧ (Fr n0 L) ∧ (h = h0)
set_option maxRecDepth 65536 in
set_option maxHeartbeats 40000000 in
theorem rm_mx40 (l : Launch) (Z : State) (a0 : Array Value) (hw : HW Z a0) (ws : List Jvm.Cond) (h0 : Heap) (n0 : Nat) (Z0 : n0 ≤ h0.size) :
    mF l y_43 jdk_29_method_65_code 2 (some .int) ws (rmk 0 0 0 0) #[(.int 3), (.int 42)] Z h0 (Q_mx40 Z  h0 n0) := by
  refine MetFree.of_bodySF (Jvm.Free.JP.mathPlain rfl (by decide +kernel)) hisR ?_
  intro p e s m args below meth c s₁ Bd hml0 hP hK
  obtain ⟨rfl, hZ, hh⟩ := hP
  have hx := Bd.exec
  have hby := Bd.bytes
  have hml : c.maxLocals = 2 := hml0
  have hown : s.vm.findClass "java/lang/Math" = some m.cls := findClass_of_methodNamed Bd.named
  have hnm := (name_of_methodNamed Bd.named Bd.method).1
  have X0 : Stand p l e (rmk 0 0 0 0) s m #[(.int 3), (.int 42)] below meth c s₁ [] 0 0 := Stand.of_body Bd
  have e0 : s₁.heap = h0 := by rw [← hh, Bd.state]; rfl
  have N0 := Fr.nil n0
  have pre0 : ∀ t, oS p e below s₁ (mkF m 0 #[vI 3, vI 42] []) t → oS p e below s₁ (entryFrame m #[(.int 3), (.int 42)] 2) t := fun t k => castTop (ef_12 m (3 : Int32) (42 : Int32)) k
  obtain ⟨fs, hr, hrun, hended, hW, hsame⟩ := X0.leave (v := some (.int 42)) (fun h => by rw [Bd.returns] at h; cases h)
  refine ⟨_, _, pre0 _ ?_, hrun, hended, _, _, rfl, ?_, ⟨_, rfl⟩, hW, hsame.mono (by decide) (by decide)⟩
  · refine XS.iloadN X0.here hx rfl (oh hby D41 0 rfl) rfl ?_
    refine XS.iloadN X0.here hx rfl (oh hby D41 1 rfl) rfl ?_
    refine XS.icmpYes X0.here hx rfl (pc0 := 2) (pc' := 9) rfl (oh hby D41 2 rfl) rfl (tlt ((by decide) : (3 : Int32) < (42 : Int32))).1 (by decide) (by decide) ?_
    refine XS.iloadN X0.here hx rfl (oh hby D41 5 rfl) rfl ?_
    show oS p e below s₁ (mkF m 10 #[vI 3, vI 42] [(.int 42)]) _
    exact retI X0 hx Bd.returns (oh hby D41 6 rfl) hr
  · show Q_mx40 Z  h0 n0 _ s₁.heap _
    rw [e0]
    exact ⟨rfl, N0, rfl⟩
def Q_nl40 (Z : State)  (h0 : Heap) (n0 : Nat) (v : Option Value) (h : Heap) (L : List Loc) : Prop := (v = some (.int 82)) ∧ (Fr n0 L) ∧ (h = h0)
set_option maxRecDepth 65536 in
set_option maxHeartbeats 40000000 in
theorem rm_nl40 (l : Launch) (Z : State) (a0 : Array Value) (hw : HW Z a0) (ws : List Jvm.Cond) (h0 : Heap) (n0 : Nat) (Z0 : n0 ≤ h0.size) :
    mF l y_44 jdk_48_method_27_code 4 (some .int) ws (rmk 1 0 0 14) #[(.int 40), (.int 3), (.int 42)] Z h0 (Q_nl40 Z  h0 n0) := by
  refine MetFree.of_bodySF (plainFor_of_name pn_7) hisR ?_
  intro p e s m args below meth c s₁ Bd hml0 hP hK
  obtain ⟨rfl, hZ, hh⟩ := hP
  have hx := Bd.exec
  have hby := Bd.bytes
  have hml : c.maxLocals = 4 := hml0
  have hown : s.vm.findClass "jdk/internal/util/ArraysSupport" = some m.cls := findClass_of_methodNamed Bd.named
  have hnm := (name_of_methodNamed Bd.named Bd.method).1
  have X0 : Stand p l e (rmk 1 0 0 14) s m #[(.int 40), (.int 3), (.int 42)] below meth c s₁ [] 0 0 := Stand.of_body Bd
  have e0 : s₁.heap = h0 := by rw [← hh, Bd.state]; rfl
  have N0 := Fr.nil n0
  have pre0 : ∀ t, oS p e below s₁ (mkF m 0 #[vI 40, vI 3, vI 42, .unset] []) t → oS p e below s₁ (entryFrame m #[(.int 40), (.int 3), (.int 42)] 4) t := fun t k => castTop (ef_17 m (40 : Int32) (3 : Int32) (42 : Int32)) k
  obtain ⟨_, _, ⟨T1, L1, k1, n1⟩, -, X1, ⟨Lc1, hQ1, l1, y1, z1⟩, st1⟩ := Jvm.LawKit.callS X0 hx (y := y_43) hown (mvT hZ (ow hw 144 rfl)) (mvT hZ (ow hw 145 rfl)) (mvT hZ (ow hw 108 rfl)) (mvT hZ (ow hw 146 rfl)) (by decide) (backOf (W := 1) (rm_mx40 l Z a0 hw []  h0 n0 Z0 ) hZ (ow hw 146 rfl) (ow hw 108 rfl) (by decide) (by decide)) (g := (mkF m 3 #[vI 40, vI 3, vI 42, .unset] [(.int 42), (.int 3), (.int 40)])) rfl (by rw [hml]; rfl) (argsL := [(.int 3), (.int 42)]) (rest := [(.int 40)]) (lenOf pd_15 rfl) rfl (by show 2 * 0 + _ ≤ _; exact Nat.le_of_eq rfl) (oh hby D42 3 rfl) (fun _ _ => ⟨rfl, e0, (by decide : 0 + 0 ≤ _), (by decide : 0 + 0 ≤ _)⟩)
  dsimp only [Pt.U, Pt.locs, Pt.cells, Pt.slots] at X1 l1 y1 z1 st1 hQ1
  subst l1 y1 z1
  obtain ⟨rfl, Nq1, e1⟩ := hQ1
  have N1 := Fr.app N0 Nq1
  obtain ⟨fs, hr, hrun, hended, hW, hsame⟩ := X1.leave (v := some (.int 82)) (fun h => by rw [Bd.returns] at h; cases h)
  refine ⟨_, _, pre0 _ ?_, hrun, hended, _, _, rfl, ?_, ⟨_, rfl⟩, hW, hsame.mono (by decide) (by decide)⟩
  · refine XS.iloadN X0.here hx rfl (oh hby D42 0 rfl) rfl ?_
    refine XS.iloadN X0.here hx rfl (oh hby D42 1 rfl) rfl ?_
    refine XS.iloadN X0.here hx rfl (oh hby D42 2 rfl) rfl ?_
    refine st1 _ ?_
    show oS p e below T1 (mkF m 6 #[vI 40, vI 3, vI 42, .unset] [(.int 42), (.int 40)]) _
    refine XS.iadd X1.here hx rfl (oh hby D42 4 rfl) rfl ?_
    refine XS.istoreN X1.here hx rfl (oh hby D42 5 rfl) rfl (l' := #[vI 40, vI 3, vI 42, vI 82]) rfl ?_
    refine XS.iconst X1.here hx rfl (oh hby D42 6 rfl) ?_
    refine XS.iloadN X1.here hx rfl (oh hby D42 7 rfl) rfl ?_
    refine XS.icmpNo X1.here hx rfl (oh hby D42 8 rfl) rfl (tlt ((by decide) : (0 : Int32) < (82 : Int32))).2.1 ?_
    show oS p e below T1 (mkF m 13 #[vI 40, vI 3, vI 42, vI 82] []) _
    refine XS.iloadN X1.here hx rfl (oh hby D42 9 rfl) rfl ?_
    show oS p e below T1 (mkF m 14 #[vI 40, vI 3, vI 42, vI 82] [(.int 82)]) _
    refine X1.ldcInt hx hown (mvT hZ (ow hw 147 rfl)) (g := (mkF m 14 #[vI 40, vI 3, vI 42, vI 82] [(.int 82)])) rfl (oh hby D42 10 rfl) _ ?_
    show oS p e below T1 (mkF m 16 #[vI 40, vI 3, vI 42, vI 82] [(.int 2147483639), (.int 82)]) _
    refine XS.icmpNo X1.here hx rfl (oh hby D42 11 rfl) rfl (flt ((by decide) : ¬ ((2147483639 : Int32) < (82 : Int32)))).2.2.1 ?_
    refine XS.iloadN X1.here hx rfl (oh hby D42 12 rfl) rfl ?_
    show oS p e below T1 (mkF m 20 #[vI 40, vI 3, vI 42, vI 82] [(.int 82)]) _
    exact retI X1 hx Bd.returns (oh hby D42 13 rfl) hr
  · show Q_nl40 Z  h0 n0 _ T1.heap _
    rw [e1]
    exact ⟨rfl, N1, rfl⟩
def Q_nc40 (Z : State) (xb : Addr) (va : Addr) (ka : ClassId) (vs : List Value) (h0 : Heap) (n0 : Nat) (v : Option Value) (h : Heap) (L : List Loc) : Prop := (v = some (.int 82)) ∧ (Fr n0 L) ∧ (h = h0)
set_option maxRecDepth 65536 in
set_option maxHeartbeats 40000000 in
theorem rm_nc40 (l : Launch) (Z : State) (a0 : Array Value) (hw : HW Z a0) (ws : List Jvm.Cond) (xb : Addr) (va : Addr) (ka : ClassId) (vs : List Value) (h0 : Heap) (n0 : Nat) (Z0 : n0 ≤ h0.size) (q0 : fB Z h0 xb "value" "[B" (.ref va)) (q1 : fB Z h0 xb "coder" "B" (.int 0)) (q2 : Arv Z h0 va ka .byte (40 : Int32) vs (.int 0)) :
    mF l y_45 jdk_68_method_10_code 6 (some .int) ws (rmk 2 0 0 29) #[(.ref xb), (.int 43)] Z h0 (Q_nc40 Z xb va ka vs h0 n0) := by
  refine MetFree.of_bodySF (plainFor_of_name pn_2) hisR ?_
  intro p e s m args below meth c s₁ Bd hml0 hP hK
  obtain ⟨rfl, hZ, hh⟩ := hP
  have hx := Bd.exec
  have hby := Bd.bytes
  have hml : c.maxLocals = 6 := hml0
  have hown : s.vm.findClass "java/lang/AbstractStringBuilder" = some m.cls := findClass_of_methodNamed Bd.named
  have hnm := (name_of_methodNamed Bd.named Bd.method).1
  have X0 : Stand p l e (rmk 2 0 0 29) s m #[(.ref xb), (.int 43)] below meth c s₁ [] 0 0 := Stand.of_body Bd
  have e0 : s₁.heap = h0 := by rw [← hh, Bd.state]; rfl
  have N0 := Fr.nil n0
  have pre0 : ∀ t, oS p e below s₁ (mkF m 0 #[vR xb, vI 43, .unset, .unset, .unset, .unset] []) t → oS p e below s₁ (entryFrame m #[(.ref xb), (.int 43)] 6) t := fun t k => castTop (ef_18 m xb (43 : Int32)) k
  obtain ⟨T1, X1, e1, st1⟩ := getF X0 hx hZ hown (host := "") (Or.inl (ow hw 68 rfl)) Via.refl e0 q0 (g := (mkF m 1 #[vR xb, vI 43, .unset, .unset, .unset, .unset] [(.ref xb)])) rfl rfl (oh hby D43 1 rfl)
  obtain ⟨cl2, Ar2, -, S2, M2, -, -⟩ := id q2
  obtain ⟨T3, X3, e3, st3⟩ := getF X1 hx hZ hown (host := "") (Or.inl (ow hw 70 rfl)) Via.refl e1 q1 (g := (mkF m 8 #[vR xb, vI 43, vI 40, .unset, .unset, .unset] [(.ref xb), (.int 43)])) rfl rfl (oh hby D43 6 rfl)
  obtain ⟨T4, X4, e4, st4⟩ := getF X3 hx hZ hown (host := "") (Or.inl (ow hw 70 rfl)) Via.refl e3 q1 (g := (mkF m 24 #[vR xb, vI 43, vI 40, vI 43, vI 3, .unset] [(.ref xb), (.int 2), (.int 40), (.int 3), (.int 40)])) rfl rfl (oh hby D43 18 rfl)
  obtain ⟨_, _, ⟨T5, L5, k5, n5⟩, -, X5, ⟨Lc5, hQ5, l5, y5, z5⟩, st5⟩ := Jvm.LawKit.callS X4 hx (y := y_44) hown (mvT hZ (ow hw 140 rfl)) (mvT hZ (ow hw 141 rfl)) (mvT hZ (ow hw 142 rfl)) (mvT hZ (ow hw 143 rfl)) (by decide) (backOf (W := 0) (rm_nl40 l Z a0 hw []  h0 n0 Z0 ) hZ (ow hw 143 rfl) (ow hw 142 rfl) (by decide) (by decide)) (g := (mkF m 29 #[vR xb, vI 43, vI 40, vI 43, vI 3, .unset] [(.int 42), (.int 3), (.int 40)])) rfl (by rw [hml]; rfl) (argsL := [(.int 40), (.int 3), (.int 42)]) (rest := []) (lenOf pd_18 rfl) rfl (by show 2 * 0 + _ ≤ _; exact Nat.le_of_eq rfl) (oh hby D43 21 rfl) (fun _ _ => ⟨rfl, e4, (by decide : 0 + 0 ≤ _), (by decide : 0 + 0 ≤ _)⟩)
  dsimp only [Pt.U, Pt.locs, Pt.cells, Pt.slots] at X5 l5 y5 z5 st5 hQ5
  subst l5 y5 z5
  obtain ⟨rfl, Nq5, e5⟩ := hQ5
  have N5 := Fr.app N0 Nq5
  obtain ⟨T6, X6, e6, st6⟩ := getF X5 hx hZ hown (host := "") (Or.inl (ow hw 70 rfl)) Via.refl e5 q1 (g := (mkF m 54 #[vR xb, vI 43, vI 40, vI 43, vI 3, vI 82] [(.ref xb), (.int 82)])) rfl rfl (oh hby D43 28 rfl)
  obtain ⟨fs, hr, hrun, hended, hW, hsame⟩ := X6.leave (v := some (.int 82)) (fun h => by rw [Bd.returns] at h; cases h)
  refine ⟨_, _, pre0 _ ?_, hrun, hended, _, _, rfl, ?_, ⟨_, rfl⟩, hW, hsame.mono (by decide) (by decide)⟩
  · refine XS.aloadN X0.here hx rfl (oh hby D43 0 rfl) rfl rfl ?_
    refine st1 _ ?_
    show oS p e below T1 (mkF m 4 #[vR xb, vI 43, .unset, .unset, .unset, .unset] [(.ref va)]) _
    refine X1.arraylength hx (by rw [e1]; exact Ar2.1) (State.isArrayOf_alike hZ.alike Ar2.2.1) (g := (mkF m 4 #[vR xb, vI 43, .unset, .unset, .unset, .unset] [(.ref va)])) rfl rfl (oh hby D43 2 rfl) _ ?_
    rw [len_of S2 M2]
    show oS p e below T1 (mkF m 5 #[vR xb, vI 43, .unset, .unset, .unset, .unset] [(.int 40)]) _
    refine XS.istoreN X1.here hx rfl (oh hby D43 3 rfl) rfl (l' := #[vR xb, vI 43, vI 40, .unset, .unset, .unset]) rfl ?_
    refine XS.iloadN X1.here hx rfl (oh hby D43 4 rfl) rfl ?_
    refine XS.aloadN X1.here hx rfl (oh hby D43 5 rfl) rfl rfl ?_
    refine st3 _ ?_
    show oS p e below T3 (mkF m 11 #[vR xb, vI 43, vI 40, .unset, .unset, .unset] [(.int 0), (.int 43)]) _
    refine XS.ishl X3.here hx rfl (oh hby D43 7 rfl) rfl ?_
    refine XS.istoreN X3.here hx rfl (oh hby D43 8 rfl) rfl (l' := #[vR xb, vI 43, vI 40, vI 43, .unset, .unset]) rfl ?_
    refine XS.iloadN X3.here hx rfl (oh hby D43 9 rfl) rfl ?_
    refine XS.iloadN X3.here hx rfl (oh hby D43 10 rfl) rfl ?_
    refine XS.isub X3.here hx rfl (oh hby D43 11 rfl) rfl ?_
    show oS p e below T3 (mkF m 16 #[vR xb, vI 43, vI 40, vI 43, .unset, .unset] [(.int 3)]) _
    refine XS.istore X3.here hx rfl (oh hby D43 12 rfl) rfl (l' := #[vR xb, vI 43, vI 40, vI 43, vI 3, .unset]) rfl ?_
    refine XS.iloadN X3.here hx rfl (oh hby D43 13 rfl) rfl ?_
    refine XS.iload X3.here hx rfl (oh hby D43 14 rfl) rfl ?_
    refine XS.iloadN X3.here hx rfl (oh hby D43 15 rfl) rfl ?_
    refine XS.iconst X3.here hx rfl (oh hby D43 16 rfl) ?_
    show oS p e below T3 (mkF m 23 #[vR xb, vI 43, vI 40, vI 43, vI 3, .unset] [(.int 2), (.int 40), (.int 3), (.int 40)]) _
    refine XS.aloadN X3.here hx rfl (oh hby D43 17 rfl) rfl rfl ?_
    refine st4 _ ?_
    show oS p e below T4 (mkF m 27 #[vR xb, vI 43, vI 40, vI 43, vI 3, .unset] [(.int 0), (.int 2), (.int 40), (.int 3), (.int 40)]) _
    refine XS.ishl X4.here hx rfl (oh hby D43 19 rfl) rfl ?_
    refine XS.iadd X4.here hx rfl (oh hby D43 20 rfl) rfl ?_
    refine st5 _ ?_
    show oS p e below T5 (mkF m 32 #[vR xb, vI 43, vI 40, vI 43, vI 3, .unset] [(.int 82)]) _
    refine XS.istore X5.here hx rfl (oh hby D43 22 rfl) rfl (l' := #[vR xb, vI 43, vI 40, vI 43, vI 3, vI 82]) rfl ?_
    refine XS.iload X5.here hx rfl (oh hby D43 23 rfl) rfl ?_
    show oS p e below T5 (mkF m 36 #[vR xb, vI 43, vI 40, vI 43, vI 3, vI 82] [(.int 82)]) _
    refine X5.ldcInt hx hown (mvT hZ (ow hw 148 rfl)) (g := (mkF m 36 #[vR xb, vI 43, vI 40, vI 43, vI 3, vI 82] [(.int 82)])) rfl (oh hby D43 24 rfl) _ ?_
    show oS p e below T5 (mkF m 38 #[vR xb, vI 43, vI 40, vI 43, vI 3, vI 82] [(.int 2147483647), (.int 82)]) _
    refine XS.icmpYes X5.here hx rfl (pc0 := 38) (pc' := 51) rfl (oh hby D43 25 rfl) rfl (feq ((by decide) : ¬ ((82 : Int32) = (2147483647 : Int32)))).2 (by decide) (by decide) ?_
    refine XS.iload X5.here hx rfl (oh hby D43 26 rfl) rfl ?_
    refine XS.aloadN X5.here hx rfl (oh hby D43 27 rfl) rfl rfl ?_
    refine st6 _ ?_
    show oS p e below T6 (mkF m 57 #[vR xb, vI 43, vI 40, vI 43, vI 3, vI 82] [(.int 0), (.int 82)]) _
    refine XS.ishr X6.here hx rfl (oh hby D43 29 rfl) rfl ?_
    show oS p e below T6 (mkF m 58 #[vR xb, vI 43, vI 40, vI 43, vI 3, vI 82] [(.int 82)]) _
    exact retI X6 hx Bd.returns (oh hby D43 30 rfl) hr
  · show Q_nc40 Z xb va ka vs h0 n0 _ T6.heap _
    rw [e6]
    exact ⟨rfl, N5, rfl⟩
def Q_ec40 (Z : State) (xb : Addr) (va : Addr) (ka : ClassId) (vs : List Value) (ct : Int32) (h0 : Heap) (n0 : Nat) (v : Option Value) (h : Heap) (L : List Loc) : Prop := ∃ (vb : Addr) (kb : ClassId), (v = none) ∧ (Fr n0 L) ∧ (Keep h0 h ([xb] : List Addr)) ∧ (fB Z h xb "coder" "B" (.int 0)) ∧ (fB Z h xb "count" "I" (.int ct)) ∧ (fB Z h xb "maybeLatin1" "Z" (.int 0)) ∧ (fB Z h xb "value" "[B" (.ref vb)) ∧ (h0.size ≤ vb) ∧ (Arv Z h vb kb .byte (82 : Int32) (vs ++ (List.replicate 42 (Value.int 0))) (.int 0))
set_option maxRecDepth 65536 in
set_option maxHeartbeats 40000000 in
theorem rm_ec40 (l : Launch) (Z : State) (a0 : Array Value) (hw : HW Z a0) (ws : List Jvm.Cond) (xb : Addr) (va : Addr) (ka : ClassId) (vs : List Value) (ct : Int32) (h0 : Heap) (n0 : Nat) (Z0 : n0 ≤ h0.size) (q0 : Exa Z h0 xb "java/lang/StringBuilder") (q1 : n0 ≤ xb) (q2 : fB Z h0 xb "value" "[B" (.ref va)) (q3 : fB Z h0 xb "coder" "B" (.int 0)) (q4 : Arv Z h0 va ka .byte (40 : Int32) vs (.int 0)) (q5 : fB Z h0 xb "count" "I" (.int ct)) (q6 : fB Z h0 xb "maybeLatin1" "Z" (.int 0)) (q7 : va ≠ xb) (hvl : vs.length = 40) :
    mF l y_15 jdk_68_method_9_code 3 none ws (rmk 3 1 164 48) #[(.ref xb), (.int 43)] Z h0 (Q_ec40 Z xb va ka vs ct h0 n0) := by
  refine MetFree.of_bodySF (plainFor_of_name pn_2) hisR ?_
  intro p e s m args below meth c s₁ Bd hml0 hP hK
  obtain ⟨rfl, hZ, hh⟩ := hP
  have hx := Bd.exec
  have hby := Bd.bytes
  have hml : c.maxLocals = 3 := hml0
  have hown : s.vm.findClass "java/lang/AbstractStringBuilder" = some m.cls := findClass_of_methodNamed Bd.named
  have hnm := (name_of_methodNamed Bd.named Bd.method).1
  have X0 : Stand p l e (rmk 3 1 164 48) s m #[(.ref xb), (.int 43)] below meth c s₁ [] 0 0 := Stand.of_body Bd
  have e0 : s₁.heap = h0 := by rw [← hh, Bd.state]; rfl
  have N0 := Fr.nil n0
  have pre0 : ∀ t, oS p e below s₁ (mkF m 0 #[vR xb, vI 43, .unset] []) t → oS p e below s₁ (entryFrame m #[(.ref xb), (.int 43)] 3) t := fun t k => castTop (ef_14 m xb (43 : Int32)) k
  obtain ⟨T1, X1, e1, st1⟩ := getF X0 hx hZ hown (host := "") (Or.inl (ow hw 68 rfl)) Via.refl e0 q2 (g := (mkF m 1 #[vR xb, vI 43, .unset] [(.ref xb)])) rfl rfl (oh hby D44 1 rfl)
  obtain ⟨cl2, Ar2, -, S2, M2, -, -⟩ := id q4
  obtain ⟨T3, X3, e3, st3⟩ := getF X1 hx hZ hown (host := "") (Or.inl (ow hw 70 rfl)) Via.refl e1 q3 (g := (mkF m 6 #[vR xb, vI 43, .unset] [(.ref xb), (.int 40)])) rfl rfl (oh hby D44 4 rfl)
  obtain ⟨T4, X4, e4, st4⟩ := getF X3 hx hZ hown (host := "") (Or.inl (ow hw 68 rfl)) Via.refl e3 q2 (g := (mkF m 19 #[vR xb, vI 43, vI 40] [(.ref xb), (.ref xb)])) rfl rfl (oh hby D44 13 rfl)
  obtain ⟨cq5, q5_, q5_'⟩ := q0.cell
  obtain ⟨_, _, ⟨T5, L5, k5, n5⟩, -, X5, ⟨Lc5, hQ5, l5, y5, z5⟩, st5⟩ := X4.privateBack hx (y := y_45) hown (mvT hZ (ow hw 135 rfl)) (mvT hZ (ow hw 136 rfl)) (own_selpriv (by decide) (mvT hZ (ow hw 138 rfl)) (mvP hZ (ow hw 137 rfl)) (mvT hZ (ow hw 136 rfl))) (Cond.privateMethod_at (mvP hZ (ow hw 137 rfl) (args := #[]))) (mvT hZ (ow hw 139 rfl)) (by decide) (backOf (W := 2) (rm_nc40 l Z a0 hw [] xb va ka vs h0 n0 Z0 q2 q3 q4) hZ (ow hw 139 rfl) (ow hw 64 rfl) (by decide) (by decide)) (g := (mkF m 24 #[vR xb, vI 43, vI 40] [(.int 43), (.ref xb), (.ref va), (.ref xb)])) rfl (by rw [hml]; rfl) (Steps.refl _) (a := xb) (by rw [e4]; exact q5_) q5_' (argsL := [(.int 43)]) (rest := [(.ref va), (.ref xb)]) (lenOf pd_0 rfl) rfl (by show 2 * 0 + _ ≤ _; exact Nat.le_of_eq rfl) (oh hby D44 16 rfl) (fun _ _ => ⟨rfl, e4, (by decide : 0 + 0 ≤ _), (by decide : 0 + 0 ≤ _)⟩)
  dsimp only [Pt.U, Pt.locs, Pt.cells, Pt.slots] at X5 l5 y5 z5 st5 hQ5
  subst l5 y5 z5
  obtain ⟨rfl, Nq5, e5⟩ := hQ5
  have N5 := Fr.app N0 Nq5
  obtain ⟨T6, X6, e6, st6⟩ := getF X5 hx hZ hown (host := "") (Or.inl (ow hw 70 rfl)) Via.refl e5 q3 (g := (mkF m 28 #[vR xb, vI 43, vI 40] [(.ref xb), (.int 82), (.ref va), (.ref xb)])) rfl rfl (oh hby D44 18 rfl)
  obtain ⟨_, _, ⟨T7, L7, k7, n7⟩, -, X7, ⟨Lc7, hQ7, l7, y7, z7⟩, st7⟩ := Jvm.LawKit.callS X6 hx (y := y_30) hown (mvT hZ (ow hw 149 rfl)) (mvT hZ (ow hw 150 rfl)) (mvT hZ (ow hw 98 rfl)) (mvT hZ (ow hw 151 rfl)) (by decide) (backOf (W := 1) (rm_cpO l Z a0 hw [] va 82 ka 40 vs h0 n0 Z0 q4 (by decide) (by decide) hvl) hZ (ow hw 151 rfl) (ow hw 98 rfl) (by decide) (by decide)) (g := (mkF m 32 #[vR xb, vI 43, vI 40] [(.int 82), (.ref va), (.ref xb)])) rfl (by rw [hml]; rfl) (argsL := [(.ref va), (.int 82)]) (rest := [(.ref xb)]) (lenOf pd_24 rfl) rfl (by show 2 * 0 + _ ≤ _; exact Nat.le_of_eq rfl) (oh hby D44 20 rfl) (fun _ _ => ⟨rfl, e6, (by decide : 0 + 1 ≤ _), (by decide : 0 + 164 ≤ _)⟩)
  dsimp only [Pt.U, Pt.locs, Pt.cells, Pt.slots] at X7 l7 y7 z7 st7 hQ7
  subst l7 y7 z7
  obtain ⟨tt_7, kt_7, rfl, Nq7, K7, f7_0, f7_1⟩ := hQ7
  have N7 := Fr.app N5 Nq7
  have c8 := (q2.keep K7 nin0)
  have c9 := (q0.keep K7)
  obtain ⟨T10, h10, X10, e10, W10, st10⟩ := putF X7 hx hZ hown (host := "") (Or.inl (ow hw 68 rfl)) Via.refl rfl c8 c9 (Or.inl (ow hw 69 rfl)) (ow hw 55 rfl) (ty := (.array .byte)) (by decide) rfl rfl (g := (mkF m 35 #[vR xb, vI 43, vI 40] [(.ref tt_7), (.ref xb)])) rfl rfl (oh hby D44 21 rfl)
  have N10 := Fr.snoc X10 N7 q1
  have F10 : fB Z h10 xb "value" "[B" (.ref tt_7) := c8.same W10
  have ne11 : xb ≠ tt_7 := Nat.ne_of_lt (Nat.lt_of_lt_of_le q3.lt f7_0)
  have c12 := (f7_1.other W10 (Ne.symm ne11))
  have c13 := ((q3.keep K7 nin0).other W10 (Or.inr (slot_ne (Or.inl (ow hw 71 rfl)) (Or.inl (ow hw 69 rfl)) (by decide) (t := .byte) (t' := (.array .byte)) (by decide) (by decide))))
  have c14 := ((q5.keep K7 nin0).other W10 (Or.inr (slot_ne (Or.inl (ow hw 129 rfl)) (Or.inl (ow hw 69 rfl)) (by decide) (t := .int) (t' := (.array .byte)) (by decide) (by decide))))
  have c15 := ((q6.keep K7 nin0).other W10 (Or.inr (slot_ne (Or.inl (ow hw 276 rfl)) (Or.inl (ow hw 69 rfl)) (by decide) (t := .boolean) (t' := (.array .byte)) (by decide) (by decide))))
  obtain ⟨fs, hr, hrun, hended, hW, hsame⟩ := X10.leave (v := none) (fun _ => rfl)
  refine ⟨_, _, pre0 _ ?_, hrun, hended, _, _, rfl, ?_, ⟨_, rfl⟩, hW, hsame.mono (by decide) (by decide)⟩
  · refine XS.aloadN X0.here hx rfl (oh hby D44 0 rfl) rfl rfl ?_
    refine st1 _ ?_
    show oS p e below T1 (mkF m 4 #[vR xb, vI 43, .unset] [(.ref va)]) _
    refine X1.arraylength hx (by rw [e1]; exact Ar2.1) (State.isArrayOf_alike hZ.alike Ar2.2.1) (g := (mkF m 4 #[vR xb, vI 43, .unset] [(.ref va)])) rfl rfl (oh hby D44 2 rfl) _ ?_
    rw [len_of S2 M2]
    show oS p e below T1 (mkF m 5 #[vR xb, vI 43, .unset] [(.int 40)]) _
    refine XS.aloadN X1.here hx rfl (oh hby D44 3 rfl) rfl rfl ?_
    refine st3 _ ?_
    show oS p e below T3 (mkF m 9 #[vR xb, vI 43, .unset] [(.int 0), (.int 40)]) _
    refine XS.ishr X3.here hx rfl (oh hby D44 5 rfl) rfl ?_
    refine XS.istoreN X3.here hx rfl (oh hby D44 6 rfl) rfl (l' := #[vR xb, vI 43, vI 40]) rfl ?_
    refine XS.iloadN X3.here hx rfl (oh hby D44 7 rfl) rfl ?_
    refine XS.iloadN X3.here hx rfl (oh hby D44 8 rfl) rfl ?_
    refine XS.isub X3.here hx rfl (oh hby D44 9 rfl) rfl ?_
    show oS p e below T3 (mkF m 14 #[vR xb, vI 43, vI 40] [(.int 3)]) _
    refine XS.ifNo X3.here hx rfl (oh hby D44 10 rfl) rfl ((if0 _ _).trans (tlt ((by decide) : (0 : Int32) < (3 : Int32))).2.2.2) ?_
    refine XS.aloadN X3.here hx rfl (oh hby D44 11 rfl) rfl rfl ?_
    refine XS.aloadN X3.here hx rfl (oh hby D44 12 rfl) rfl rfl ?_
    refine st4 _ ?_
    show oS p e below T4 (mkF m 22 #[vR xb, vI 43, vI 40] [(.ref va), (.ref xb)]) _
    refine XS.aloadN X4.here hx rfl (oh hby D44 14 rfl) rfl rfl ?_
    refine XS.iloadN X4.here hx rfl (oh hby D44 15 rfl) rfl ?_
    refine st5.trans ?_
    show oS p e below T5 (mkF m 27 #[vR xb, vI 43, vI 40] [(.int 82), (.ref va), (.ref xb)]) _
    refine XS.aloadN X5.here hx rfl (oh hby D44 17 rfl) rfl rfl ?_
    refine st6 _ ?_
    show oS p e below T6 (mkF m 31 #[vR xb, vI 43, vI 40] [(.int 0), (.int 82), (.ref va), (.ref xb)]) _
    refine XS.ishl X6.here hx rfl (oh hby D44 19 rfl) rfl ?_
    refine st7 _ ?_
    show oS p e below T7 (mkF m 35 #[vR xb, vI 43, vI 40] [(.ref tt_7), (.ref xb)]) _
    refine st10 _ ?_
    show oS p e below T10 (mkF m 38 #[vR xb, vI 43, vI 40] []) _
    exact X10.returnOut hx Bd.returns (oh hby D44 22 rfl) hr
  · show Q_ec40 Z xb va ka vs ct h0 n0 _ T10.heap _
    rw [e10]
    exact ⟨tt_7, kt_7, rfl, N10, (((Keep.refl h0 ([xb] : List Addr)).trans K7 all0).wr W10 (Or.inl (by simp))), c13, c14, c15, F10, (Nat.le_trans (Nat.le_refl _) f7_0), c12⟩
def Q_mx80 (Z : State)  (h0 : Heap) (n0 : Nat) (v : Option Value) (h : Heap) (L : List Loc) : Prop := (v = some (.int 84)) ∧ (Fr n0 L) ∧ (h = h0)
set_option maxRecDepth 65536 in
set_option maxHeartbeats 40000000 in
theorem rm_mx80 (l : Launch) (Z : State) (a0 : Array Value) (hw : HW Z a0) (ws : List Jvm.Cond) (h0 : Heap) (n0 : Nat) (Z0 : n0 ≤ h0.size) :
    mF l y_43 jdk_29_method_65_code 2 (some .int) ws (rmk 0 0 0 0) #[(.int 6), (.int 84)] Z h0 (Q_mx80 Z  h0 n0) := by
  refine MetFree.of_bodySF (Jvm.Free.JP.mathPlain rfl (by decide +kernel)) hisR ?_
  intro p e s m args below meth c s₁ Bd hml0 hP hK
  obtain ⟨rfl, hZ, hh⟩ := hP
  have hx := Bd.exec
  have hby := Bd.bytes
  have hml : c.maxLocals = 2 := hml0
  have hown : s.vm.findClass "java/lang/Math" = some m.cls := findClass_of_methodNamed Bd.named
  have hnm := (name_of_methodNamed Bd.named Bd.method).1
  have X0 : Stand p l e (rmk 0 0 0 0) s m #[(.int 6), (.int 84)] below meth c s₁ [] 0 0 := Stand.of_body Bd
  have e0 : s₁.heap = h0 := by rw [← hh, Bd.state]; rfl
  have N0 := Fr.nil n0
  have pre0 : ∀ t, oS p e below s₁ (mkF m 0 #[vI 6, vI 84] []) t → oS p e below s₁ (entryFrame m #[(.int 6), (.int 84)] 2) t := fun t k => castTop (ef_12 m (6 : Int32) (84 : Int32)) k
  obtain ⟨fs, hr, hrun, hended, hW, hsame⟩ := X0.leave (v := some (.int 84)) (fun h => by rw [Bd.returns] at h; cases h)
  refine ⟨_, _, pre0 _ ?_, hrun, hended, _, _, rfl, ?_, ⟨_, rfl⟩, hW, hsame.mono (by decide) (by decide)⟩
  · refine XS.iloadN X0.here hx rfl (oh hby D41 0 rfl) rfl ?_
    refine XS.iloadN X0.here hx rfl (oh hby D41 1 rfl) rfl ?_
    refine XS.icmpYes X0.here hx rfl (pc0 := 2) (pc' := 9) rfl (oh hby D41 2 rfl) rfl (tlt ((by decide) : (6 : Int32) < (84 : Int32))).1 (by decide) (by decide) ?_
    refine XS.iloadN X0.here hx rfl (oh hby D41 5 rfl) rfl ?_
    show oS p e below s₁ (mkF m 10 #[vI 6, vI 84] [(.int 84)]) _
    exact retI X0 hx Bd.returns (oh hby D41 6 rfl) hr
  · show Q_mx80 Z  h0 n0 _ s₁.heap _
    rw [e0]
    exact ⟨rfl, N0, rfl⟩
def Q_nl80 (Z : State)  (h0 : Heap) (n0 : Nat) (v : Option Value) (h : Heap) (L : List Loc) : Prop := (v = some (.int 164)) ∧ (Fr n0 L) ∧ (h = h0)
set_option maxRecDepth 65536 in
set_option maxHeartbeats 40000000 in
theorem rm_nl80 (l : Launch) (Z : State) (a0 : Array Value) (hw : HW Z a0) (ws : List Jvm.Cond) (h0 : Heap) (n0 : Nat) (Z0 : n0 ≤ h0.size) :
    mF l y_44 jdk_48_method_27_code 4 (some .int) ws (rmk 1 0 0 14) #[(.int 80), (.int 6), (.int 84)] Z h0 (Q_nl80 Z  h0 n0) := by
  refine MetFree.of_bodySF (plainFor_of_name pn_7) hisR ?_
  intro p e s m args below meth c s₁ Bd hml0 hP hK
  obtain ⟨rfl, hZ, hh⟩ := hP
  have hx := Bd.exec
  have hby := Bd.bytes
  have hml : c.maxLocals = 4 := hml0
  have hown : s.vm.findClass "jdk/internal/util/ArraysSupport" = some m.cls := findClass_of_methodNamed Bd.named
  have hnm := (name_of_methodNamed Bd.named Bd.method).1
  have X0 : Stand p l e (rmk 1 0 0 14) s m #[(.int 80), (.int 6), (.int 84)] below meth c s₁ [] 0 0 := Stand.of_body Bd
  have e0 : s₁.heap = h0 := by rw [← hh, Bd.state]; rfl
  have N0 := Fr.nil n0
  have pre0 : ∀ t, oS p e below s₁ (mkF m 0 #[vI 80, vI 6, vI 84, .unset] []) t → oS p e below s₁ (entryFrame m #[(.int 80), (.int 6), (.int 84)] 4) t := fun t k => castTop (ef_17 m (80 : Int32) (6 : Int32) (84 : Int32)) k
  obtain ⟨_, _, ⟨T1, L1, k1, n1⟩, -, X1, ⟨Lc1, hQ1, l1, y1, z1⟩, st1⟩ := Jvm.LawKit.callS X0 hx (y := y_43) hown (mvT hZ (ow hw 144 rfl)) (mvT hZ (ow hw 145 rfl)) (mvT hZ (ow hw 108 rfl)) (mvT hZ (ow hw 146 rfl)) (by decide) (backOf (W := 1) (rm_mx80 l Z a0 hw []  h0 n0 Z0 ) hZ (ow hw 146 rfl) (ow hw 108 rfl) (by decide) (by decide)) (g := (mkF m 3 #[vI 80, vI 6, vI 84, .unset] [(.int 84), (.int 6), (.int 80)])) rfl (by rw [hml]; rfl) (argsL := [(.int 6), (.int 84)]) (rest := [(.int 80)]) (lenOf pd_15 rfl) rfl (by show 2 * 0 + _ ≤ _; exact Nat.le_of_eq rfl) (oh hby D42 3 rfl) (fun _ _ => ⟨rfl, e0, (by decide : 0 + 0 ≤ _), (by decide : 0 + 0 ≤ _)⟩)
  dsimp only [Pt.U, Pt.locs, Pt.cells, Pt.slots] at X1 l1 y1 z1 st1 hQ1
  subst l1 y1 z1
  obtain ⟨rfl, Nq1, e1⟩ := hQ1
  have N1 := Fr.app N0 Nq1
  obtain ⟨fs, hr, hrun, hended, hW, hsame⟩ := X1.leave (v := some (.int 164)) (fun h => by rw [Bd.returns] at h; cases h)
  refine ⟨_, _, pre0 _ ?_, hrun, hended, _, _, rfl, ?_, ⟨_, rfl⟩, hW, hsame.mono (by decide) (by decide)⟩
  · refine XS.iloadN X0.here hx rfl (oh hby D42 0 rfl) rfl ?_
    refine XS.iloadN X0.here hx rfl (oh hby D42 1 rfl) rfl ?_
    refine XS.iloadN X0.here hx rfl (oh hby D42 2 rfl) rfl ?_
    refine st1 _ ?_
    show oS p e below T1 (mkF m 6 #[vI 80, vI 6, vI 84, .unset] [(.int 84), (.int 80)]) _
    refine XS.iadd X1.here hx rfl (oh hby D42 4 rfl) rfl ?_
    refine XS.istoreN X1.here hx rfl (oh hby D42 5 rfl) rfl (l' := #[vI 80, vI 6, vI 84, vI 164]) rfl ?_
    refine XS.iconst X1.here hx rfl (oh hby D42 6 rfl) ?_
    refine XS.iloadN X1.here hx rfl (oh hby D42 7 rfl) rfl ?_
    refine XS.icmpNo X1.here hx rfl (oh hby D42 8 rfl) rfl (tlt ((by decide) : (0 : Int32) < (164 : Int32))).2.1 ?_
    show oS p e below T1 (mkF m 13 #[vI 80, vI 6, vI 84, vI 164] []) _
    refine XS.iloadN X1.here hx rfl (oh hby D42 9 rfl) rfl ?_
    show oS p e below T1 (mkF m 14 #[vI 80, vI 6, vI 84, vI 164] [(.int 164)]) _
    refine X1.ldcInt hx hown (mvT hZ (ow hw 147 rfl)) (g := (mkF m 14 #[vI 80, vI 6, vI 84, vI 164] [(.int 164)])) rfl (oh hby D42 10 rfl) _ ?_
    show oS p e below T1 (mkF m 16 #[vI 80, vI 6, vI 84, vI 164] [(.int 2147483639), (.int 164)]) _
    refine XS.icmpNo X1.here hx rfl (oh hby D42 11 rfl) rfl (flt ((by decide) : ¬ ((2147483639 : Int32) < (164 : Int32)))).2.2.1 ?_
    refine XS.iloadN X1.here hx rfl (oh hby D42 12 rfl) rfl ?_
    show oS p e below T1 (mkF m 20 #[vI 80, vI 6, vI 84, vI 164] [(.int 164)]) _
    exact retI X1 hx Bd.returns (oh hby D42 13 rfl) hr
  · show Q_nl80 Z  h0 n0 _ T1.heap _
    rw [e1]
    exact ⟨rfl, N1, rfl⟩
def Q_nc80 (Z : State) (xb : Addr) (va : Addr) (ka : ClassId) (vs : List Value) (h0 : Heap) (n0 : Nat) (v : Option Value) (h : Heap) (L : List Loc) : Prop := (v = some (.int 82)) ∧ (Fr n0 L) ∧ (h = h0)
set_option maxRecDepth 65536 in
set_option maxHeartbeats 40000000 in
theorem rm_nc80 (l : Launch) (Z : State) (a0 : Array Value) (hw : HW Z a0) (ws : List Jvm.Cond) (xb : Addr) (va : Addr) (ka : ClassId) (vs : List Value) (h0 : Heap) (n0 : Nat) (Z0 : n0 ≤ h0.size) (q0 : fB Z h0 xb "value" "[B" (.ref va)) (q1 : fB Z h0 xb "coder" "B" (.int 1)) (q2 : Arv Z h0 va ka .byte (80 : Int32) vs (.int 0)) :
    mF l y_45 jdk_68_method_10_code 6 (some .int) ws (rmk 2 0 0 29) #[(.ref xb), (.int 43)] Z h0 (Q_nc80 Z xb va ka vs h0 n0) := by
  refine MetFree.of_bodySF (plainFor_of_name pn_2) hisR ?_
  intro p e s m args below meth c s₁ Bd hml0 hP hK
  obtain ⟨rfl, hZ, hh⟩ := hP
  have hx := Bd.exec
  have hby := Bd.bytes
  have hml : c.maxLocals = 6 := hml0
  have hown : s.vm.findClass "java/lang/AbstractStringBuilder" = some m.cls := findClass_of_methodNamed Bd.named
  have hnm := (name_of_methodNamed Bd.named Bd.method).1
  have X0 : Stand p l e (rmk 2 0 0 29) s m #[(.ref xb), (.int 43)] below meth c s₁ [] 0 0 := Stand.of_body Bd
  have e0 : s₁.heap = h0 := by rw [← hh, Bd.state]; rfl
  have N0 := Fr.nil n0
  have pre0 : ∀ t, oS p e below s₁ (mkF m 0 #[vR xb, vI 43, .unset, .unset, .unset, .unset] []) t → oS p e below s₁ (entryFrame m #[(.ref xb), (.int 43)] 6) t := fun t k => castTop (ef_18 m xb (43 : Int32)) k
  obtain ⟨T1, X1, e1, st1⟩ := getF X0 hx hZ hown (host := "") (Or.inl (ow hw 68 rfl)) Via.refl e0 q0 (g := (mkF m 1 #[vR xb, vI 43, .unset, .unset, .unset, .unset] [(.ref xb)])) rfl rfl (oh hby D43 1 rfl)
  obtain ⟨cl2, Ar2, -, S2, M2, -, -⟩ := id q2
  obtain ⟨T3, X3, e3, st3⟩ := getF X1 hx hZ hown (host := "") (Or.inl (ow hw 70 rfl)) Via.refl e1 q1 (g := (mkF m 8 #[vR xb, vI 43, vI 80, .unset, .unset, .unset] [(.ref xb), (.int 43)])) rfl rfl (oh hby D43 6 rfl)
  obtain ⟨T4, X4, e4, st4⟩ := getF X3 hx hZ hown (host := "") (Or.inl (ow hw 70 rfl)) Via.refl e3 q1 (g := (mkF m 24 #[vR xb, vI 43, vI 80, vI 86, vI 6, .unset] [(.ref xb), (.int 2), (.int 80), (.int 6), (.int 80)])) rfl rfl (oh hby D43 18 rfl)
  obtain ⟨_, _, ⟨T5, L5, k5, n5⟩, -, X5, ⟨Lc5, hQ5, l5, y5, z5⟩, st5⟩ := Jvm.LawKit.callS X4 hx (y := y_44) hown (mvT hZ (ow hw 140 rfl)) (mvT hZ (ow hw 141 rfl)) (mvT hZ (ow hw 142 rfl)) (mvT hZ (ow hw 143 rfl)) (by decide) (backOf (W := 0) (rm_nl80 l Z a0 hw []  h0 n0 Z0 ) hZ (ow hw 143 rfl) (ow hw 142 rfl) (by decide) (by decide)) (g := (mkF m 29 #[vR xb, vI 43, vI 80, vI 86, vI 6, .unset] [(.int 84), (.int 6), (.int 80)])) rfl (by rw [hml]; rfl) (argsL := [(.int 80), (.int 6), (.int 84)]) (rest := []) (lenOf pd_18 rfl) rfl (by show 2 * 0 + _ ≤ _; exact Nat.le_of_eq rfl) (oh hby D43 21 rfl) (fun _ _ => ⟨rfl, e4, (by decide : 0 + 0 ≤ _), (by decide : 0 + 0 ≤ _)⟩)
  dsimp only [Pt.U, Pt.locs, Pt.cells, Pt.slots] at X5 l5 y5 z5 st5 hQ5
  subst l5 y5 z5
  obtain ⟨rfl, Nq5, e5⟩ := hQ5
  have N5 := Fr.app N0 Nq5
  obtain ⟨T6, X6, e6, st6⟩ := getF X5 hx hZ hown (host := "") (Or.inl (ow hw 70 rfl)) Via.refl e5 q1 (g := (mkF m 54 #[vR xb, vI 43, vI 80, vI 86, vI 6, vI 164] [(.ref xb), (.int 164)])) rfl rfl (oh hby D43 28 rfl)
  obtain ⟨fs, hr, hrun, hended, hW, hsame⟩ := X6.leave (v := some (.int 82)) (fun h => by rw [Bd.returns] at h; cases h)
  refine ⟨_, _, pre0 _ ?_, hrun, hended, _, _, rfl, ?_, ⟨_, rfl⟩, hW, hsame.mono (by decide) (by decide)⟩
  · refine XS.aloadN X0.here hx rfl (oh hby D43 0 rfl) rfl rfl ?_
    refine st1 _ ?_
    show oS p e below T1 (mkF m 4 #[vR xb, vI 43, .unset, .unset, .unset, .unset] [(.ref va)]) _
    refine X1.arraylength hx (by rw [e1]; exact Ar2.1) (State.isArrayOf_alike hZ.alike Ar2.2.1) (g := (mkF m 4 #[vR xb, vI 43, .unset, .unset, .unset, .unset] [(.ref va)])) rfl rfl (oh hby D43 2 rfl) _ ?_
    rw [len_of S2 M2]
    show oS p e below T1 (mkF m 5 #[vR xb, vI 43, .unset, .unset, .unset, .unset] [(.int 80)]) _
    refine XS.istoreN X1.here hx rfl (oh hby D43 3 rfl) rfl (l' := #[vR xb, vI 43, vI 80, .unset, .unset, .unset]) rfl ?_
    refine XS.iloadN X1.here hx rfl (oh hby D43 4 rfl) rfl ?_
    refine XS.aloadN X1.here hx rfl (oh hby D43 5 rfl) rfl rfl ?_
    refine st3 _ ?_
    show oS p e below T3 (mkF m 11 #[vR xb, vI 43, vI 80, .unset, .unset, .unset] [(.int 1), (.int 43)]) _
    refine XS.ishl X3.here hx rfl (oh hby D43 7 rfl) rfl ?_
    refine XS.istoreN X3.here hx rfl (oh hby D43 8 rfl) rfl (l' := #[vR xb, vI 43, vI 80, vI 86, .unset, .unset]) rfl ?_
    refine XS.iloadN X3.here hx rfl (oh hby D43 9 rfl) rfl ?_
    refine XS.iloadN X3.here hx rfl (oh hby D43 10 rfl) rfl ?_
    refine XS.isub X3.here hx rfl (oh hby D43 11 rfl) rfl ?_
    show oS p e below T3 (mkF m 16 #[vR xb, vI 43, vI 80, vI 86, .unset, .unset] [(.int 6)]) _
    refine XS.istore X3.here hx rfl (oh hby D43 12 rfl) rfl (l' := #[vR xb, vI 43, vI 80, vI 86, vI 6, .unset]) rfl ?_
    refine XS.iloadN X3.here hx rfl (oh hby D43 13 rfl) rfl ?_
    refine XS.iload X3.here hx rfl (oh hby D43 14 rfl) rfl ?_
    refine XS.iloadN X3.here hx rfl (oh hby D43 15 rfl) rfl ?_
    refine XS.iconst X3.here hx rfl (oh hby D43 16 rfl) ?_
    show oS p e below T3 (mkF m 23 #[vR xb, vI 43, vI 80, vI 86, vI 6, .unset] [(.int 2), (.int 80), (.int 6), (.int 80)]) _
    refine XS.aloadN X3.here hx rfl (oh hby D43 17 rfl) rfl rfl ?_
    refine st4 _ ?_
    show oS p e below T4 (mkF m 27 #[vR xb, vI 43, vI 80, vI 86, vI 6, .unset] [(.int 1), (.int 2), (.int 80), (.int 6), (.int 80)]) _
    refine XS.ishl X4.here hx rfl (oh hby D43 19 rfl) rfl ?_
    refine XS.iadd X4.here hx rfl (oh hby D43 20 rfl) rfl ?_
    refine st5 _ ?_
    show oS p e below T5 (mkF m 32 #[vR xb, vI 43, vI 80, vI 86, vI 6, .unset] [(.int 164)]) _
    refine XS.istore X5.here hx rfl (oh hby D43 22 rfl) rfl (l' := #[vR xb, vI 43, vI 80, vI 86, vI 6, vI 164]) rfl ?_
    refine XS.iload X5.here hx rfl (oh hby D43 23 rfl) rfl ?_
    show oS p e below T5 (mkF m 36 #[vR xb, vI 43, vI 80, vI 86, vI 6, vI 164] [(.int 164)]) _
    refine X5.ldcInt hx hown (mvT hZ (ow hw 148 rfl)) (g := (mkF m 36 #[vR xb, vI 43, vI 80, vI 86, vI 6, vI 164] [(.int 164)])) rfl (oh hby D43 24 rfl) _ ?_
    show oS p e below T5 (mkF m 38 #[vR xb, vI 43, vI 80, vI 86, vI 6, vI 164] [(.int 2147483647), (.int 164)]) _
    refine XS.icmpYes X5.here hx rfl (pc0 := 38) (pc' := 51) rfl (oh hby D43 25 rfl) rfl (feq ((by decide) : ¬ ((164 : Int32) = (2147483647 : Int32)))).2 (by decide) (by decide) ?_
    refine XS.iload X5.here hx rfl (oh hby D43 26 rfl) rfl ?_
    refine XS.aloadN X5.here hx rfl (oh hby D43 27 rfl) rfl rfl ?_
    refine st6 _ ?_
    show oS p e below T6 (mkF m 57 #[vR xb, vI 43, vI 80, vI 86, vI 6, vI 164] [(.int 1), (.int 164)]) _
    refine XS.ishr X6.here hx rfl (oh hby D43 29 rfl) rfl ?_
    show oS p e below T6 (mkF m 58 #[vR xb, vI 43, vI 80, vI 86, vI 6, vI 164] [(.int 82)]) _
    exact retI X6 hx Bd.returns (oh hby D43 30 rfl) hr
  · show Q_nc80 Z xb va ka vs h0 n0 _ T6.heap _
    rw [e6]
    exact ⟨rfl, N5, rfl⟩
def Q_ec80 (Z : State) (xb : Addr) (va : Addr) (ka : ClassId) (vs : List Value) (ct : Int32) (h0 : Heap) (n0 : Nat) (v : Option Value) (h : Heap) (L : List Loc) : Prop := ∃ (vb : Addr) (kb : ClassId), (v = none) ∧ (Fr n0 L) ∧ (Keep h0 h ([xb] : List Addr)) ∧ (fB Z h xb "coder" "B" (.int 1)) ∧ (fB Z h xb "count" "I" (.int ct)) ∧ (fB Z h xb "maybeLatin1" "Z" (.int 0)) ∧ (fB Z h xb "value" "[B" (.ref vb)) ∧ (h0.size ≤ vb) ∧ (Arv Z h vb kb .byte (164 : Int32) (vs ++ (List.replicate 84 (Value.int 0))) (.int 0))
set_option maxRecDepth 65536 in
set_option maxHeartbeats 40000000 in
theorem rm_ec80 (l : Launch) (Z : State) (a0 : Array Value) (hw : HW Z a0) (ws : List Jvm.Cond) (xb : Addr) (va : Addr) (ka : ClassId) (vs : List Value) (ct : Int32) (h0 : Heap) (n0 : Nat) (Z0 : n0 ≤ h0.size) (q0 : Exa Z h0 xb "java/lang/StringBuilder") (q1 : n0 ≤ xb) (q2 : fB Z h0 xb "value" "[B" (.ref va)) (q3 : fB Z h0 xb "coder" "B" (.int 1)) (q4 : Arv Z h0 va ka .byte (80 : Int32) vs (.int 0)) (q5 : fB Z h0 xb "count" "I" (.int ct)) (q6 : fB Z h0 xb "maybeLatin1" "Z" (.int 0)) (q7 : va ≠ xb) (hvl : vs.length = 80) :
    mF l y_15 jdk_68_method_9_code 3 none ws (rmk 3 1 164 48) #[(.ref xb), (.int 43)] Z h0 (Q_ec80 Z xb va ka vs ct h0 n0) := by
  refine MetFree.of_bodySF (plainFor_of_name pn_2) hisR ?_
  intro p e s m args below meth c s₁ Bd hml0 hP hK
  obtain ⟨rfl, hZ, hh⟩ := hP
  have hx := Bd.exec
  have hby := Bd.bytes
  have hml : c.maxLocals = 3 := hml0
  have hown : s.vm.findClass "java/lang/AbstractStringBuilder" = some m.cls := findClass_of_methodNamed Bd.named
  have hnm := (name_of_methodNamed Bd.named Bd.method).1
  have X0 : Stand p l e (rmk 3 1 164 48) s m #[(.ref xb), (.int 43)] below meth c s₁ [] 0 0 := Stand.of_body Bd
  have e0 : s₁.heap = h0 := by rw [← hh, Bd.state]; rfl
  have N0 := Fr.nil n0
  have pre0 : ∀ t, oS p e below s₁ (mkF m 0 #[vR xb, vI 43, .unset] []) t → oS p e below s₁ (entryFrame m #[(.ref xb), (.int 43)] 3) t := fun t k => castTop (ef_14 m xb (43 : Int32)) k
  obtain ⟨T1, X1, e1, st1⟩ := getF X0 hx hZ hown (host := "") (Or.inl (ow hw 68 rfl)) Via.refl e0 q2 (g := (mkF m 1 #[vR xb, vI 43, .unset] [(.ref xb)])) rfl rfl (oh hby D44 1 rfl)
  obtain ⟨cl2, Ar2, -, S2, M2, -, -⟩ := id q4
  obtain ⟨T3, X3, e3, st3⟩ := getF X1 hx hZ hown (host := "") (Or.inl (ow hw 70 rfl)) Via.refl e1 q3 (g := (mkF m 6 #[vR xb, vI 43, .unset] [(.ref xb), (.int 80)])) rfl rfl (oh hby D44 4 rfl)
  obtain ⟨T4, X4, e4, st4⟩ := getF X3 hx hZ hown (host := "") (Or.inl (ow hw 68 rfl)) Via.refl e3 q2 (g := (mkF m 19 #[vR xb, vI 43, vI 40] [(.ref xb), (.ref xb)])) rfl rfl (oh hby D44 13 rfl)
  obtain ⟨cq5, q5_, q5_'⟩ := q0.cell
  obtain ⟨_, _, ⟨T5, L5, k5, n5⟩, -, X5, ⟨Lc5, hQ5, l5, y5, z5⟩, st5⟩ := X4.privateBack hx (y := y_45) hown (mvT hZ (ow hw 135 rfl)) (mvT hZ (ow hw 136 rfl)) (own_selpriv (by decide) (mvT hZ (ow hw 138 rfl)) (mvP hZ (ow hw 137 rfl)) (mvT hZ (ow hw 136 rfl))) (Cond.privateMethod_at (mvP hZ (ow hw 137 rfl) (args := #[]))) (mvT hZ (ow hw 139 rfl)) (by decide) (backOf (W := 2) (rm_nc80 l Z a0 hw [] xb va ka vs h0 n0 Z0 q2 q3 q4) hZ (ow hw 139 rfl) (ow hw 64 rfl) (by decide) (by decide)) (g := (mkF m 24 #[vR xb, vI 43, vI 40] [(.int 43), (.ref xb), (.ref va), (.ref xb)])) rfl (by rw [hml]; rfl) (Steps.refl _) (a := xb) (by rw [e4]; exact q5_) q5_' (argsL := [(.int 43)]) (rest := [(.ref va), (.ref xb)]) (lenOf pd_0 rfl) rfl (by show 2 * 0 + _ ≤ _; exact Nat.le_of_eq rfl) (oh hby D44 16 rfl) (fun _ _ => ⟨rfl, e4, (by decide : 0 + 0 ≤ _), (by decide : 0 + 0 ≤ _)⟩)
  dsimp only [Pt.U, Pt.locs, Pt.cells, Pt.slots] at X5 l5 y5 z5 st5 hQ5
  subst l5 y5 z5
  obtain ⟨rfl, Nq5, e5⟩ := hQ5
  have N5 := Fr.app N0 Nq5
  obtain ⟨T6, X6, e6, st6⟩ := getF X5 hx hZ hown (host := "") (Or.inl (ow hw 70 rfl)) Via.refl e5 q3 (g := (mkF m 28 #[vR xb, vI 43, vI 40] [(.ref xb), (.int 82), (.ref va), (.ref xb)])) rfl rfl (oh hby D44 18 rfl)
  obtain ⟨_, _, ⟨T7, L7, k7, n7⟩, -, X7, ⟨Lc7, hQ7, l7, y7, z7⟩, st7⟩ := Jvm.LawKit.callS X6 hx (y := y_30) hown (mvT hZ (ow hw 149 rfl)) (mvT hZ (ow hw 150 rfl)) (mvT hZ (ow hw 98 rfl)) (mvT hZ (ow hw 151 rfl)) (by decide) (backOf (W := 1) (rm_cpO l Z a0 hw [] va 164 ka 80 vs h0 n0 Z0 q4 (by decide) (by decide) hvl) hZ (ow hw 151 rfl) (ow hw 98 rfl) (by decide) (by decide)) (g := (mkF m 32 #[vR xb, vI 43, vI 40] [(.int 164), (.ref va), (.ref xb)])) rfl (by rw [hml]; rfl) (argsL := [(.ref va), (.int 164)]) (rest := [(.ref xb)]) (lenOf pd_24 rfl) rfl (by show 2 * 0 + _ ≤ _; exact Nat.le_of_eq rfl) (oh hby D44 20 rfl) (fun _ _ => ⟨rfl, e6, (by decide : 0 + 1 ≤ _), (by decide : 0 + 164 ≤ _)⟩)
  dsimp only [Pt.U, Pt.locs, Pt.cells, Pt.slots] at X7 l7 y7 z7 st7 hQ7
  subst l7 y7 z7
  obtain ⟨tt_7, kt_7, rfl, Nq7, K7, f7_0, f7_1⟩ := hQ7
  have N7 := Fr.app N5 Nq7
  have c8 := (q2.keep K7 nin0)
  have c9 := (q0.keep K7)
  obtain ⟨T10, h10, X10, e10, W10, st10⟩ := putF X7 hx hZ hown (host := "") (Or.inl (ow hw 68 rfl)) Via.refl rfl c8 c9 (Or.inl (ow hw 69 rfl)) (ow hw 55 rfl) (ty := (.array .byte)) (by decide) rfl rfl (g := (mkF m 35 #[vR xb, vI 43, vI 40] [(.ref tt_7), (.ref xb)])) rfl rfl (oh hby D44 21 rfl)
  have N10 := Fr.snoc X10 N7 q1
  have F10 : fB Z h10 xb "value" "[B" (.ref tt_7) := c8.same W10
  have ne11 : xb ≠ tt_7 := Nat.ne_of_lt (Nat.lt_of_lt_of_le q3.lt f7_0)
  have c12 := (f7_1.other W10 (Ne.symm ne11))
  have c13 := ((q3.keep K7 nin0).other W10 (Or.inr (slot_ne (Or.inl (ow hw 71 rfl)) (Or.inl (ow hw 69 rfl)) (by decide) (t := .byte) (t' := (.array .byte)) (by decide) (by decide))))
  have c14 := ((q5.keep K7 nin0).other W10 (Or.inr (slot_ne (Or.inl (ow hw 129 rfl)) (Or.inl (ow hw 69 rfl)) (by decide) (t := .int) (t' := (.array .byte)) (by decide) (by decide))))
  have c15 := ((q6.keep K7 nin0).other W10 (Or.inr (slot_ne (Or.inl (ow hw 276 rfl)) (Or.inl (ow hw 69 rfl)) (by decide) (t := .boolean) (t' := (.array .byte)) (by decide) (by decide))))
  obtain ⟨fs, hr, hrun, hended, hW, hsame⟩ := X10.leave (v := none) (fun _ => rfl)
  refine ⟨_, _, pre0 _ ?_, hrun, hended, _, _, rfl, ?_, ⟨_, rfl⟩, hW, hsame.mono (by decide) (by decide)⟩
  · refine XS.aloadN X0.here hx rfl (oh hby D44 0 rfl) rfl rfl ?_
    refine st1 _ ?_
    show oS p e below T1 (mkF m 4 #[vR xb, vI 43, .unset] [(.ref va)]) _
    refine X1.arraylength hx (by rw [e1]; exact Ar2.1) (State.isArrayOf_alike hZ.alike Ar2.2.1) (g := (mkF m 4 #[vR xb, vI 43, .unset] [(.ref va)])) rfl rfl (oh hby D44 2 rfl) _ ?_
    rw [len_of S2 M2]
    show oS p e below T1 (mkF m 5 #[vR xb, vI 43, .unset] [(.int 80)]) _
    refine XS.aloadN X1.here hx rfl (oh hby D44 3 rfl) rfl rfl ?_
    refine st3 _ ?_
    show oS p e below T3 (mkF m 9 #[vR xb, vI 43, .unset] [(.int 1), (.int 80)]) _
    refine XS.ishr X3.here hx rfl (oh hby D44 5 rfl) rfl ?_
    refine XS.istoreN X3.here hx rfl (oh hby D44 6 rfl) rfl (l' := #[vR xb, vI 43, vI 40]) rfl ?_
    refine XS.iloadN X3.here hx rfl (oh hby D44 7 rfl) rfl ?_
    refine XS.iloadN X3.here hx rfl (oh hby D44 8 rfl) rfl ?_
    refine XS.isub X3.here hx rfl (oh hby D44 9 rfl) rfl ?_
    show oS p e below T3 (mkF m 14 #[vR xb, vI 43, vI 40] [(.int 3)]) _
    refine XS.ifNo X3.here hx rfl (oh hby D44 10 rfl) rfl ((if0 _ _).trans (tlt ((by decide) : (0 : Int32) < (3 : Int32))).2.2.2) ?_
    refine XS.aloadN X3.here hx rfl (oh hby D44 11 rfl) rfl rfl ?_
    refine XS.aloadN X3.here hx rfl (oh hby D44 12 rfl) rfl rfl ?_
    refine st4 _ ?_
    show oS p e below T4 (mkF m 22 #[vR xb, vI 43, vI 40] [(.ref va), (.ref xb)]) _
    refine XS.aloadN X4.here hx rfl (oh hby D44 14 rfl) rfl rfl ?_
    refine XS.iloadN X4.here hx rfl (oh hby D44 15 rfl) rfl ?_
    refine st5.trans ?_
    show oS p e below T5 (mkF m 27 #[vR xb, vI 43, vI 40] [(.int 82), (.ref va), (.ref xb)]) _
    refine XS.aloadN X5.here hx rfl (oh hby D44 17 rfl) rfl rfl ?_
    refine st6 _ ?_
    show oS p e below T6 (mkF m 31 #[vR xb, vI 43, vI 40] [(.int 1), (.int 82), (.ref va), (.ref xb)]) _
    refine XS.ishl X6.here hx rfl (oh hby D44 19 rfl) rfl ?_
    refine st7 _ ?_
    show oS p e below T7 (mkF m 35 #[vR xb, vI 43, vI 40] [(.ref tt_7), (.ref xb)]) _
    refine st10 _ ?_
    show oS p e below T10 (mkF m 38 #[vR xb, vI 43, vI 40] []) _
    exact X10.returnOut hx Bd.returns (oh hby D44 22 rfl) hr
  · show Q_ec80 Z xb va ka vs ct h0 n0 _ T10.heap _
    rw [e10]
    exact ⟨tt_7, kt_7, rfl, N10, (((Keep.refl h0 ([xb] : List Addr)).trans K7 all0).wr W10 (Or.inl (by simp))), c13, c14, c15, F10, (Nat.le_trans (Nat.le_refl _) f7_0), c12⟩
def Q_bLatW (Z : State) (xb : Addr) (G : Int32) (h0 : Heap) (n0 : Nat) (v : Option Value) (h : Heap) (L : List Loc) : Prop := (v = some (.int 0)) ∧ (Fr n0 L) ∧ (h = h0)
set_option maxRecDepth 65536 in
set_option maxHeartbeats 40000000 in
theorem rm_bLatW (l : Launch) (Z : State) (a0 : Array Value) (hw : HW Z a0) (ws : List Jvm.Cond) (xb : Addr) (G : Int32) (h0 : Heap) (n0 : Nat) (Z0 : n0 ≤ h0.size) (q0 : sC Z G) (hCS : ¬ (G = (0 : Int32))) (q2 : Old Z n0 h0) (q3 : fB Z h0 xb "coder" "B" (.int 1)) :
    mF l y_11 jdk_68_method_68_code 1 (some .boolean) ws (rmk 0 0 0 0) #[(.ref xb)] Z h0 (Q_bLatW Z xb G h0 n0) := by
  refine MetFree.of_bodySF (plainFor_of_name pn_2) hisR ?_
  intro p e s m args below meth c s₁ Bd hml0 hP hK
  obtain ⟨rfl, hZ, hh⟩ := hP
  have hx := Bd.exec
  have hby := Bd.bytes
  have hml : c.maxLocals = 1 := hml0
  have hown : s.vm.findClass "java/lang/AbstractStringBuilder" = some m.cls := findClass_of_methodNamed Bd.named
  have hnm := (name_of_methodNamed Bd.named Bd.method).1
  have X0 : Stand p l e (rmk 0 0 0 0) s m #[(.ref xb)] below meth c s₁ [] 0 0 := Stand.of_body Bd
  have e0 : s₁.heap = h0 := by rw [← hh, Bd.state]; rfl
  have N0 := Fr.nil n0
  have pre0 : ∀ t, oS p e below s₁ (mkF m 0 #[vR xb] []) t → oS p e below s₁ (entryFrame m #[(.ref xb)] 1) t := fun t k => castTop (ef_8 m xb) k
  obtain ⟨T1, X1, e1, st1⟩ := getS2 X0 hx hZ hown (host := "") (Or.inl (ow hw 67 rfl)) Via.refl e0 (q0.ext q2.2) (g := (mkF m 0 #[vR xb] [])) rfl (oh hby D11 0 rfl)
  obtain ⟨T2, X2, e2, st2⟩ := getF X1 hx hZ hown (host := "") (Or.inl (ow hw 70 rfl)) Via.refl e1 q3 (g := (mkF m 7 #[vR xb] [(.ref xb)])) rfl rfl (oh hby D11 3 rfl)
  obtain ⟨fs, hr, hrun, hended, hW, hsame⟩ := X2.leave (v := some (.int 0)) (fun h => by rw [Bd.returns] at h; cases h)
  refine ⟨_, _, pre0 _ ?_, hrun, hended, _, _, rfl, ?_, ⟨_, rfl⟩, hW, hsame.mono (by decide) (by decide)⟩
  · refine st1 _ ?_
    show oS p e below T1 (mkF m 3 #[vR xb] [(.int G)]) _
    refine XS.ifNo X1.here hx rfl (oh hby D11 1 rfl) rfl ((if0 _ _).trans (feq (hCS : ¬ (G = (0 : Int32)))).1) ?_
    refine XS.aloadN X1.here hx rfl (oh hby D11 2 rfl) rfl rfl ?_
    refine st2 _ ?_
    show oS p e below T2 (mkF m 10 #[vR xb] [(.int 1)]) _
    refine XS.ifYes X2.here hx rfl (pc0 := 10) (pc' := 17) rfl (oh hby D11 4 rfl) rfl ((if0 _ _).trans (feq ((by decide) : ¬ ((1 : Int32) = (0 : Int32)))).2) (by decide) (by decide) ?_
    refine XS.iconst X2.here hx rfl (oh hby D11 7 rfl) ?_
    show oS p e below T2 (mkF m 18 #[vR xb] [(.int 0)]) _
    exact retN X2 hx (t := .boolean) Bd.returns (by simp) (oh hby D11 8 rfl) hr
  · show Q_bLatW Z xb G h0 n0 _ T2.heap _
    rw [e2]
    exact ⟨rfl, N0, rfl⟩
theorem ef_19 (m : MethodId) (x0 : Addr) (x1 : Int32) (x2 : Addr) (x3 : Int32) (x4 : Int32) : entryFrame m #[(.ref x0), (.int x1), (.ref x2), (.int x3), (.int x4)] 6 = mkF m 0 #[vR x0, vI x1, vR x2, vI x3, vI x4, .unset] [] := by first | (simp [entryFrame, mkF, argsToLocals, Value.category]; done) | rfl
def Q_ui0 (Z : State) (va : Addr) (ka : ClassId) (v1 : List Value) (n1 : Int32) (dd : Addr) (kd : ClassId) (n : Nat) (vs : List Value) (fm : Value) (h0 : Heap) (n0 : Nat) (v : Option Value) (h : Heap) (L : List Loc) : Prop := (v = none) ∧ (Fr n0 L) ∧ (h = h0)
set_option maxRecDepth 65536 in
set_option maxHeartbeats 40000000 in
theorem rm_ui0 (l : Launch) (Z : State) (a0 : Array Value) (hw : HW Z a0) (ws : List Jvm.Cond) (va : Addr) (ka : ClassId) (v1 : List Value) (n1 : Int32) (dd : Addr) (kd : ClassId) (n : Nat) (vs : List Value) (fm : Value) (h0 : Heap) (n0 : Nat) (Z0 : n0 ≤ h0.size) (q0 : sF Z fm) (hFM : fm.isRef = true) (q2 : Old Z n0 h0) (q3 : Arv Z h0 va ka .byte n1 v1 (.int 0)) (q4 : Arv Z h0 dd kd .byte (Int32.ofNat (2 * n)) vs (.int 0)) (hcap : n ≤ 4000) :
    mF l y_46 jdk_52_method_86_code 6 none ws (rmk 3 0 0 43) #[(.ref va), (.int 0), (.ref dd), (.int 0), (.int 0)] Z h0 (Q_ui0 Z va ka v1 n1 dd kd n vs fm h0 n0) := by
  refine MetFree.of_bodySF (plainFor_of_name pn_0) hisR ?_
  intro p e s m args below meth c s₁ Bd hml0 hP hK
  obtain ⟨rfl, hZ, hh⟩ := hP
  have hx := Bd.exec
  have hby := Bd.bytes
  have hml : c.maxLocals = 6 := hml0
  have hown : s.vm.findClass "java/lang/StringUTF16" = some m.cls := findClass_of_methodNamed Bd.named
  have hnm := (name_of_methodNamed Bd.named Bd.method).1
  have X0 : Stand p l e (rmk 3 0 0 43) s m #[(.ref va), (.int 0), (.ref dd), (.int 0), (.int 0)] below meth c s₁ [] 0 0 := Stand.of_body Bd
  have e0 : s₁.heap = h0 := by rw [← hh, Bd.state]; rfl
  have N0 := Fr.nil n0
  have pre0 : ∀ t, oS p e below s₁ (mkF m 0 #[vR va, vI 0, vR dd, vI 0, vI 0, .unset] []) t → oS p e below s₁ (entryFrame m #[(.ref va), (.int 0), (.ref dd), (.int 0), (.int 0)] 6) t := fun t k => castTop (ef_19 m va (0 : Int32) dd (0 : Int32) (0 : Int32)) k
  obtain ⟨_, _, ⟨T1, L1, k1, n1⟩, -, X1, ⟨Lc1, hQ1, l1, y1, z1⟩, st1⟩ := Jvm.LawKit.callS X0 hx (y := y_35) hown (mvT hZ (ow hw 245 rfl)) (mvT hZ (ow hw 246 rfl)) (mvT hZ (ow hw 46 rfl)) (mvT hZ (ow hw 247 rfl)) (by decide) (backOf (W := 0) (rm_ucbo l Z a0 hw [] 0 0 dd kd n vs fm h0 n0 Z0 q0 hFM q2 q4 (by omega) (hcap)) hZ (ow hw 247 rfl) (ow hw 46 rfl) (by decide) (by decide)) (g := (mkF m 4 #[vR va, vI 0, vR dd, vI 0, vI 0, .unset] [(.ref dd), (.int 0), (.int 0)])) rfl (by rw [hml]; rfl) (argsL := [(.int 0), (.int 0), (.ref dd)]) (rest := []) (lenOf pd_19 rfl) rfl (by show 2 * 0 + _ ≤ _; exact Nat.le_of_eq rfl) (oh hby D45 3 rfl) (fun _ _ => ⟨rfl, e0, (by decide : 0 + 0 ≤ _), (by decide : 0 + 0 ≤ _)⟩)
  dsimp only [Pt.U, Pt.locs, Pt.cells, Pt.slots] at X1 l1 y1 z1 st1 hQ1
  subst l1 y1 z1
  obtain ⟨rfl, Nq1, e1⟩ := hQ1
  have N1 := Fr.app N0 Nq1
  obtain ⟨fs, hr, hrun, hended, hW, hsame⟩ := X1.leave (v := none) (fun _ => rfl)
  refine ⟨_, _, pre0 _ ?_, hrun, hended, _, _, rfl, ?_, ⟨_, rfl⟩, hW, hsame.mono (by decide) (by decide)⟩
  · refine XS.iloadN X0.here hx rfl (oh hby D45 0 rfl) rfl ?_
    refine XS.iload X0.here hx rfl (oh hby D45 1 rfl) rfl ?_
    refine XS.aloadN X0.here hx rfl (oh hby D45 2 rfl) rfl rfl ?_
    refine st1 _ ?_
    show oS p e below T1 (mkF m 7 #[vR va, vI 0, vR dd, vI 0, vI 0, .unset] []) _
    refine XS.iconst X1.here hx rfl (oh hby D45 4 rfl) ?_
    refine XS.istore X1.here hx rfl (oh hby D45 5 rfl) rfl (l' := #[vR va, vI 0, vR dd, vI 0, vI 0, vI 0]) rfl ?_
    refine XS.iload X1.here hx rfl (oh hby D45 6 rfl) rfl ?_
    refine XS.iload X1.here hx rfl (oh hby D45 7 rfl) rfl ?_
    refine XS.icmpYes X1.here hx rfl (pc0 := 14) (pc' := 41) rfl (oh hby D45 8 rfl) rfl (flt ((by decide) : ¬ ((0 : Int32) < (0 : Int32)))).2.1 (by decide) (by decide) ?_
    show oS p e below T1 (mkF m 41 #[vR va, vI 0, vR dd, vI 0, vI 0, vI 0] []) _
    exact X1.returnOut hx Bd.returns (oh hby D45 21 rfl) hr
  · show Q_ui0 Z va ka v1 n1 dd kd n vs fm h0 n0 _ T1.heap _
    rw [e1]
    exact ⟨rfl, N1, rfl⟩
theorem pd_25 : parseMethodDescriptor "([BI[BII)V" = some ⟨[(.array .byte), .int, (.array .byte), .int, .int], none⟩ := by decide +kernel
theorem ef_20 (m : MethodId) (x0 : Addr) (x1 : Int32) (x2 : Addr) (x3 : Int32) (x4 : Int32) : entryFrame m #[(.ref x0), (.int x1), (.ref x2), (.int x3), (.int x4)] 5 = mkF m 0 #[vR x0, vI x1, vR x2, vI x3, vI x4] [] := by first | (simp [entryFrame, mkF, argsToLocals, Value.category]; done) | rfl
def Q_li0 (Z : State) (va : Addr) (ka : ClassId) (v1 : List Value) (n1 : Int32) (dd : Addr) (kd : ClassId) (n : Nat) (vs : List Value) (fm : Value) (h0 : Heap) (n0 : Nat) (v : Option Value) (h : Heap) (L : List Loc) : Prop := (v = none) ∧ (Fr n0 L) ∧ (h = h0)
set_option maxRecDepth 65536 in
set_option maxHeartbeats 40000000 in
theorem rm_li0 (l : Launch) (Z : State) (a0 : Array Value) (hw : HW Z a0) (ws : List Jvm.Cond) (va : Addr) (ka : ClassId) (v1 : List Value) (n1 : Int32) (dd : Addr) (kd : ClassId) (n : Nat) (vs : List Value) (fm : Value) (h0 : Heap) (n0 : Nat) (Z0 : n0 ≤ h0.size) (q0 : sF Z fm) (hFM : fm.isRef = true) (q2 : Old Z n0 h0) (q3 : Arv Z h0 va ka .byte n1 v1 (.int 0)) (q4 : Arv Z h0 dd kd .byte (Int32.ofNat (2 * n)) vs (.int 0)) (hcap : n ≤ 4000) :
    mF l y_47 jdk_43_method_50_code 5 none ws (rmk 4 0 0 60) #[(.ref va), (.int 0), (.ref dd), (.int 0), (.int 0)] Z h0 (Q_li0 Z va ka v1 n1 dd kd n vs fm h0 n0) := by
  refine MetFree.of_bodySF (plainFor_of_name pn_5) hisR ?_
  intro p e s m args below meth c s₁ Bd hml0 hP hK
  obtain ⟨rfl, hZ, hh⟩ := hP
  have hx := Bd.exec
  have hby := Bd.bytes
  have hml : c.maxLocals = 5 := hml0
  have hown : s.vm.findClass "java/lang/StringLatin1" = some m.cls := findClass_of_methodNamed Bd.named
  have hnm := (name_of_methodNamed Bd.named Bd.method).1
  have X0 : Stand p l e (rmk 4 0 0 60) s m #[(.ref va), (.int 0), (.ref dd), (.int 0), (.int 0)] below meth c s₁ [] 0 0 := Stand.of_body Bd
  have e0 : s₁.heap = h0 := by rw [← hh, Bd.state]; rfl
  have N0 := Fr.nil n0
  have pre0 : ∀ t, oS p e below s₁ (mkF m 0 #[vR va, vI 0, vR dd, vI 0, vI 0] []) t → oS p e below s₁ (entryFrame m #[(.ref va), (.int 0), (.ref dd), (.int 0), (.int 0)] 5) t := fun t k => castTop (ef_20 m va (0 : Int32) dd (0 : Int32) (0 : Int32)) k
  obtain ⟨_, _, ⟨T1, L1, k1, n1⟩, -, X1, ⟨Lc1, hQ1, l1, y1, z1⟩, st1⟩ := Jvm.LawKit.callS X0 hx (y := y_46) hown (mvT hZ (ow hw 271 rfl)) (mvT hZ (ow hw 272 rfl)) (mvT hZ (ow hw 46 rfl)) (mvT hZ (ow hw 273 rfl)) (by decide) (backOf (W := 0) (rm_ui0 l Z a0 hw [] va ka v1 n1 dd kd n vs fm h0 n0 Z0 q0 hFM q2 q3 q4 hcap) hZ (ow hw 273 rfl) (ow hw 46 rfl) (by decide) (by decide)) (g := (mkF m 6 #[vR va, vI 0, vR dd, vI 0, vI 0] [(.int 0), (.int 0), (.ref dd), (.int 0), (.ref va)])) rfl (by rw [hml]; rfl) (argsL := [(.ref va), (.int 0), (.ref dd), (.int 0), (.int 0)]) (rest := []) (lenOf pd_25 rfl) rfl (by show 2 * 0 + _ ≤ _; exact Nat.le_of_eq rfl) (oh hby D46 5 rfl) (fun _ _ => ⟨rfl, e0, (by decide : 0 + 0 ≤ _), (by decide : 0 + 0 ≤ _)⟩)
  dsimp only [Pt.U, Pt.locs, Pt.cells, Pt.slots] at X1 l1 y1 z1 st1 hQ1
  subst l1 y1 z1
  obtain ⟨rfl, Nq1, e1⟩ := hQ1
  have N1 := Fr.app N0 Nq1
  obtain ⟨fs, hr, hrun, hended, hW, hsame⟩ := X1.leave (v := none) (fun _ => rfl)
  refine ⟨_, _, pre0 _ ?_, hrun, hended, _, _, rfl, ?_, ⟨_, rfl⟩, hW, hsame.mono (by decide) (by decide)⟩
  · refine XS.aloadN X0.here hx rfl (oh hby D46 0 rfl) rfl rfl ?_
    refine XS.iloadN X0.here hx rfl (oh hby D46 1 rfl) rfl ?_
    refine XS.aloadN X0.here hx rfl (oh hby D46 2 rfl) rfl rfl ?_
    refine XS.iloadN X0.here hx rfl (oh hby D46 3 rfl) rfl ?_
    refine XS.iload X0.here hx rfl (oh hby D46 4 rfl) rfl ?_
    show oS p e below s₁ (mkF m 6 #[vR va, vI 0, vR dd, vI 0, vI 0] [(.int 0), (.int 0), (.ref dd), (.int 0), (.ref va)]) _
    refine st1 _ ?_
    show oS p e below T1 (mkF m 9 #[vR va, vI 0, vR dd, vI 0, vI 0] []) _
    exact X1.returnOut hx Bd.returns (oh hby D46 6 rfl) hr
  · show Q_li0 Z va ka v1 n1 dd kd n vs fm h0 n0 _ T1.heap _
    rw [e1]
    exact ⟨rfl, N1, rfl⟩
theorem ef_21 (m : MethodId) (x0 : Addr) : entryFrame m #[(.ref x0)] 2 = mkF m 0 #[vR x0, .unset] [] := by first | (simp [entryFrame, mkF, argsToLocals, Value.category]; done) | rfl
def Q_inf1 (Z : State) (xb : Addr) (va : Addr) (ka : ClassId) (vs : List Value) (G : Int32) (fm : Value) (h0 : Heap) (n0 : Nat) (v : Option Value) (h : Heap) (L : List Loc) : Prop := ∃ (vb : Addr) (kb : ClassId), (v = none) ∧ (Fr n0 L) ∧ (Keep h0 h ([xb] : List Addr)) ∧ (fB Z h xb "value" "[B" (.ref vb)) ∧ (fB Z h xb "coder" "B" (.int 1)) ∧ (fB Z h xb "count" "I" (.int 0)) ∧ (fB Z h xb "maybeLatin1" "Z" (.int 0)) ∧ (h0.size ≤ vb) ∧ (Arv Z h vb kb .byte (80 : Int32) (List.replicate 80 (Value.int 0)) (.int 0))
set_option maxRecDepth 65536 in
set_option maxHeartbeats 40000000 in
theorem rm_inf1 (l : Launch) (Z : State) (a0 : Array Value) (hw : HW Z a0) (ws : List Jvm.Cond) (xb : Addr) (va : Addr) (ka : ClassId) (vs : List Value) (G : Int32) (fm : Value) (h0 : Heap) (n0 : Nat) (Z0 : n0 ≤ h0.size) (q0 : sC Z G) (hCS : ¬ (G = (0 : Int32))) (q2 : sF Z fm) (hFM : fm.isRef = true) (q4 : sA Z) (q5 : sH Z) (q6 : sL Z) (q7 : Old Z n0 h0) (q8 : Exa Z h0 xb "java/lang/StringBuilder") (q9 : n0 ≤ xb) (q10 : fB Z h0 xb "value" "[B" (.ref va)) (q11 : fB Z h0 xb "coder" "B" (.int 0)) (q12 : fB Z h0 xb "count" "I" (.int 0)) (q13 : fB Z h0 xb "maybeLatin1" "Z" (.int 0)) (q14 : Arv Z h0 va ka .byte (40 : Int32) vs (.int 0)) (q15 : va ≠ xb) :
    mF l y_48 jdk_68_method_11_code 2 none ws (rmk 5 1 88 76) #[(.ref xb)] Z h0 (Q_inf1 Z xb va ka vs G fm h0 n0) := by
  refine MetFree.of_bodySF (plainFor_of_name pn_2) hisR ?_
  intro p e s m args below meth c s₁ Bd hml0 hP hK
  obtain ⟨rfl, hZ, hh⟩ := hP
  have hx := Bd.exec
  have hby := Bd.bytes
  have hml : c.maxLocals = 2 := hml0
  have hown : s.vm.findClass "java/lang/AbstractStringBuilder" = some m.cls := findClass_of_methodNamed Bd.named
  have hnm := (name_of_methodNamed Bd.named Bd.method).1
  have X0 : Stand p l e (rmk 5 1 88 76) s m #[(.ref xb)] below meth c s₁ [] 0 0 := Stand.of_body Bd
  have e0 : s₁.heap = h0 := by rw [← hh, Bd.state]; rfl
  have N0 := Fr.nil n0
  have pre0 : ∀ t, oS p e below s₁ (mkF m 0 #[vR xb, .unset] []) t → oS p e below s₁ (entryFrame m #[(.ref xb)] 2) t := fun t k => castTop (ef_21 m xb) k
  obtain ⟨cq1, kq1, q1a, q1b, q1c⟩ := isOf hZ e0 q8
  obtain ⟨_, _, ⟨T1, L1, k1, n1⟩, -, X1, ⟨Lc1, hQ1, l1, y1, z1⟩, st1⟩ := X0.virtualBack hx (y := y_11) (z := y_11) hown (mvT hZ (ow hw 266 rfl)) (mvT hZ (ow hw 196 rfl)) (notFace_of_selects (args := #[]) (mvT hZ (ow hw 198 rfl))) (mvT hZ (ow hw 198 rfl)) (mvT hZ (ow hw 197 rfl)) (by decide) (backOf (W := 0) (rm_bLat l Z a0 hw [] xb G h0 n0 Z0 q0 hCS q7 q11) hZ (ow hw 199 rfl) (ow hw 64 rfl) (by decide) (by decide)) q1a q1c (g := (mkF m 1 #[vR xb, .unset] [(.ref xb)])) rfl (by rw [hml]; rfl) (Steps.refl _) (argsL := []) (rest := []) (lenOf pd_14 rfl) rfl (by show 2 * 0 + _ ≤ _; exact Nat.le_of_eq rfl) (oh hby D47 1 rfl) (fun _ _ => ⟨rfl, e0, (by decide : 0 + 0 ≤ _), (by decide : 0 + 0 ≤ _)⟩)
  dsimp only [Pt.U, Pt.locs, Pt.cells, Pt.slots] at X1 l1 y1 z1 st1 hQ1
  subst l1 y1 z1
  obtain ⟨rfl, Nq1, e1⟩ := hQ1
  have N1 := Fr.app N0 Nq1
  obtain ⟨T2, X2, e2, st2⟩ := getF X1 hx hZ hown (host := "") (Or.inl (ow hw 68 rfl)) Via.refl e1 q10 (g := (mkF m 9 #[vR xb, .unset] [(.ref xb)])) rfl rfl (oh hby D47 5 rfl)
  obtain ⟨cl3, Ar3, -, S3, M3, -, -⟩ := id q14
  obtain ⟨_, _, ⟨T4, L4, k4, n4⟩, -, X4, ⟨Lc4, hQ4, l4, y4, z4⟩, st4⟩ := Jvm.LawKit.callS X2 hx (y := y_4) hown (mvT hZ (ow hw 267 rfl)) (mvT hZ (ow hw 220 rfl)) (mvT hZ (ow hw 46 rfl)) (mvT hZ (ow hw 221 rfl)) (by decide) (backOf (W := 0) (rm_nbf l Z a0 hw [] 40 h0 n0 Z0 (by decide)) hZ (ow hw 221 rfl) (ow hw 46 rfl) (by decide) (by decide)) (g := (mkF m 13 #[vR xb, .unset] [(.int 40)])) rfl (by rw [hml]; rfl) (argsL := [(.int 40)]) (rest := []) (lenOf pd_2 rfl) rfl (by show 2 * 0 + _ ≤ _; exact Nat.le_of_eq rfl) (oh hby D47 7 rfl) (fun _ _ => ⟨rfl, e2, (by decide : 0 + 1 ≤ _), (by decide : 0 + 88 ≤ _)⟩)
  dsimp only [Pt.U, Pt.locs, Pt.cells, Pt.slots] at X4 l4 y4 z4 st4 hQ4
  subst l4 y4 z4
  obtain ⟨tt_4, kt_4, rfl, Nq4, K4, f4_0, f4_1⟩ := hQ4
  have N4 := Fr.app N1 Nq4
  have c5 := (q10.keep K4 nin0)
  obtain ⟨T6, X6, e6, st6⟩ := getF X4 hx hZ hown (host := "") (Or.inl (ow hw 68 rfl)) Via.refl rfl c5 (g := (mkF m 18 #[vR xb, vR tt_4] [(.ref xb)])) rfl rfl (oh hby D47 10 rfl)
  have c7 := (q12.keep K4 nin0)
  obtain ⟨T8, X8, e8, st8⟩ := getF X6 hx hZ hown (host := "") (Or.inl (ow hw 128 rfl)) Via.refl e6 c7 (g := (mkF m 25 #[vR xb, vR tt_4] [(.ref xb), (.int 0), (.ref tt_4), (.int 0), (.ref va)])) rfl rfl (oh hby D47 15 rfl)
  have c9 := (q7.keep K4 all0)
  have c10 := (q14.keep K4 nin0)
  obtain ⟨_, _, ⟨T11, L11, k11, n11⟩, -, X11, ⟨Lc11, hQ11, l11, y11, z11⟩, st11⟩ := Jvm.LawKit.callS X8 hx (y := y_47) hown (mvT hZ (ow hw 268 rfl)) (mvT hZ (ow hw 269 rfl)) (mvT hZ (ow hw 93 rfl)) (mvT hZ (ow hw 270 rfl)) (by decide) (backOf (W := 0) (rm_li0 l Z a0 hw [] va ka vs (40 : Int32) tt_4 kt_4 40 (List.replicate (2 * 40) (.int 0)) fm T4.heap n0 (Nat.le_trans Z0 K4.1) q2 hFM c9 c10 f4_1 (by decide)) hZ (ow hw 270 rfl) (ow hw 93 rfl) (by decide) (by decide)) (g := (mkF m 28 #[vR xb, vR tt_4] [(.int 0), (.int 0), (.ref tt_4), (.int 0), (.ref va)])) rfl (by rw [hml]; rfl) (argsL := [(.ref va), (.int 0), (.ref tt_4), (.int 0), (.int 0)]) (rest := []) (lenOf pd_25 rfl) rfl (by show 2 * 0 + _ ≤ _; exact Nat.le_of_eq rfl) (oh hby D47 16 rfl) (fun _ _ => ⟨rfl, e8, (by decide : 1 + 0 ≤ _), (by decide : 88 + 0 ≤ _)⟩)
  dsimp only [Pt.U, Pt.locs, Pt.cells, Pt.slots] at X11 l11 y11 z11 st11 hQ11
  subst l11 y11 z11
  obtain ⟨rfl, Nq11, e11⟩ := hQ11
  have N11 := Fr.app N4 Nq11
  have c12 := (q8.keep K4)
  obtain ⟨T13, h13, X13, e13, W13, st13⟩ := putF X11 hx hZ hown (host := "") (Or.inl (ow hw 68 rfl)) Via.refl e11 c5 c12 (Or.inl (ow hw 69 rfl)) (ow hw 55 rfl) (ty := (.array .byte)) (by decide) rfl rfl (g := (mkF m 33 #[vR xb, vR tt_4] [(.ref tt_4), (.ref xb)])) rfl rfl (oh hby D47 19 rfl)
  have N13 := Fr.snoc X13 N11 q9
  have F13 : fB Z h13 xb "value" "[B" (.ref tt_4) := c5.same W13
  have c14 := ((q11.keep K4 nin0).other W13 (Or.inr (slot_ne (Or.inl (ow hw 71 rfl)) (Or.inl (ow hw 69 rfl)) (by decide) (t := .byte) (t' := (.array .byte)) (by decide) (by decide))))
  have c15 := (c12.wr W13)
  obtain ⟨T16, h16, X16, e16, W16, st16⟩ := putFN X13 hx hZ hown (ow hw 70 rfl) Via.refl e13 c14 c15 (Or.inl (ow hw 71 rfl)) (ow hw 55 rfl) (ty := .byte) (v' := (.int 1)) (by decide) rfl rfl (g := (mkF m 38 #[vR xb, vR tt_4] [(.int 1), (.ref xb)])) rfl rfl (oh hby D47 22 rfl)
  have N16 := Fr.snoc X16 N13 q9
  have F16 : fB Z h16 xb "coder" "B" (.int 1) := c14.same W16
  have c17 := (F13.other W16 (Or.inr (slot_ne (Or.inl (ow hw 69 rfl)) (Or.inl (ow hw 71 rfl)) (by decide) (t := (.array .byte)) (t' := .byte) (by decide) (by decide))))
  have ne18 : xb ≠ tt_4 := Nat.ne_of_lt (Nat.lt_of_lt_of_le q13.lt f4_0)
  have c19 := ((f4_1.other W13 (Ne.symm ne18)).other W16 (Ne.symm ne18))
  have c20 := ((c7.other W13 (Or.inr (slot_ne (Or.inl (ow hw 129 rfl)) (Or.inl (ow hw 69 rfl)) (by decide) (t := .int) (t' := (.array .byte)) (by decide) (by decide)))).other W16 (Or.inr (slot_ne (Or.inl (ow hw 129 rfl)) (Or.inl (ow hw 71 rfl)) (by decide) (t := .int) (t' := .byte) (by decide) (by decide))))
  have c21 := (((q13.keep K4 nin0).other W13 (Or.inr (slot_ne (Or.inl (ow hw 276 rfl)) (Or.inl (ow hw 69 rfl)) (by decide) (t := .boolean) (t' := (.array .byte)) (by decide) (by decide)))).other W16 (Or.inr (slot_ne (Or.inl (ow hw 276 rfl)) (Or.inl (ow hw 71 rfl)) (by decide) (t := .boolean) (t' := .byte) (by decide) (by decide))))
  obtain ⟨fs, hr, hrun, hended, hW, hsame⟩ := X16.leave (v := none) (fun _ => rfl)
  refine ⟨_, _, pre0 _ ?_, hrun, hended, _, _, rfl, ?_, ⟨_, rfl⟩, hW, hsame.mono (by decide) (by decide)⟩
  · refine XS.aloadN X0.here hx rfl (oh hby D47 0 rfl) rfl rfl ?_
    refine st1.trans ?_
    show oS p e below T1 (mkF m 4 #[vR xb, .unset] [(.int 1)]) _
    refine XS.ifYes X1.here hx rfl (pc0 := 4) (pc' := 8) rfl (oh hby D47 2 rfl) rfl ((if0 _ _).trans (feq ((by decide) : ¬ ((1 : Int32) = (0 : Int32)))).2) (by decide) (by decide) ?_
    refine XS.aloadN X1.here hx rfl (oh hby D47 4 rfl) rfl rfl ?_
    refine st2 _ ?_
    show oS p e below T2 (mkF m 12 #[vR xb, .unset] [(.ref va)]) _
    refine X2.arraylength hx (by rw [e2]; exact Ar3.1) (State.isArrayOf_alike hZ.alike Ar3.2.1) (g := (mkF m 12 #[vR xb, .unset] [(.ref va)])) rfl rfl (oh hby D47 6 rfl) _ ?_
    rw [len_of S3 M3]
    show oS p e below T2 (mkF m 13 #[vR xb, .unset] [(.int 40)]) _
    refine st4 _ ?_
    show oS p e below T4 (mkF m 16 #[vR xb, .unset] [(.ref tt_4)]) _
    refine XS.astoreN X4.here hx rfl (oh hby D47 8 rfl) rfl rfl (l' := #[vR xb, vR tt_4]) rfl ?_
    refine XS.aloadN X4.here hx rfl (oh hby D47 9 rfl) rfl rfl ?_
    refine st6 _ ?_
    show oS p e below T6 (mkF m 21 #[vR xb, vR tt_4] [(.ref va)]) _
    refine XS.iconst X6.here hx rfl (oh hby D47 11 rfl) ?_
    refine XS.aloadN X6.here hx rfl (oh hby D47 12 rfl) rfl rfl ?_
    refine XS.iconst X6.here hx rfl (oh hby D47 13 rfl) ?_
    refine XS.aloadN X6.here hx rfl (oh hby D47 14 rfl) rfl rfl ?_
    refine st8 _ ?_
    show oS p e below T8 (mkF m 28 #[vR xb, vR tt_4] [(.int 0), (.int 0), (.ref tt_4), (.int 0), (.ref va)]) _
    refine st11 _ ?_
    show oS p e below T11 (mkF m 31 #[vR xb, vR tt_4] []) _
    refine XS.aloadN X11.here hx rfl (oh hby D47 17 rfl) rfl rfl ?_
    refine XS.aloadN X11.here hx rfl (oh hby D47 18 rfl) rfl rfl ?_
    refine st13 _ ?_
    show oS p e below T13 (mkF m 36 #[vR xb, vR tt_4] []) _
    refine XS.aloadN X13.here hx rfl (oh hby D47 20 rfl) rfl rfl ?_
    refine XS.iconst X13.here hx rfl (oh hby D47 21 rfl) ?_
    refine st16 _ ?_
    show oS p e below T16 (mkF m 41 #[vR xb, vR tt_4] []) _
    exact X16.returnOut hx Bd.returns (oh hby D47 23 rfl) hr
  · show Q_inf1 Z xb va ka vs G fm h0 n0 _ T16.heap _
    rw [e16]
    exact ⟨tt_4, kt_4, rfl, N16, ((((Keep.refl h0 ([xb] : List Addr)).trans K4 all0).wr W13 (Or.inl (by simp))).wr W16 (Or.inl (by simp))), c17, F16, c20, c21, (Nat.le_trans (Nat.le_refl _) f4_0), c19⟩
def Q_inf2 (Z : State) (xb : Addr) (G : Int32) (h0 : Heap) (n0 : Nat) (v : Option Value) (h : Heap) (L : List Loc) : Prop := (v = none) ∧ (Fr n0 L) ∧ (h = h0)
set_option maxRecDepth 65536 in
set_option maxHeartbeats 40000000 in
theorem rm_inf2 (l : Launch) (Z : State) (a0 : Array Value) (hw : HW Z a0) (ws : List Jvm.Cond) (xb : Addr) (G : Int32) (h0 : Heap) (n0 : Nat) (Z0 : n0 ≤ h0.size) (q0 : sC Z G) (hCS : ¬ (G = (0 : Int32))) (q2 : Old Z n0 h0) (q3 : Exa Z h0 xb "java/lang/StringBuilder") (q4 : fB Z h0 xb "coder" "B" (.int 1)) :
    mF l y_48 jdk_68_method_11_code 2 none ws (rmk 1 0 0 12) #[(.ref xb)] Z h0 (Q_inf2 Z xb G h0 n0) := by
  refine MetFree.of_bodySF (plainFor_of_name pn_2) hisR ?_
  intro p e s m args below meth c s₁ Bd hml0 hP hK
  obtain ⟨rfl, hZ, hh⟩ := hP
  have hx := Bd.exec
  have hby := Bd.bytes
  have hml : c.maxLocals = 2 := hml0
  have hown : s.vm.findClass "java/lang/AbstractStringBuilder" = some m.cls := findClass_of_methodNamed Bd.named
  have hnm := (name_of_methodNamed Bd.named Bd.method).1
  have X0 : Stand p l e (rmk 1 0 0 12) s m #[(.ref xb)] below meth c s₁ [] 0 0 := Stand.of_body Bd
  have e0 : s₁.heap = h0 := by rw [← hh, Bd.state]; rfl
  have N0 := Fr.nil n0
  have pre0 : ∀ t, oS p e below s₁ (mkF m 0 #[vR xb, .unset] []) t → oS p e below s₁ (entryFrame m #[(.ref xb)] 2) t := fun t k => castTop (ef_21 m xb) k
  obtain ⟨cq1, kq1, q1a, q1b, q1c⟩ := isOf hZ e0 q3
  obtain ⟨_, _, ⟨T1, L1, k1, n1⟩, -, X1, ⟨Lc1, hQ1, l1, y1, z1⟩, st1⟩ := X0.virtualBack hx (y := y_11) (z := y_11) hown (mvT hZ (ow hw 266 rfl)) (mvT hZ (ow hw 196 rfl)) (notFace_of_selects (args := #[]) (mvT hZ (ow hw 198 rfl))) (mvT hZ (ow hw 198 rfl)) (mvT hZ (ow hw 197 rfl)) (by decide) (backOf (W := 0) (rm_bLatW l Z a0 hw [] xb G h0 n0 Z0 q0 hCS q2 q4) hZ (ow hw 199 rfl) (ow hw 64 rfl) (by decide) (by decide)) q1a q1c (g := (mkF m 1 #[vR xb, .unset] [(.ref xb)])) rfl (by rw [hml]; rfl) (Steps.refl _) (argsL := []) (rest := []) (lenOf pd_14 rfl) rfl (by show 2 * 0 + _ ≤ _; exact Nat.le_of_eq rfl) (oh hby D47 1 rfl) (fun _ _ => ⟨rfl, e0, (by decide : 0 + 0 ≤ _), (by decide : 0 + 0 ≤ _)⟩)
  dsimp only [Pt.U, Pt.locs, Pt.cells, Pt.slots] at X1 l1 y1 z1 st1 hQ1
  subst l1 y1 z1
  obtain ⟨rfl, Nq1, e1⟩ := hQ1
  have N1 := Fr.app N0 Nq1
  obtain ⟨fs, hr, hrun, hended, hW, hsame⟩ := X1.leave (v := none) (fun _ => rfl)
  refine ⟨_, _, pre0 _ ?_, hrun, hended, _, _, rfl, ?_, ⟨_, rfl⟩, hW, hsame.mono (by decide) (by decide)⟩
  · refine XS.aloadN X0.here hx rfl (oh hby D47 0 rfl) rfl rfl ?_
    refine st1.trans ?_
    show oS p e below T1 (mkF m 4 #[vR xb, .unset] [(.int 0)]) _
    refine XS.ifNo X1.here hx rfl (oh hby D47 2 rfl) rfl ((if0 _ _).trans (teq ((by decide) : (0 : Int32) = (0 : Int32))).2) ?_
    show oS p e below T1 (mkF m 7 #[vR xb, .unset] []) _
    exact X1.returnOut hx Bd.returns (oh hby D47 3 rfl) hr
  · show Q_inf2 Z xb G h0 n0 _ T1.heap _
    rw [e1]
    exact ⟨rfl, N1, rfl⟩
theorem pd_26 : parseMethodDescriptor "()B" = some ⟨[], some .byte⟩ := by decide +kernel
def Q_ifL (Z : State) (xb : Addr) (xs : Addr) (G : Int32) (h0 : Heap) (n0 : Nat) (v : Option Value) (h : Heap) (L : List Loc) : Prop := (v = none) ∧ (Fr n0 L) ∧ (h = h0)
set_option maxRecDepth 65536 in
set_option maxHeartbeats 40000000 in
theorem rm_ifL (l : Launch) (Z : State) (a0 : Array Value) (hw : HW Z a0) (ws : List Jvm.Cond) (xb : Addr) (xs : Addr) (G : Int32) (h0 : Heap) (n0 : Nat) (Z0 : n0 ≤ h0.size) (q0 : sC Z G) (hCS : ¬ (G = (0 : Int32))) (q2 : Old Z n0 h0) (q3 : eS Z h0 xs) (q4 : fB Z h0 xb "coder" "B" (.int 0)) (q5 : fC Z h0 xs (.int 0)) :
    mF l y_49 jdk_68_method_71_code 2 none ws (rmk 1 0 0 13) #[(.ref xb), (.ref xs)] Z h0 (Q_ifL Z xb xs G h0 n0) := by
  refine MetFree.of_bodySF (plainFor_of_name pn_2) hisR ?_
  intro p e s m args below meth c s₁ Bd hml0 hP hK
  obtain ⟨rfl, hZ, hh⟩ := hP
  have hx := Bd.exec
  have hby := Bd.bytes
  have hml : c.maxLocals = 2 := hml0
  have hown : s.vm.findClass "java/lang/AbstractStringBuilder" = some m.cls := findClass_of_methodNamed Bd.named
  have hnm := (name_of_methodNamed Bd.named Bd.method).1
  have X0 : Stand p l e (rmk 1 0 0 13) s m #[(.ref xb), (.ref xs)] below meth c s₁ [] 0 0 := Stand.of_body Bd
  have e0 : s₁.heap = h0 := by rw [← hh, Bd.state]; rfl
  have N0 := Fr.nil n0
  have pre0 : ∀ t, oS p e below s₁ (mkF m 0 #[vR xb, vR xs] []) t → oS p e below s₁ (entryFrame m #[(.ref xb), (.ref xs)] 2) t := fun t k => castTop (ef_7 m xb xs) k
  obtain ⟨T1, X1, e1, st1⟩ := getS2 X0 hx hZ hown (host := "") (Or.inl (ow hw 67 rfl)) Via.refl e0 (q0.ext q2.2) (g := (mkF m 0 #[vR xb, vR xs] [])) rfl (oh hby D48 0 rfl)
  obtain ⟨T2, X2, e2, st2⟩ := getF X1 hx hZ hown (host := "") (Or.inl (ow hw 70 rfl)) Via.refl e1 q4 (g := (mkF m 7 #[vR xb, vR xs] [(.ref xb)])) rfl rfl (oh hby D48 3 rfl)
  obtain ⟨cq3, kq3, q3a, q3b, q3c⟩ := isOf hZ e2 q3
  obtain ⟨_, _, ⟨T3, L3, k3, n3⟩, -, X3, ⟨Lc3, hQ3, l3, y3, z3⟩, st3⟩ := X2.virtualBack hx (y := y_10) (z := y_10) hown (mvT hZ (ow hw 162 rfl)) (mvT hZ (ow hw 33 rfl)) (notFace_of_selects (args := #[]) (mvT hZ (ow hw 35 rfl))) (mvT hZ (ow hw 35 rfl)) (mvT hZ (ow hw 34 rfl)) (by decide) (backOf (W := 1) (rm_scod l Z a0 hw [] xs G (0 : Int32) h0 n0 Z0 q0 hCS q2 q5 (rfl)) hZ (ow hw 36 rfl) (ow hw 4 rfl) (by decide) (by decide)) q3a q3c (g := (mkF m 11 #[vR xb, vR xs] [(.ref xs), (.int 0)])) rfl (by rw [hml]; rfl) (Steps.refl _) (argsL := []) (rest := [(.int 0)]) (lenOf pd_26 rfl) rfl (by show 2 * 0 + _ ≤ _; exact Nat.le_of_eq rfl) (oh hby D48 5 rfl) (fun _ _ => ⟨rfl, e2, (by decide : 0 + 0 ≤ _), (by decide : 0 + 0 ≤ _)⟩)
  dsimp only [Pt.U, Pt.locs, Pt.cells, Pt.slots] at X3 l3 y3 z3 st3 hQ3
  subst l3 y3 z3
  obtain ⟨rfl, Nq3, e3⟩ := hQ3
  have N3 := Fr.app N0 Nq3
  obtain ⟨fs, hr, hrun, hended, hW, hsame⟩ := X3.leave (v := none) (fun _ => rfl)
  refine ⟨_, _, pre0 _ ?_, hrun, hended, _, _, rfl, ?_, ⟨_, rfl⟩, hW, hsame.mono (by decide) (by decide)⟩
  · refine st1 _ ?_
    show oS p e below T1 (mkF m 3 #[vR xb, vR xs] [(.int G)]) _
    refine XS.ifNo X1.here hx rfl (oh hby D48 1 rfl) rfl ((if0 _ _).trans (feq (hCS : ¬ (G = (0 : Int32)))).1) ?_
    refine XS.aloadN X1.here hx rfl (oh hby D48 2 rfl) rfl rfl ?_
    refine st2 _ ?_
    show oS p e below T2 (mkF m 10 #[vR xb, vR xs] [(.int 0)]) _
    refine XS.aloadN X2.here hx rfl (oh hby D48 4 rfl) rfl rfl ?_
    refine st3.trans ?_
    show oS p e below T3 (mkF m 14 #[vR xb, vR xs] [(.int 0), (.int 0)]) _
    refine XS.icmpYes X3.here hx rfl (pc0 := 14) (pc' := 21) rfl (oh hby D48 6 rfl) rfl (teq ((by decide) : (0 : Int32) = (0 : Int32))).1 (by decide) (by decide) ?_
    show oS p e below T3 (mkF m 21 #[vR xb, vR xs] []) _
    exact X3.returnOut hx Bd.returns (oh hby D48 9 rfl) hr
  · show Q_ifL Z xb xs G h0 n0 _ T3.heap _
    rw [e3]
    exact ⟨rfl, N3, rfl⟩
theorem pd_27 : parseMethodDescriptor "()V" = some ⟨[], none⟩ := by decide +kernel
def Q_ifW2 (Z : State) (xb : Addr) (xs : Addr) (G : Int32) (h0 : Heap) (n0 : Nat) (v : Option Value) (h : Heap) (L : List Loc) : Prop := (v = none) ∧ (Fr n0 L) ∧ (h = h0)
set_option maxRecDepth 65536 in
set_option maxHeartbeats 40000000 in
theorem rm_ifW2 (l : Launch) (Z : State) (a0 : Array Value) (hw : HW Z a0) (ws : List Jvm.Cond) (xb : Addr) (xs : Addr) (G : Int32) (h0 : Heap) (n0 : Nat) (Z0 : n0 ≤ h0.size) (q0 : sC Z G) (hCS : ¬ (G = (0 : Int32))) (q2 : Old Z n0 h0) (q3 : Exa Z h0 xb "java/lang/StringBuilder") (q4 : eS Z h0 xs) (q5 : fB Z h0 xb "coder" "B" (.int 1)) (q6 : fC Z h0 xs (.int 0)) :
    mF l y_49 jdk_68_method_71_code 2 none ws (rmk 2 0 0 25) #[(.ref xb), (.ref xs)] Z h0 (Q_ifW2 Z xb xs G h0 n0) := by
  refine MetFree.of_bodySF (plainFor_of_name pn_2) hisR ?_
  intro p e s m args below meth c s₁ Bd hml0 hP hK
  obtain ⟨rfl, hZ, hh⟩ := hP
  have hx := Bd.exec
  have hby := Bd.bytes
  have hml : c.maxLocals = 2 := hml0
  have hown : s.vm.findClass "java/lang/AbstractStringBuilder" = some m.cls := findClass_of_methodNamed Bd.named
  have hnm := (name_of_methodNamed Bd.named Bd.method).1
  have X0 : Stand p l e (rmk 2 0 0 25) s m #[(.ref xb), (.ref xs)] below meth c s₁ [] 0 0 := Stand.of_body Bd
  have e0 : s₁.heap = h0 := by rw [← hh, Bd.state]; rfl
  have N0 := Fr.nil n0
  have pre0 : ∀ t, oS p e below s₁ (mkF m 0 #[vR xb, vR xs] []) t → oS p e below s₁ (entryFrame m #[(.ref xb), (.ref xs)] 2) t := fun t k => castTop (ef_7 m xb xs) k
  obtain ⟨T1, X1, e1, st1⟩ := getS2 X0 hx hZ hown (host := "") (Or.inl (ow hw 67 rfl)) Via.refl e0 (q0.ext q2.2) (g := (mkF m 0 #[vR xb, vR xs] [])) rfl (oh hby D48 0 rfl)
  obtain ⟨T2, X2, e2, st2⟩ := getF X1 hx hZ hown (host := "") (Or.inl (ow hw 70 rfl)) Via.refl e1 q5 (g := (mkF m 7 #[vR xb, vR xs] [(.ref xb)])) rfl rfl (oh hby D48 3 rfl)
  obtain ⟨cq3, kq3, q3a, q3b, q3c⟩ := isOf hZ e2 q4
  obtain ⟨_, _, ⟨T3, L3, k3, n3⟩, -, X3, ⟨Lc3, hQ3, l3, y3, z3⟩, st3⟩ := X2.virtualBack hx (y := y_10) (z := y_10) hown (mvT hZ (ow hw 162 rfl)) (mvT hZ (ow hw 33 rfl)) (notFace_of_selects (args := #[]) (mvT hZ (ow hw 35 rfl))) (mvT hZ (ow hw 35 rfl)) (mvT hZ (ow hw 34 rfl)) (by decide) (backOf (W := 1) (rm_scod l Z a0 hw [] xs G (0 : Int32) h0 n0 Z0 q0 hCS q2 q6 (rfl)) hZ (ow hw 36 rfl) (ow hw 4 rfl) (by decide) (by decide)) q3a q3c (g := (mkF m 11 #[vR xb, vR xs] [(.ref xs), (.int 1)])) rfl (by rw [hml]; rfl) (Steps.refl _) (argsL := []) (rest := [(.int 1)]) (lenOf pd_26 rfl) rfl (by show 2 * 0 + _ ≤ _; exact Nat.le_of_eq rfl) (oh hby D48 5 rfl) (fun _ _ => ⟨rfl, e2, (by decide : 0 + 0 ≤ _), (by decide : 0 + 0 ≤ _)⟩)
  dsimp only [Pt.U, Pt.locs, Pt.cells, Pt.slots] at X3 l3 y3 z3 st3 hQ3
  subst l3 y3 z3
  obtain ⟨rfl, Nq3, e3⟩ := hQ3
  have N3 := Fr.app N0 Nq3
  obtain ⟨cq4, q4_, q4_'⟩ := q3.cell
  obtain ⟨_, _, ⟨T4, L4, k4, n4⟩, -, X4, ⟨Lc4, hQ4, l4, y4, z4⟩, st4⟩ := X3.privateBack hx (y := y_48) hown (mvT hZ (ow hw 261 rfl)) (mvT hZ (ow hw 262 rfl)) (own_selpriv (by decide) (mvT hZ (ow hw 264 rfl)) (mvP hZ (ow hw 263 rfl)) (mvT hZ (ow hw 262 rfl))) (Cond.privateMethod_at (mvP hZ (ow hw 263 rfl) (args := #[]))) (mvT hZ (ow hw 265 rfl)) (by decide) (backOf (W := 0) (rm_inf2 l Z a0 hw [] xb G h0 n0 Z0 q0 hCS q2 q3 q5) hZ (ow hw 265 rfl) (ow hw 64 rfl) (by decide) (by decide)) (g := (mkF m 18 #[vR xb, vR xs] [(.ref xb)])) rfl (by rw [hml]; rfl) (Steps.refl _) (a := xb) (by rw [e3]; exact q4_) q4_' (argsL := []) (rest := []) (lenOf pd_27 rfl) rfl (by show 2 * 0 + _ ≤ _; exact Nat.le_of_eq rfl) (oh hby D48 8 rfl) (fun _ _ => ⟨rfl, e3, (by decide : 0 + 0 ≤ _), (by decide : 0 + 0 ≤ _)⟩)
  dsimp only [Pt.U, Pt.locs, Pt.cells, Pt.slots] at X4 l4 y4 z4 st4 hQ4
  subst l4 y4 z4
  obtain ⟨rfl, Nq4, e4⟩ := hQ4
  have N4 := Fr.app N3 Nq4
  obtain ⟨fs, hr, hrun, hended, hW, hsame⟩ := X4.leave (v := none) (fun _ => rfl)
  refine ⟨_, _, pre0 _ ?_, hrun, hended, _, _, rfl, ?_, ⟨_, rfl⟩, hW, hsame.mono (by decide) (by decide)⟩
  · refine st1 _ ?_
    show oS p e below T1 (mkF m 3 #[vR xb, vR xs] [(.int G)]) _
    refine XS.ifNo X1.here hx rfl (oh hby D48 1 rfl) rfl ((if0 _ _).trans (feq (hCS : ¬ (G = (0 : Int32)))).1) ?_
    refine XS.aloadN X1.here hx rfl (oh hby D48 2 rfl) rfl rfl ?_
    refine st2 _ ?_
    show oS p e below T2 (mkF m 10 #[vR xb, vR xs] [(.int 1)]) _
    refine XS.aloadN X2.here hx rfl (oh hby D48 4 rfl) rfl rfl ?_
    refine st3.trans ?_
    show oS p e below T3 (mkF m 14 #[vR xb, vR xs] [(.int 0), (.int 1)]) _
    refine XS.icmpNo X3.here hx rfl (oh hby D48 6 rfl) rfl (feq ((by decide) : ¬ ((1 : Int32) = (0 : Int32)))).1 ?_
    refine XS.aloadN X3.here hx rfl (oh hby D48 7 rfl) rfl rfl ?_
    refine st4.trans ?_
    show oS p e below T4 (mkF m 21 #[vR xb, vR xs] []) _
    exact X4.returnOut hx Bd.returns (oh hby D48 9 rfl) hr
  · show Q_ifW2 Z xb xs G h0 n0 _ T4.heap _
    rw [e4]
    exact ⟨rfl, N4, rfl⟩
def Q_ifW1 (Z : State) (xb : Addr) (xs : Addr) (va : Addr) (ka : ClassId) (vs : List Value) (G : Int32) (fm : Value) (h0 : Heap) (n0 : Nat) (v : Option Value) (h : Heap) (L : List Loc) : Prop := ∃ (vb : Addr) (kb : ClassId), (v = none) ∧ (Fr n0 L) ∧ (Keep h0 h ([xb] : List Addr)) ∧ (fB Z h xb "value" "[B" (.ref vb)) ∧ (fB Z h xb "coder" "B" (.int 1)) ∧ (fB Z h xb "count" "I" (.int 0)) ∧ (fB Z h xb "maybeLatin1" "Z" (.int 0)) ∧ (h0.size ≤ vb) ∧ (Arv Z h vb kb .byte (80 : Int32) (List.replicate 80 (Value.int 0)) (.int 0))
set_option maxRecDepth 65536 in
set_option maxHeartbeats 40000000 in
theorem rm_ifW1 (l : Launch) (Z : State) (a0 : Array Value) (hw : HW Z a0) (ws : List Jvm.Cond) (xb : Addr) (xs : Addr) (va : Addr) (ka : ClassId) (vs : List Value) (G : Int32) (fm : Value) (h0 : Heap) (n0 : Nat) (Z0 : n0 ≤ h0.size) (q0 : sC Z G) (hCS : ¬ (G = (0 : Int32))) (q2 : sF Z fm) (hFM : fm.isRef = true) (q4 : sA Z) (q5 : sH Z) (q6 : sL Z) (q7 : Old Z n0 h0) (q8 : Exa Z h0 xb "java/lang/StringBuilder") (q9 : n0 ≤ xb) (q10 : eS Z h0 xs) (q11 : fC Z h0 xs (.int 1)) (q12 : fB Z h0 xb "value" "[B" (.ref va)) (q13 : fB Z h0 xb "coder" "B" (.int 0)) (q14 : fB Z h0 xb "count" "I" (.int 0)) (q15 : fB Z h0 xb "maybeLatin1" "Z" (.int 0)) (q16 : Arv Z h0 va ka .byte (40 : Int32) vs (.int 0)) (q17 : va ≠ xb) :
    mF l y_49 jdk_68_method_71_code 2 none ws (rmk 6 1 88 89) #[(.ref xb), (.ref xs)] Z h0 (Q_ifW1 Z xb xs va ka vs G fm h0 n0) := by
  refine MetFree.of_bodySF (plainFor_of_name pn_2) hisR ?_
  intro p e s m args below meth c s₁ Bd hml0 hP hK
  obtain ⟨rfl, hZ, hh⟩ := hP
  have hx := Bd.exec
  have hby := Bd.bytes
  have hml : c.maxLocals = 2 := hml0
  have hown : s.vm.findClass "java/lang/AbstractStringBuilder" = some m.cls := findClass_of_methodNamed Bd.named
  have hnm := (name_of_methodNamed Bd.named Bd.method).1
  have X0 : Stand p l e (rmk 6 1 88 89) s m #[(.ref xb), (.ref xs)] below meth c s₁ [] 0 0 := Stand.of_body Bd
  have e0 : s₁.heap = h0 := by rw [← hh, Bd.state]; rfl
  have N0 := Fr.nil n0
  have pre0 : ∀ t, oS p e below s₁ (mkF m 0 #[vR xb, vR xs] []) t → oS p e below s₁ (entryFrame m #[(.ref xb), (.ref xs)] 2) t := fun t k => castTop (ef_7 m xb xs) k
  obtain ⟨T1, X1, e1, st1⟩ := getS2 X0 hx hZ hown (host := "") (Or.inl (ow hw 67 rfl)) Via.refl e0 (q0.ext q7.2) (g := (mkF m 0 #[vR xb, vR xs] [])) rfl (oh hby D48 0 rfl)
  obtain ⟨T2, X2, e2, st2⟩ := getF X1 hx hZ hown (host := "") (Or.inl (ow hw 70 rfl)) Via.refl e1 q13 (g := (mkF m 7 #[vR xb, vR xs] [(.ref xb)])) rfl rfl (oh hby D48 3 rfl)
  obtain ⟨cq3, kq3, q3a, q3b, q3c⟩ := isOf hZ e2 q10
  obtain ⟨_, _, ⟨T3, L3, k3, n3⟩, -, X3, ⟨Lc3, hQ3, l3, y3, z3⟩, st3⟩ := X2.virtualBack hx (y := y_10) (z := y_10) hown (mvT hZ (ow hw 162 rfl)) (mvT hZ (ow hw 33 rfl)) (notFace_of_selects (args := #[]) (mvT hZ (ow hw 35 rfl))) (mvT hZ (ow hw 35 rfl)) (mvT hZ (ow hw 34 rfl)) (by decide) (backOf (W := 1) (rm_scod l Z a0 hw [] xs G (1 : Int32) h0 n0 Z0 q0 hCS q7 q11 (rfl)) hZ (ow hw 36 rfl) (ow hw 4 rfl) (by decide) (by decide)) q3a q3c (g := (mkF m 11 #[vR xb, vR xs] [(.ref xs), (.int 0)])) rfl (by rw [hml]; rfl) (Steps.refl _) (argsL := []) (rest := [(.int 0)]) (lenOf pd_26 rfl) rfl (by show 2 * 0 + _ ≤ _; exact Nat.le_of_eq rfl) (oh hby D48 5 rfl) (fun _ _ => ⟨rfl, e2, (by decide : 0 + 0 ≤ _), (by decide : 0 + 0 ≤ _)⟩)
  dsimp only [Pt.U, Pt.locs, Pt.cells, Pt.slots] at X3 l3 y3 z3 st3 hQ3
  subst l3 y3 z3
  obtain ⟨rfl, Nq3, e3⟩ := hQ3
  have N3 := Fr.app N0 Nq3
  obtain ⟨cq4, q4_, q4_'⟩ := q8.cell
  obtain ⟨_, _, ⟨T4, L4, k4, n4⟩, -, X4, ⟨Lc4, hQ4, l4, y4, z4⟩, st4⟩ := X3.privateBack hx (y := y_48) hown (mvT hZ (ow hw 261 rfl)) (mvT hZ (ow hw 262 rfl)) (own_selpriv (by decide) (mvT hZ (ow hw 264 rfl)) (mvP hZ (ow hw 263 rfl)) (mvT hZ (ow hw 262 rfl))) (Cond.privateMethod_at (mvP hZ (ow hw 263 rfl) (args := #[]))) (mvT hZ (ow hw 265 rfl)) (by decide) (backOf (W := 0) (rm_inf1 l Z a0 hw [] xb va ka vs G fm h0 n0 Z0 q0 hCS q2 hFM q4 q5 q6 q7 q8 q9 q12 q13 q14 q15 q16 q17) hZ (ow hw 265 rfl) (ow hw 64 rfl) (by decide) (by decide)) (g := (mkF m 18 #[vR xb, vR xs] [(.ref xb)])) rfl (by rw [hml]; rfl) (Steps.refl _) (a := xb) (by rw [e3]; exact q4_) q4_' (argsL := []) (rest := []) (lenOf pd_27 rfl) rfl (by show 2 * 0 + _ ≤ _; exact Nat.le_of_eq rfl) (oh hby D48 8 rfl) (fun _ _ => ⟨rfl, e3, (by decide : 0 + 1 ≤ _), (by decide : 0 + 88 ≤ _)⟩)
  dsimp only [Pt.U, Pt.locs, Pt.cells, Pt.slots] at X4 l4 y4 z4 st4 hQ4
  subst l4 y4 z4
  obtain ⟨vb_4, kb_4, rfl, Nq4, K4, f4_0, f4_1, f4_2, f4_3, f4_4, f4_5⟩ := hQ4
  have N4 := Fr.app N3 Nq4
  obtain ⟨fs, hr, hrun, hended, hW, hsame⟩ := X4.leave (v := none) (fun _ => rfl)
  refine ⟨_, _, pre0 _ ?_, hrun, hended, _, _, rfl, ?_, ⟨_, rfl⟩, hW, hsame.mono (by decide) (by decide)⟩
  · refine st1 _ ?_
    show oS p e below T1 (mkF m 3 #[vR xb, vR xs] [(.int G)]) _
    refine XS.ifNo X1.here hx rfl (oh hby D48 1 rfl) rfl ((if0 _ _).trans (feq (hCS : ¬ (G = (0 : Int32)))).1) ?_
    refine XS.aloadN X1.here hx rfl (oh hby D48 2 rfl) rfl rfl ?_
    refine st2 _ ?_
    show oS p e below T2 (mkF m 10 #[vR xb, vR xs] [(.int 0)]) _
    refine XS.aloadN X2.here hx rfl (oh hby D48 4 rfl) rfl rfl ?_
    refine st3.trans ?_
    show oS p e below T3 (mkF m 14 #[vR xb, vR xs] [(.int 1), (.int 0)]) _
    refine XS.icmpNo X3.here hx rfl (oh hby D48 6 rfl) rfl (feq ((by decide) : ¬ ((0 : Int32) = (1 : Int32)))).1 ?_
    refine XS.aloadN X3.here hx rfl (oh hby D48 7 rfl) rfl rfl ?_
    refine st4.trans ?_
    show oS p e below T4 (mkF m 21 #[vR xb, vR xs] []) _
    exact X4.returnOut hx Bd.returns (oh hby D48 9 rfl) hr
  · show Q_ifW1 Z xb xs va ka vs G fm h0 n0 _ T4.heap _
    exact ⟨vb_4, kb_4, rfl, N4, ((Keep.refl h0 ([xb] : List Addr)).trans K4 (allS (Or.inl (by simp)) all0)), f4_0, f4_1, f4_2, f4_3, (Nat.le_trans (Nat.le_refl _) f4_4), f4_5⟩
theorem ef_22 (m : MethodId) (x0 : Addr) (x1 : Addr) (x2 : Int32) (x3 : Int32) : entryFrame m #[(.ref x0), (.ref x1), (.int x2), (.int x3)] 4 = mkF m 0 #[vR x0, vR x1, vI x2, vI x3] [] := by first | (simp [entryFrame, mkF, argsToLocals, Value.category]; done) | rfl
def Q_gb1L (Z : State) (xs : Addr) (t1 : Addr) (k1 : ClassId) (va : Addr) (ka : ClassId) (ps : List Int32) (vs : List Value) (G : Int32) (h0 : Heap) (n0 : Nat) (v : Option Value) (h : Heap) (L : List Loc) : Prop := (v = none) ∧ (Fr n0 L) ∧ (Keep h0 h ([va] : List Addr)) ∧ (Arv Z h va ka .byte (40 : Int32) (own_bs ps) (.int 0))
set_option maxRecDepth 65536 in
set_option maxHeartbeats 40000000 in
theorem rm_gb1L (l : Launch) (Z : State) (a0 : Array Value) (hw : HW Z a0) (ws : List Jvm.Cond) (xs : Addr) (t1 : Addr) (k1 : ClassId) (va : Addr) (ka : ClassId) (ps : List Int32) (vs : List Value) (G : Int32) (h0 : Heap) (n0 : Nat) (Z0 : n0 ≤ h0.size) (q0 : sC Z G) (hCS : ¬ (G = (0 : Int32))) (q2 : Old Z n0 h0) (q3 : eS Z h0 xs) (q4 : fV Z h0 xs (.ref t1)) (q5 : fC Z h0 xs (.int 0)) (q6 : Arv Z h0 t1 k1 .byte (40 : Int32) (own_bs ps) (.int 0)) (q7 : Arv Z h0 va ka .byte (40 : Int32) vs (.int 0)) (q8 : n0 ≤ va) (q9 : t1 ≠ va) (hpl : ps.length = 40) (hvl : vs.length = 40) :
    mF l y_50 jdk_42_method_147_code 4 none ws (rmk 1 0 0 18) #[(.ref xs), (.ref va), (.int 0), (.int 0)] Z h0 (Q_gb1L Z xs t1 k1 va ka ps vs G h0 n0) := by
  refine MetFree.of_bodySF (plainFor_of_name pn_1) hisR ?_
  intro p e s m args below meth c s₁ Bd hml0 hP hK
  obtain ⟨rfl, hZ, hh⟩ := hP
  have hx := Bd.exec
  have hby := Bd.bytes
  have hml : c.maxLocals = 4 := hml0
  have hown : s.vm.findClass "java/lang/String" = some m.cls := findClass_of_methodNamed Bd.named
  have hnm := (name_of_methodNamed Bd.named Bd.method).1
  have X0 : Stand p l e (rmk 1 0 0 18) s m #[(.ref xs), (.ref va), (.int 0), (.int 0)] below meth c s₁ [] 0 0 := Stand.of_body Bd
  have e0 : s₁.heap = h0 := by rw [← hh, Bd.state]; rfl
  have N0 := Fr.nil n0
  have pre0 : ∀ t, oS p e below s₁ (mkF m 0 #[vR xs, vR va, vI 0, vI 0] []) t → oS p e below s₁ (entryFrame m #[(.ref xs), (.ref va), (.int 0), (.int 0)] 4) t := fun t k => castTop (ef_22 m xs va (0 : Int32) (0 : Int32)) k
  obtain ⟨cq1, kq1, q1a, q1b, q1c⟩ := isOf hZ e0 q3
  obtain ⟨_, _, ⟨T1, L1, k1, n1⟩, -, X1, ⟨Lc1, hQ1, l1, y1, z1⟩, st1⟩ := X0.virtualBack hx (y := y_10) (z := y_10) hown (mvT hZ (ow hw 32 rfl)) (mvT hZ (ow hw 33 rfl)) (notFace_of_selects (args := #[]) (mvT hZ (ow hw 35 rfl))) (mvT hZ (ow hw 35 rfl)) (mvT hZ (ow hw 34 rfl)) (by decide) (backOf (W := 0) (rm_scod l Z a0 hw [] xs G (0 : Int32) h0 n0 Z0 q0 hCS q2 q5 (rfl)) hZ (ow hw 36 rfl) (ow hw 4 rfl) (by decide) (by decide)) q1a q1c (g := (mkF m 1 #[vR xs, vR va, vI 0, vI 0] [(.ref xs)])) rfl (by rw [hml]; rfl) (Steps.refl _) (argsL := []) (rest := []) (lenOf pd_26 rfl) rfl (by show 2 * 0 + _ ≤ _; exact Nat.le_of_eq rfl) (oh hby D49 1 rfl) (fun _ _ => ⟨rfl, e0, (by decide : 0 + 0 ≤ _), (by decide : 0 + 0 ≤ _)⟩)
  dsimp only [Pt.U, Pt.locs, Pt.cells, Pt.slots] at X1 l1 y1 z1 st1 hQ1
  subst l1 y1 z1
  obtain ⟨rfl, Nq1, e1⟩ := hQ1
  have N1 := Fr.app N0 Nq1
  obtain ⟨T2, X2, e2, st2⟩ := getF X1 hx hZ hown (host := "") (Or.inl (ow hw 21 rfl)) Via.refl e1 q4 (g := (mkF m 9 #[vR xs, vR va, vI 0, vI 0] [(.ref xs)])) rfl rfl (oh hby D49 5 rfl)
  obtain ⟨T3, X3, e3, st3⟩ := getF X2 hx hZ hown (host := "") (Or.inl (ow hw 21 rfl)) Via.refl e2 q4 (g := (mkF m 18 #[vR xs, vR va, vI 0, vI 0] [(.ref xs), (.int 0), (.ref va), (.int 0), (.ref t1)])) rfl rfl (oh hby D49 12 rfl)
  obtain ⟨cl4, Ar4, -, S4, M4, -, -⟩ := id q6
  obtain ⟨T5, h5, lc5, X5, e5, N5, K5, fA5, st5⟩ := cpA X3 hx hZ hown (ow hw 168 rfl) (ow hw 113 rfl) (ow hw 111 rfl) (ow hw 112 rfl) e3 q6 q7 (Or.inl ⟨rfl, rfl⟩) (by decide) (by decide) (by decide) (by decide) (by decide) rfl (by rw [hvl]; decide) N1 q8 (g := (mkF m 22 #[vR xs, vR va, vI 0, vI 0] [(.int 40), (.int 0), (.ref va), (.int 0), (.ref t1)])) rfl (by rw [hml]; rfl) rfl (oh hby D49 14 rfl) (by decide) (W := 0) (by show 2 * 0 + _ ≤ _; exact Nat.le_of_eq rfl) (by decide)
  have R6 : Arv Z h5 va ka .byte (40 : Int32) (own_bs ps) (.int 0) := by have q := fA5; rw [own_over (p := 0) (n := 40) (by decide) (by decide) (by rw [own_bsl]; exact hpl), List.take_zero, List.nil_append, List.drop_of_length_le (by omega), List.append_nil] at q; exact q
  obtain ⟨fs, hr, hrun, hended, hW, hsame⟩ := X5.leave (v := none) (fun _ => rfl)
  refine ⟨_, _, pre0 _ ?_, hrun, hended, _, _, rfl, ?_, ⟨_, rfl⟩, hW, hsame.mono (by decide) (by decide)⟩
  · refine XS.aloadN X0.here hx rfl (oh hby D49 0 rfl) rfl rfl ?_
    refine st1.trans ?_
    show oS p e below T1 (mkF m 4 #[vR xs, vR va, vI 0, vI 0] [(.int 0)]) _
    refine XS.iloadN X1.here hx rfl (oh hby D49 2 rfl) rfl ?_
    refine XS.icmpNo X1.here hx rfl (oh hby D49 3 rfl) rfl (teq ((by decide) : (0 : Int32) = (0 : Int32))).2 ?_
    refine XS.aloadN X1.here hx rfl (oh hby D49 4 rfl) rfl rfl ?_
    refine st2 _ ?_
    show oS p e below T2 (mkF m 12 #[vR xs, vR va, vI 0, vI 0] [(.ref t1)]) _
    refine XS.iconst X2.here hx rfl (oh hby D49 6 rfl) ?_
    refine XS.aloadN X2.here hx rfl (oh hby D49 7 rfl) rfl rfl ?_
    refine XS.iloadN X2.here hx rfl (oh hby D49 8 rfl) rfl ?_
    refine XS.iloadN X2.here hx rfl (oh hby D49 9 rfl) rfl ?_
    refine XS.ishl X2.here hx rfl (oh hby D49 10 rfl) rfl ?_
    show oS p e below T2 (mkF m 17 #[vR xs, vR va, vI 0, vI 0] [(.int 0), (.ref va), (.int 0), (.ref t1)]) _
    refine XS.aloadN X2.here hx rfl (oh hby D49 11 rfl) rfl rfl ?_
    refine st3 _ ?_
    show oS p e below T3 (mkF m 21 #[vR xs, vR va, vI 0, vI 0] [(.ref t1), (.int 0), (.ref va), (.int 0), (.ref t1)]) _
    refine X3.arraylength hx (by rw [e3]; exact Ar4.1) (State.isArrayOf_alike hZ.alike Ar4.2.1) (g := (mkF m 21 #[vR xs, vR va, vI 0, vI 0] [(.ref t1), (.int 0), (.ref va), (.int 0), (.ref t1)])) rfl rfl (oh hby D49 13 rfl) _ ?_
    rw [len_of S4 M4]
    show oS p e below T3 (mkF m 22 #[vR xs, vR va, vI 0, vI 0] [(.int 40), (.int 0), (.ref va), (.int 0), (.ref t1)]) _
    refine st5 _ ?_
    show oS p e below T5 (mkF m 25 #[vR xs, vR va, vI 0, vI 0] []) _
    refine XS.goto X5.here hx rfl (pc0 := 25) (pc' := 43) rfl (oh hby D49 15 rfl) (by decide) (by decide) ?_
    show oS p e below T5 (mkF m 43 #[vR xs, vR va, vI 0, vI 0] []) _
    exact X5.returnOut hx Bd.returns (oh hby D49 25 rfl) hr
  · show Q_gb1L Z xs t1 k1 va ka ps vs G h0 n0 _ T5.heap _
    rw [e5]
    exact ⟨rfl, N5, ((Keep.refl h0 ([va] : List Addr)).trans K5 (allS (Or.inl (by simp)) all0)), R6⟩
def Q_gb1W (Z : State) (xs : Addr) (t1 : Addr) (k1 : ClassId) (va : Addr) (ka : ClassId) (ps : List Int32) (vs : List Value) (G : Int32) (h0 : Heap) (n0 : Nat) (v : Option Value) (h : Heap) (L : List Loc) : Prop := (v = none) ∧ (Fr n0 L) ∧ (Keep h0 h ([va] : List Addr)) ∧ (Arv Z h va ka .byte (80 : Int32) (StrChars.Road.wideBytes ps) (.int 0))
set_option maxRecDepth 65536 in
set_option maxHeartbeats 40000000 in
theorem rm_gb1W (l : Launch) (Z : State) (a0 : Array Value) (hw : HW Z a0) (ws : List Jvm.Cond) (xs : Addr) (t1 : Addr) (k1 : ClassId) (va : Addr) (ka : ClassId) (ps : List Int32) (vs : List Value) (G : Int32) (h0 : Heap) (n0 : Nat) (Z0 : n0 ≤ h0.size) (q0 : sC Z G) (hCS : ¬ (G = (0 : Int32))) (q2 : Old Z n0 h0) (q3 : eS Z h0 xs) (q4 : fV Z h0 xs (.ref t1)) (q5 : fC Z h0 xs (.int 1)) (q6 : Arv Z h0 t1 k1 .byte (80 : Int32) (StrChars.Road.wideBytes ps) (.int 0)) (q7 : Arv Z h0 va ka .byte (80 : Int32) vs (.int 0)) (q8 : n0 ≤ va) (q9 : t1 ≠ va) (hpl : ps.length = 40) (hvl : vs.length = 80) :
    mF l y_50 jdk_42_method_147_code 4 none ws (rmk 1 0 0 18) #[(.ref xs), (.ref va), (.int 0), (.int 1)] Z h0 (Q_gb1W Z xs t1 k1 va ka ps vs G h0 n0) := by
  refine MetFree.of_bodySF (plainFor_of_name pn_1) hisR ?_
  intro p e s m args below meth c s₁ Bd hml0 hP hK
  obtain ⟨rfl, hZ, hh⟩ := hP
  have hx := Bd.exec
  have hby := Bd.bytes
  have hml : c.maxLocals = 4 := hml0
  have hown : s.vm.findClass "java/lang/String" = some m.cls := findClass_of_methodNamed Bd.named
  have hnm := (name_of_methodNamed Bd.named Bd.method).1
  have X0 : Stand p l e (rmk 1 0 0 18) s m #[(.ref xs), (.ref va), (.int 0), (.int 1)] below meth c s₁ [] 0 0 := Stand.of_body Bd
  have e0 : s₁.heap = h0 := by rw [← hh, Bd.state]; rfl
  have N0 := Fr.nil n0
  have pre0 : ∀ t, oS p e below s₁ (mkF m 0 #[vR xs, vR va, vI 0, vI 1] []) t → oS p e below s₁ (entryFrame m #[(.ref xs), (.ref va), (.int 0), (.int 1)] 4) t := fun t k => castTop (ef_22 m xs va (0 : Int32) (1 : Int32)) k
  obtain ⟨cq1, kq1, q1a, q1b, q1c⟩ := isOf hZ e0 q3
  obtain ⟨_, _, ⟨T1, L1, k1, n1⟩, -, X1, ⟨Lc1, hQ1, l1, y1, z1⟩, st1⟩ := X0.virtualBack hx (y := y_10) (z := y_10) hown (mvT hZ (ow hw 32 rfl)) (mvT hZ (ow hw 33 rfl)) (notFace_of_selects (args := #[]) (mvT hZ (ow hw 35 rfl))) (mvT hZ (ow hw 35 rfl)) (mvT hZ (ow hw 34 rfl)) (by decide) (backOf (W := 0) (rm_scod l Z a0 hw [] xs G (1 : Int32) h0 n0 Z0 q0 hCS q2 q5 (rfl)) hZ (ow hw 36 rfl) (ow hw 4 rfl) (by decide) (by decide)) q1a q1c (g := (mkF m 1 #[vR xs, vR va, vI 0, vI 1] [(.ref xs)])) rfl (by rw [hml]; rfl) (Steps.refl _) (argsL := []) (rest := []) (lenOf pd_26 rfl) rfl (by show 2 * 0 + _ ≤ _; exact Nat.le_of_eq rfl) (oh hby D49 1 rfl) (fun _ _ => ⟨rfl, e0, (by decide : 0 + 0 ≤ _), (by decide : 0 + 0 ≤ _)⟩)
  dsimp only [Pt.U, Pt.locs, Pt.cells, Pt.slots] at X1 l1 y1 z1 st1 hQ1
  subst l1 y1 z1
  obtain ⟨rfl, Nq1, e1⟩ := hQ1
  have N1 := Fr.app N0 Nq1
  obtain ⟨T2, X2, e2, st2⟩ := getF X1 hx hZ hown (host := "") (Or.inl (ow hw 21 rfl)) Via.refl e1 q4 (g := (mkF m 9 #[vR xs, vR va, vI 0, vI 1] [(.ref xs)])) rfl rfl (oh hby D49 5 rfl)
  obtain ⟨T3, X3, e3, st3⟩ := getF X2 hx hZ hown (host := "") (Or.inl (ow hw 21 rfl)) Via.refl e2 q4 (g := (mkF m 18 #[vR xs, vR va, vI 0, vI 1] [(.ref xs), (.int 0), (.ref va), (.int 0), (.ref t1)])) rfl rfl (oh hby D49 12 rfl)
  obtain ⟨cl4, Ar4, -, S4, M4, -, -⟩ := id q6
  obtain ⟨T5, h5, lc5, X5, e5, N5, K5, fA5, st5⟩ := cpA X3 hx hZ hown (ow hw 168 rfl) (ow hw 113 rfl) (ow hw 111 rfl) (ow hw 112 rfl) e3 q6 q7 (Or.inl ⟨rfl, rfl⟩) (by decide) (by decide) (by decide) (by decide) (by decide) rfl (by rw [hvl]; decide) N1 q8 (g := (mkF m 22 #[vR xs, vR va, vI 0, vI 1] [(.int 80), (.int 0), (.ref va), (.int 0), (.ref t1)])) rfl (by rw [hml]; rfl) rfl (oh hby D49 14 rfl) (by decide) (W := 0) (by show 2 * 0 + _ ≤ _; exact Nat.le_of_eq rfl) (by decide)
  have R6 : Arv Z h5 va ka .byte (80 : Int32) (StrChars.Road.wideBytes ps) (.int 0) := by have q := fA5; rw [own_over (p := 0) (n := 80) (by decide) (by decide) (by rw [own_widelen, hpl]), List.take_zero, List.nil_append, List.drop_of_length_le (by omega), List.append_nil] at q; exact q
  obtain ⟨fs, hr, hrun, hended, hW, hsame⟩ := X5.leave (v := none) (fun _ => rfl)
  refine ⟨_, _, pre0 _ ?_, hrun, hended, _, _, rfl, ?_, ⟨_, rfl⟩, hW, hsame.mono (by decide) (by decide)⟩
  · refine XS.aloadN X0.here hx rfl (oh hby D49 0 rfl) rfl rfl ?_
    refine st1.trans ?_
    show oS p e below T1 (mkF m 4 #[vR xs, vR va, vI 0, vI 1] [(.int 1)]) _
    refine XS.iloadN X1.here hx rfl (oh hby D49 2 rfl) rfl ?_
    refine XS.icmpNo X1.here hx rfl (oh hby D49 3 rfl) rfl (teq ((by decide) : (1 : Int32) = (1 : Int32))).2 ?_
    refine XS.aloadN X1.here hx rfl (oh hby D49 4 rfl) rfl rfl ?_
    refine st2 _ ?_
    show oS p e below T2 (mkF m 12 #[vR xs, vR va, vI 0, vI 1] [(.ref t1)]) _
    refine XS.iconst X2.here hx rfl (oh hby D49 6 rfl) ?_
    refine XS.aloadN X2.here hx rfl (oh hby D49 7 rfl) rfl rfl ?_
    refine XS.iloadN X2.here hx rfl (oh hby D49 8 rfl) rfl ?_
    refine XS.iloadN X2.here hx rfl (oh hby D49 9 rfl) rfl ?_
    refine XS.ishl X2.here hx rfl (oh hby D49 10 rfl) rfl ?_
    show oS p e below T2 (mkF m 17 #[vR xs, vR va, vI 0, vI 1] [(.int 0), (.ref va), (.int 0), (.ref t1)]) _
    refine XS.aloadN X2.here hx rfl (oh hby D49 11 rfl) rfl rfl ?_
    refine st3 _ ?_
    show oS p e below T3 (mkF m 21 #[vR xs, vR va, vI 0, vI 1] [(.ref t1), (.int 0), (.ref va), (.int 0), (.ref t1)]) _
    refine X3.arraylength hx (by rw [e3]; exact Ar4.1) (State.isArrayOf_alike hZ.alike Ar4.2.1) (g := (mkF m 21 #[vR xs, vR va, vI 0, vI 1] [(.ref t1), (.int 0), (.ref va), (.int 0), (.ref t1)])) rfl rfl (oh hby D49 13 rfl) _ ?_
    rw [len_of S4 M4]
    show oS p e below T3 (mkF m 22 #[vR xs, vR va, vI 0, vI 1] [(.int 80), (.int 0), (.ref va), (.int 0), (.ref t1)]) _
    refine st5 _ ?_
    show oS p e below T5 (mkF m 25 #[vR xs, vR va, vI 0, vI 1] []) _
    refine XS.goto X5.here hx rfl (pc0 := 25) (pc' := 43) rfl (oh hby D49 15 rfl) (by decide) (by decide) ?_
    show oS p e below T5 (mkF m 43 #[vR xs, vR va, vI 0, vI 1] []) _
    exact X5.returnOut hx Bd.returns (oh hby D49 25 rfl) hr
  · show Q_gb1W Z xs t1 k1 va ka ps vs G h0 n0 _ T5.heap _
    rw [e5]
    exact ⟨rfl, N5, ((Keep.refl h0 ([va] : List Addr)).trans K5 (allS (Or.inl (by simp)) all0)), R6⟩
def Q_gb2L (Z : State) (xs : Addr) (t1 : Addr) (k1 : ClassId) (va : Addr) (ka : ClassId) (ps : List Int32) (G : Int32) (h0 : Heap) (n0 : Nat) (v : Option Value) (h : Heap) (L : List Loc) : Prop := (v = none) ∧ (Fr n0 L) ∧ (Keep h0 h ([va] : List Addr)) ∧ (Arv Z h va ka .byte (82 : Int32) ((own_bs ps ++ (List.replicate 42 (Value.int 0))).take 40 ++ own_bs own_dots ++ (own_bs ps ++ (List.replicate 42 (Value.int 0))).drop 43) (.int 0))
set_option maxRecDepth 65536 in
set_option maxHeartbeats 40000000 in
theorem rm_gb2L (l : Launch) (Z : State) (a0 : Array Value) (hw : HW Z a0) (ws : List Jvm.Cond) (xs : Addr) (t1 : Addr) (k1 : ClassId) (va : Addr) (ka : ClassId) (ps : List Int32) (G : Int32) (h0 : Heap) (n0 : Nat) (Z0 : n0 ≤ h0.size) (q0 : sC Z G) (hCS : ¬ (G = (0 : Int32))) (q2 : Old Z n0 h0) (q3 : eS Z h0 xs) (q4 : fV Z h0 xs (.ref t1)) (q5 : fC Z h0 xs (.int 0)) (q6 : Arv Z h0 t1 k1 .byte (3 : Int32) [(.int 46), (.int 46), (.int 46)] (.int 0)) (q7 : Arv Z h0 va ka .byte (82 : Int32) (own_bs ps ++ (List.replicate 42 (Value.int 0))) (.int 0)) (q8 : n0 ≤ va) (q9 : t1 ≠ va) (hpl : ps.length = 40) :
    mF l y_50 jdk_42_method_147_code 4 none ws (rmk 1 0 0 18) #[(.ref xs), (.ref va), (.int 40), (.int 0)] Z h0 (Q_gb2L Z xs t1 k1 va ka ps G h0 n0) := by
  refine MetFree.of_bodySF (plainFor_of_name pn_1) hisR ?_
  intro p e s m args below meth c s₁ Bd hml0 hP hK
  obtain ⟨rfl, hZ, hh⟩ := hP
  have hx := Bd.exec
  have hby := Bd.bytes
  have hml : c.maxLocals = 4 := hml0
  have hown : s.vm.findClass "java/lang/String" = some m.cls := findClass_of_methodNamed Bd.named
  have hnm := (name_of_methodNamed Bd.named Bd.method).1
  have X0 : Stand p l e (rmk 1 0 0 18) s m #[(.ref xs), (.ref va), (.int 40), (.int 0)] below meth c s₁ [] 0 0 := Stand.of_body Bd
  have e0 : s₁.heap = h0 := by rw [← hh, Bd.state]; rfl
  have N0 := Fr.nil n0
  have pre0 : ∀ t, oS p e below s₁ (mkF m 0 #[vR xs, vR va, vI 40, vI 0] []) t → oS p e below s₁ (entryFrame m #[(.ref xs), (.ref va), (.int 40), (.int 0)] 4) t := fun t k => castTop (ef_22 m xs va (40 : Int32) (0 : Int32)) k
  obtain ⟨cq1, kq1, q1a, q1b, q1c⟩ := isOf hZ e0 q3
  obtain ⟨_, _, ⟨T1, L1, k1, n1⟩, -, X1, ⟨Lc1, hQ1, l1, y1, z1⟩, st1⟩ := X0.virtualBack hx (y := y_10) (z := y_10) hown (mvT hZ (ow hw 32 rfl)) (mvT hZ (ow hw 33 rfl)) (notFace_of_selects (args := #[]) (mvT hZ (ow hw 35 rfl))) (mvT hZ (ow hw 35 rfl)) (mvT hZ (ow hw 34 rfl)) (by decide) (backOf (W := 0) (rm_scod l Z a0 hw [] xs G (0 : Int32) h0 n0 Z0 q0 hCS q2 q5 (rfl)) hZ (ow hw 36 rfl) (ow hw 4 rfl) (by decide) (by decide)) q1a q1c (g := (mkF m 1 #[vR xs, vR va, vI 40, vI 0] [(.ref xs)])) rfl (by rw [hml]; rfl) (Steps.refl _) (argsL := []) (rest := []) (lenOf pd_26 rfl) rfl (by show 2 * 0 + _ ≤ _; exact Nat.le_of_eq rfl) (oh hby D49 1 rfl) (fun _ _ => ⟨rfl, e0, (by decide : 0 + 0 ≤ _), (by decide : 0 + 0 ≤ _)⟩)
  dsimp only [Pt.U, Pt.locs, Pt.cells, Pt.slots] at X1 l1 y1 z1 st1 hQ1
  subst l1 y1 z1
  obtain ⟨rfl, Nq1, e1⟩ := hQ1
  have N1 := Fr.app N0 Nq1
  obtain ⟨T2, X2, e2, st2⟩ := getF X1 hx hZ hown (host := "") (Or.inl (ow hw 21 rfl)) Via.refl e1 q4 (g := (mkF m 9 #[vR xs, vR va, vI 40, vI 0] [(.ref xs)])) rfl rfl (oh hby D49 5 rfl)
  obtain ⟨T3, X3, e3, st3⟩ := getF X2 hx hZ hown (host := "") (Or.inl (ow hw 21 rfl)) Via.refl e2 q4 (g := (mkF m 18 #[vR xs, vR va, vI 40, vI 0] [(.ref xs), (.int 40), (.ref va), (.int 0), (.ref t1)])) rfl rfl (oh hby D49 12 rfl)
  obtain ⟨cl4, Ar4, -, S4, M4, -, -⟩ := id q6
  obtain ⟨T5, h5, lc5, X5, e5, N5, K5, fA5, st5⟩ := cpA X3 hx hZ hown (ow hw 168 rfl) (ow hw 113 rfl) (ow hw 111 rfl) (ow hw 112 rfl) e3 q6 q7 (Or.inl ⟨rfl, rfl⟩) (by decide) (by decide) (by decide) (by decide) (by decide) rfl (by rw [List.length_append, own_bsl, hpl, List.length_replicate]; decide) N1 q8 (g := (mkF m 22 #[vR xs, vR va, vI 40, vI 0] [(.int 3), (.int 40), (.ref va), (.int 0), (.ref t1)])) rfl (by rw [hml]; rfl) rfl (oh hby D49 14 rfl) (by decide) (W := 0) (by show 2 * 0 + _ ≤ _; exact Nat.le_of_eq rfl) (by decide)
  have R6 : Arv Z h5 va ka .byte (82 : Int32) ((own_bs ps ++ (List.replicate 42 (Value.int 0))).take 40 ++ own_bs own_dots ++ (own_bs ps ++ (List.replicate 42 (Value.int 0))).drop 43) (.int 0) := by have q := fA5; rw [own_over (p := 40) (n := 3) (by decide) (by decide) rfl] at q; exact q
  obtain ⟨fs, hr, hrun, hended, hW, hsame⟩ := X5.leave (v := none) (fun _ => rfl)
  refine ⟨_, _, pre0 _ ?_, hrun, hended, _, _, rfl, ?_, ⟨_, rfl⟩, hW, hsame.mono (by decide) (by decide)⟩
  · refine XS.aloadN X0.here hx rfl (oh hby D49 0 rfl) rfl rfl ?_
    refine st1.trans ?_
    show oS p e below T1 (mkF m 4 #[vR xs, vR va, vI 40, vI 0] [(.int 0)]) _
    refine XS.iloadN X1.here hx rfl (oh hby D49 2 rfl) rfl ?_
    refine XS.icmpNo X1.here hx rfl (oh hby D49 3 rfl) rfl (teq ((by decide) : (0 : Int32) = (0 : Int32))).2 ?_
    refine XS.aloadN X1.here hx rfl (oh hby D49 4 rfl) rfl rfl ?_
    refine st2 _ ?_
    show oS p e below T2 (mkF m 12 #[vR xs, vR va, vI 40, vI 0] [(.ref t1)]) _
    refine XS.iconst X2.here hx rfl (oh hby D49 6 rfl) ?_
    refine XS.aloadN X2.here hx rfl (oh hby D49 7 rfl) rfl rfl ?_
    refine XS.iloadN X2.here hx rfl (oh hby D49 8 rfl) rfl ?_
    refine XS.iloadN X2.here hx rfl (oh hby D49 9 rfl) rfl ?_
    refine XS.ishl X2.here hx rfl (oh hby D49 10 rfl) rfl ?_
    show oS p e below T2 (mkF m 17 #[vR xs, vR va, vI 40, vI 0] [(.int 40), (.ref va), (.int 0), (.ref t1)]) _
    refine XS.aloadN X2.here hx rfl (oh hby D49 11 rfl) rfl rfl ?_
    refine st3 _ ?_
    show oS p e below T3 (mkF m 21 #[vR xs, vR va, vI 40, vI 0] [(.ref t1), (.int 40), (.ref va), (.int 0), (.ref t1)]) _
    refine X3.arraylength hx (by rw [e3]; exact Ar4.1) (State.isArrayOf_alike hZ.alike Ar4.2.1) (g := (mkF m 21 #[vR xs, vR va, vI 40, vI 0] [(.ref t1), (.int 40), (.ref va), (.int 0), (.ref t1)])) rfl rfl (oh hby D49 13 rfl) _ ?_
    rw [len_of S4 M4]
    show oS p e below T3 (mkF m 22 #[vR xs, vR va, vI 40, vI 0] [(.int 3), (.int 40), (.ref va), (.int 0), (.ref t1)]) _
    refine st5 _ ?_
    show oS p e below T5 (mkF m 25 #[vR xs, vR va, vI 40, vI 0] []) _
    refine XS.goto X5.here hx rfl (pc0 := 25) (pc' := 43) rfl (oh hby D49 15 rfl) (by decide) (by decide) ?_
    show oS p e below T5 (mkF m 43 #[vR xs, vR va, vI 40, vI 0] []) _
    exact X5.returnOut hx Bd.returns (oh hby D49 25 rfl) hr
  · show Q_gb2L Z xs t1 k1 va ka ps G h0 n0 _ T5.heap _
    rw [e5]
    exact ⟨rfl, N5, ((Keep.refl h0 ([va] : List Addr)).trans K5 (allS (Or.inl (by simp)) all0)), R6⟩
def Q_ui3 (Z : State) (t1 : Addr) (k1 : ClassId) (va : Addr) (ka : ClassId) (ps : List Int32) (fm : Value) (h0 : Heap) (n0 : Nat) (v : Option Value) (h : Heap) (L : List Loc) : Prop := (v = none) ∧ (Fr n0 L) ∧ (Keep h0 h ([va] : List Addr)) ∧ (Arv Z h va ka .byte (164 : Int32) (StrChars.Road.wideBytes (ps ++ own_dots) ++ (List.replicate 78 (Value.int 0))) (.int 0))
set_option maxRecDepth 65536 in
set_option maxHeartbeats 40000000 in
theorem rm_ui3 (l : Launch) (Z : State) (a0 : Array Value) (hw : HW Z a0) (ws : List Jvm.Cond) (t1 : Addr) (k1 : ClassId) (va : Addr) (ka : ClassId) (ps : List Int32) (fm : Value) (h0 : Heap) (n0 : Nat) (Z0 : n0 ≤ h0.size) (q0 : sF Z fm) (hFM : fm.isRef = true) (q2 : sA Z) (q3 : sH Z) (q4 : sL Z) (q5 : Old Z n0 h0) (q6 : Arv Z h0 t1 k1 .byte (3 : Int32) [(.int 46), (.int 46), (.int 46)] (.int 0)) (q7 : Arv Z h0 va ka .byte (164 : Int32) (StrChars.Road.wideBytes ps ++ (List.replicate 84 (Value.int 0))) (.int 0)) (q8 : n0 ≤ va) (q9 : t1 ≠ va) (hpl : ps.length = 40) :
    mF l y_46 jdk_52_method_86_code 6 none ws (rmk 3 0 0 43) #[(.ref t1), (.int 0), (.ref va), (.int 40), (.int 3)] Z h0 (Q_ui3 Z t1 k1 va ka ps fm h0 n0) := by
  refine MetFree.of_bodySF (plainFor_of_name pn_0) hisR ?_
  intro p e s m args below meth c s₁ Bd hml0 hP hK
  obtain ⟨rfl, hZ, hh⟩ := hP
  have hx := Bd.exec
  have hby := Bd.bytes
  have hml : c.maxLocals = 6 := hml0
  have hown : s.vm.findClass "java/lang/StringUTF16" = some m.cls := findClass_of_methodNamed Bd.named
  have hnm := (name_of_methodNamed Bd.named Bd.method).1
  have X0 : Stand p l e (rmk 3 0 0 43) s m #[(.ref t1), (.int 0), (.ref va), (.int 40), (.int 3)] below meth c s₁ [] 0 0 := Stand.of_body Bd
  have e0 : s₁.heap = h0 := by rw [← hh, Bd.state]; rfl
  have N0 := Fr.nil n0
  have pre0 : ∀ t, oS p e below s₁ (mkF m 0 #[vR t1, vI 0, vR va, vI 40, vI 3, .unset] []) t → oS p e below s₁ (entryFrame m #[(.ref t1), (.int 0), (.ref va), (.int 40), (.int 3)] 6) t := fun t k => castTop (ef_19 m t1 (0 : Int32) va (40 : Int32) (3 : Int32)) k
  have hwl : (StrChars.Road.wideBytes ps).length = 80 := by rw [own_widelen, hpl]
  obtain ⟨_, _, ⟨T1, L1, k1, n1⟩, -, X1, ⟨Lc1, hQ1, l1, y1, z1⟩, st1⟩ := Jvm.LawKit.callS X0 hx (y := y_35) hown (mvT hZ (ow hw 245 rfl)) (mvT hZ (ow hw 246 rfl)) (mvT hZ (ow hw 46 rfl)) (mvT hZ (ow hw 247 rfl)) (by decide) (backOf (W := 0) (rm_ucbo l Z a0 hw [] 40 3 va ka 82 (StrChars.Road.wideBytes ps ++ (List.replicate 84 (Value.int 0))) fm h0 n0 Z0 q0 hFM q5 q7 (by decide) (by decide)) hZ (ow hw 247 rfl) (ow hw 46 rfl) (by decide) (by decide)) (g := (mkF m 4 #[vR t1, vI 0, vR va, vI 40, vI 3, .unset] [(.ref va), (.int 3), (.int 40)])) rfl (by rw [hml]; rfl) (argsL := [(.int 40), (.int 3), (.ref va)]) (rest := []) (lenOf pd_19 rfl) rfl (by show 2 * 0 + _ ≤ _; exact Nat.le_of_eq rfl) (oh hby D45 3 rfl) (fun _ _ => ⟨rfl, e0, (by decide : 0 + 0 ≤ _), (by decide : 0 + 0 ≤ _)⟩)
  dsimp only [Pt.U, Pt.locs, Pt.cells, Pt.slots] at X1 l1 y1 z1 st1 hQ1
  subst l1 y1 z1
  obtain ⟨rfl, Nq1, e1⟩ := hQ1
  have N1 := Fr.app N0 Nq1
  obtain ⟨cl2, Ar2, qq2, S2, M2, Hh2, U2⟩ := id q6
  have ib2 : ¬ ((0 : Int32) < 0 ∨ cl2.slots.size ≤ ((0 : Int32)).toNatClampNeg) := inb_of S2 ⟨(by decide : ¬ ((0 : Int32) < (0 : Int32))), (by decide : (0 : Int32) < (3 : Int32))⟩
  obtain ⟨_, _, ⟨T3, L3, k3, n3⟩, -, X3, ⟨Lc3, hQ3, l3, y3, z3⟩, st3⟩ := Jvm.LawKit.callS X1 hx (y := y_1) hown (mvT hZ (ow hw 226 rfl)) (mvT hZ (ow hw 227 rfl)) (mvT hZ (ow hw 46 rfl)) (mvT hZ (ow hw 228 rfl)) (by decide) (backOf (W := 0) (rm_putCh l Z a0 hw [] va 40 (46 : Int32) ka 164 (StrChars.Road.wideBytes ps ++ (List.replicate 84 (Value.int 0))) h0 n0 Z0 q2 q3 q4 q5 q7 q8 (by decide) (by decide) (by simp only [List.length_set, List.length_append, List.length_replicate, hwl])) hZ (ow hw 228 rfl) (ow hw 46 rfl) (by decide) (by decide)) (g := (mkF m 32 #[vR t1, vI 1, vR va, vI 41, vI 3, vI 0] [(.int 46), (.int 40), (.ref va)])) rfl (by rw [hml]; rfl) (argsL := [(.ref va), (.int 40), (.int 46)]) (rest := []) (lenOf pd_1 rfl) rfl (by show 2 * 0 + _ ≤ _; exact Nat.le_of_eq rfl) (oh hby D45 18 rfl) (fun _ _ => ⟨rfl, e1, (by decide : 0 + 0 ≤ _), (by decide : 0 + 0 ≤ _)⟩)
  dsimp only [Pt.U, Pt.locs, Pt.cells, Pt.slots] at X3 l3 y3 z3 st3 hQ3
  subst l3 y3 z3
  obtain ⟨rfl, Nq3, K3, f3_0⟩ := hQ3
  have N3 := Fr.app N1 Nq3
  have R4 : Arv Z T3.heap va ka .byte (164 : Int32) (((StrChars.Road.wideBytes ps ++ (List.replicate 84 (Value.int 0))).set (2 * 40) (Value.int (StrChars.lo8 46))).set (2 * 40 + 1) (Value.int (StrChars.hi8 46))) (.int 0) := by have q := f3_0; exact q
  have c5 := (q6.keep K3 (ninS q9 nin0))
  obtain ⟨cl6, Ar6, qq6, S6, M6, Hh6, U6⟩ := id c5
  have ib6 : ¬ ((1 : Int32) < 0 ∨ cl6.slots.size ≤ ((1 : Int32)).toNatClampNeg) := inb_of S6 ⟨(by decide : ¬ ((1 : Int32) < (0 : Int32))), (by decide : (1 : Int32) < (3 : Int32))⟩
  have c7 := (q5.keep K3 (allS q8 all0))
  obtain ⟨_, _, ⟨T8, L8, k8, n8⟩, -, X8, ⟨Lc8, hQ8, l8, y8, z8⟩, st8⟩ := Jvm.LawKit.callS X3 hx (y := y_1) hown (mvT hZ (ow hw 226 rfl)) (mvT hZ (ow hw 227 rfl)) (mvT hZ (ow hw 46 rfl)) (mvT hZ (ow hw 228 rfl)) (by decide) (backOf (W := 0) (rm_putCh l Z a0 hw [] va 41 (46 : Int32) ka 164 (((StrChars.Road.wideBytes ps ++ (List.replicate 84 (Value.int 0))).set (2 * 40) (Value.int (StrChars.lo8 46))).set (2 * 40 + 1) (Value.int (StrChars.hi8 46))) T3.heap n0 (Nat.le_trans Z0 K3.1) q2 q3 q4 c7 R4 q8 (by decide) (by decide) (by simp only [List.length_set, List.length_append, List.length_replicate, hwl])) hZ (ow hw 228 rfl) (ow hw 46 rfl) (by decide) (by decide)) (g := (mkF m 32 #[vR t1, vI 2, vR va, vI 42, vI 3, vI 1] [(.int 46), (.int 41), (.ref va)])) rfl (by rw [hml]; rfl) (argsL := [(.ref va), (.int 41), (.int 46)]) (rest := []) (lenOf pd_1 rfl) rfl (by show 2 * 0 + _ ≤ _; exact Nat.le_of_eq rfl) (oh hby D45 18 rfl) (fun _ _ => ⟨rfl, rfl, (by decide : 0 + 0 ≤ _), (by decide : 0 + 0 ≤ _)⟩)
  dsimp only [Pt.U, Pt.locs, Pt.cells, Pt.slots] at X8 l8 y8 z8 st8 hQ8
  subst l8 y8 z8
  obtain ⟨rfl, Nq8, K8, f8_0⟩ := hQ8
  have N8 := Fr.app N3 Nq8
  have R9 : Arv Z T8.heap va ka .byte (164 : Int32) (((((StrChars.Road.wideBytes ps ++ (List.replicate 84 (Value.int 0))).set (2 * 40) (Value.int (StrChars.lo8 46))).set (2 * 40 + 1) (Value.int (StrChars.hi8 46))).set (2 * 41) (Value.int (StrChars.lo8 46))).set (2 * 41 + 1) (Value.int (StrChars.hi8 46))) (.int 0) := by have q := f8_0; exact q
  have c10 := (c5.keep K8 (ninS q9 nin0))
  obtain ⟨cl11, Ar11, qq11, S11, M11, Hh11, U11⟩ := id c10
  have ib11 : ¬ ((2 : Int32) < 0 ∨ cl11.slots.size ≤ ((2 : Int32)).toNatClampNeg) := inb_of S11 ⟨(by decide : ¬ ((2 : Int32) < (0 : Int32))), (by decide : (2 : Int32) < (3 : Int32))⟩
  have c12 := (c7.keep K8 (allS q8 all0))
  obtain ⟨_, _, ⟨T13, L13, k13, n13⟩, -, X13, ⟨Lc13, hQ13, l13, y13, z13⟩, st13⟩ := Jvm.LawKit.callS X8 hx (y := y_1) hown (mvT hZ (ow hw 226 rfl)) (mvT hZ (ow hw 227 rfl)) (mvT hZ (ow hw 46 rfl)) (mvT hZ (ow hw 228 rfl)) (by decide) (backOf (W := 0) (rm_putCh l Z a0 hw [] va 42 (46 : Int32) ka 164 (((((StrChars.Road.wideBytes ps ++ (List.replicate 84 (Value.int 0))).set (2 * 40) (Value.int (StrChars.lo8 46))).set (2 * 40 + 1) (Value.int (StrChars.hi8 46))).set (2 * 41) (Value.int (StrChars.lo8 46))).set (2 * 41 + 1) (Value.int (StrChars.hi8 46))) T8.heap n0 (Nat.le_trans Z0 (Nat.le_trans K3.1 K8.1)) q2 q3 q4 c12 R9 q8 (by decide) (by decide) (by simp only [List.length_set, List.length_append, List.length_replicate, hwl])) hZ (ow hw 228 rfl) (ow hw 46 rfl) (by decide) (by decide)) (g := (mkF m 32 #[vR t1, vI 3, vR va, vI 43, vI 3, vI 2] [(.int 46), (.int 42), (.ref va)])) rfl (by rw [hml]; rfl) (argsL := [(.ref va), (.int 42), (.int 46)]) (rest := []) (lenOf pd_1 rfl) rfl (by show 2 * 0 + _ ≤ _; exact Nat.le_of_eq rfl) (oh hby D45 18 rfl) (fun _ _ => ⟨rfl, rfl, (by decide : 0 + 0 ≤ _), (by decide : 0 + 0 ≤ _)⟩)
  dsimp only [Pt.U, Pt.locs, Pt.cells, Pt.slots] at X13 l13 y13 z13 st13 hQ13
  subst l13 y13 z13
  obtain ⟨rfl, Nq13, K13, f13_0⟩ := hQ13
  have N13 := Fr.app N8 Nq13
  have R14 : Arv Z T13.heap va ka .byte (164 : Int32) (((((((StrChars.Road.wideBytes ps ++ (List.replicate 84 (Value.int 0))).set (2 * 40) (Value.int (StrChars.lo8 46))).set (2 * 40 + 1) (Value.int (StrChars.hi8 46))).set (2 * 41) (Value.int (StrChars.lo8 46))).set (2 * 41 + 1) (Value.int (StrChars.hi8 46))).set (2 * 42) (Value.int (StrChars.lo8 46))).set (2 * 42 + 1) (Value.int (StrChars.hi8 46))) (.int 0) := by have q := f13_0; exact q
  have R15 : Arv Z T13.heap va ka .byte (164 : Int32) (StrChars.Road.wideBytes (ps ++ own_dots) ++ (List.replicate 78 (Value.int 0))) (.int 0) := by have q := R14; rw [own_w164 hpl] at q; exact q
  obtain ⟨fs, hr, hrun, hended, hW, hsame⟩ := X13.leave (v := none) (fun _ => rfl)
  refine ⟨_, _, pre0 _ ?_, hrun, hended, _, _, rfl, ?_, ⟨_, rfl⟩, hW, hsame.mono (by decide) (by decide)⟩
  · refine XS.iloadN X0.here hx rfl (oh hby D45 0 rfl) rfl ?_
    refine XS.iload X0.here hx rfl (oh hby D45 1 rfl) rfl ?_
    refine XS.aloadN X0.here hx rfl (oh hby D45 2 rfl) rfl rfl ?_
    refine st1 _ ?_
    show oS p e below T1 (mkF m 7 #[vR t1, vI 0, vR va, vI 40, vI 3, .unset] []) _
    refine XS.iconst X1.here hx rfl (oh hby D45 4 rfl) ?_
    refine XS.istore X1.here hx rfl (oh hby D45 5 rfl) rfl (l' := #[vR t1, vI 0, vR va, vI 40, vI 3, vI 0]) rfl ?_
    refine XS.iload X1.here hx rfl (oh hby D45 6 rfl) rfl ?_
    refine XS.iload X1.here hx rfl (oh hby D45 7 rfl) rfl ?_
    refine XS.icmpNo X1.here hx rfl (oh hby D45 8 rfl) rfl (tlt ((by decide) : (0 : Int32) < (3 : Int32))).2.1 ?_
    show oS p e below T1 (mkF m 17 #[vR t1, vI 0, vR va, vI 40, vI 3, vI 0] []) _
    refine XS.aloadN X1.here hx rfl (oh hby D45 9 rfl) rfl rfl ?_
    refine XS.iloadN X1.here hx rfl (oh hby D45 10 rfl) rfl ?_
    refine XS.iinc X1.here hx rfl (oh hby D45 11 rfl) rfl (l' := #[vR t1, vI 0, vR va, vI ((40 : Int32) + (1 : Int32)), vI 3, vI 0]) rfl ?_
    refine XS.aloadN X1.here hx rfl (oh hby D45 12 rfl) rfl rfl ?_
    refine XS.iloadN X1.here hx rfl (oh hby D45 13 rfl) rfl ?_
    show oS p e below T1 (mkF m 24 #[vR t1, vI 0, vR va, vI 41, vI 3, vI 0] [(.int 0), (.ref t1), (.int 40), (.ref va)]) _
    refine XS.iinc X1.here hx rfl (oh hby D45 14 rfl) rfl (l' := #[vR t1, vI ((0 : Int32) + (1 : Int32)), vR va, vI 41, vI 3, vI 0]) rfl ?_
    show oS p e below T1 (mkF m 27 #[vR t1, vI 1, vR va, vI 41, vI 3, vI 0] [(.int 0), (.ref t1), (.int 40), (.ref va)]) _
    refine X1.baloadBytes hx (j := (0 : Int32)) (v := (.int 46)) (by rw [e1]; exact Ar2.1) (State.isArrayOf_alike hZ.alike Ar2.2.1) Ar2.2.2 ib2 (Hh2.at ib2 rfl) (g := (mkF m 27 #[vR t1, vI 1, vR va, vI 41, vI 3, vI 0] [(.int 0), (.ref t1), (.int 40), (.ref va)])) rfl rfl (oh hby D45 15 rfl) _ ?_
    show oS p e below T1 (mkF m 28 #[vR t1, vI 1, vR va, vI 41, vI 3, vI 0] [(.int 46), (.int 40), (.ref va)]) _
    refine XS.sipush X1.here hx rfl (oh hby D45 16 rfl) ?_
    refine XS.iand X1.here hx rfl (oh hby D45 17 rfl) rfl ?_
    refine st3 _ ?_
    show oS p e below T3 (mkF m 35 #[vR t1, vI 1, vR va, vI 41, vI 3, vI 0] []) _
    refine XS.iinc X3.here hx rfl (oh hby D45 19 rfl) rfl (l' := #[vR t1, vI 1, vR va, vI 41, vI 3, vI ((0 : Int32) + (1 : Int32))]) rfl ?_
    refine XS.goto X3.here hx rfl (pc0 := 38) (pc' := 10) rfl (oh hby D45 20 rfl) (by decide) (by decide) ?_
    refine XS.iload X3.here hx rfl (oh hby D45 6 rfl) rfl ?_
    refine XS.iload X3.here hx rfl (oh hby D45 7 rfl) rfl ?_
    refine XS.icmpNo X3.here hx rfl (oh hby D45 8 rfl) rfl (tlt ((by decide) : (1 : Int32) < (3 : Int32))).2.1 ?_
    show oS p e below T3 (mkF m 17 #[vR t1, vI 1, vR va, vI 41, vI 3, vI 1] []) _
    refine XS.aloadN X3.here hx rfl (oh hby D45 9 rfl) rfl rfl ?_
    refine XS.iloadN X3.here hx rfl (oh hby D45 10 rfl) rfl ?_
    refine XS.iinc X3.here hx rfl (oh hby D45 11 rfl) rfl (l' := #[vR t1, vI 1, vR va, vI ((41 : Int32) + (1 : Int32)), vI 3, vI 1]) rfl ?_
    refine XS.aloadN X3.here hx rfl (oh hby D45 12 rfl) rfl rfl ?_
    refine XS.iloadN X3.here hx rfl (oh hby D45 13 rfl) rfl ?_
    show oS p e below T3 (mkF m 24 #[vR t1, vI 1, vR va, vI 42, vI 3, vI 1] [(.int 1), (.ref t1), (.int 41), (.ref va)]) _
    refine XS.iinc X3.here hx rfl (oh hby D45 14 rfl) rfl (l' := #[vR t1, vI ((1 : Int32) + (1 : Int32)), vR va, vI 42, vI 3, vI 1]) rfl ?_
    show oS p e below T3 (mkF m 27 #[vR t1, vI 2, vR va, vI 42, vI 3, vI 1] [(.int 1), (.ref t1), (.int 41), (.ref va)]) _
    refine X3.baloadBytes hx (j := (1 : Int32)) (v := (.int 46)) Ar6.1 (State.isArrayOf_alike hZ.alike Ar6.2.1) Ar6.2.2 ib6 (Hh6.at ib6 rfl) (g := (mkF m 27 #[vR t1, vI 2, vR va, vI 42, vI 3, vI 1] [(.int 1), (.ref t1), (.int 41), (.ref va)])) rfl rfl (oh hby D45 15 rfl) _ ?_
    show oS p e below T3 (mkF m 28 #[vR t1, vI 2, vR va, vI 42, vI 3, vI 1] [(.int 46), (.int 41), (.ref va)]) _
    refine XS.sipush X3.here hx rfl (oh hby D45 16 rfl) ?_
    refine XS.iand X3.here hx rfl (oh hby D45 17 rfl) rfl ?_
    refine st8 _ ?_
    show oS p e below T8 (mkF m 35 #[vR t1, vI 2, vR va, vI 42, vI 3, vI 1] []) _
    refine XS.iinc X8.here hx rfl (oh hby D45 19 rfl) rfl (l' := #[vR t1, vI 2, vR va, vI 42, vI 3, vI ((1 : Int32) + (1 : Int32))]) rfl ?_
    refine XS.goto X8.here hx rfl (pc0 := 38) (pc' := 10) rfl (oh hby D45 20 rfl) (by decide) (by decide) ?_
    refine XS.iload X8.here hx rfl (oh hby D45 6 rfl) rfl ?_
    refine XS.iload X8.here hx rfl (oh hby D45 7 rfl) rfl ?_
    refine XS.icmpNo X8.here hx rfl (oh hby D45 8 rfl) rfl (tlt ((by decide) : (2 : Int32) < (3 : Int32))).2.1 ?_
    show oS p e below T8 (mkF m 17 #[vR t1, vI 2, vR va, vI 42, vI 3, vI 2] []) _
    refine XS.aloadN X8.here hx rfl (oh hby D45 9 rfl) rfl rfl ?_
    refine XS.iloadN X8.here hx rfl (oh hby D45 10 rfl) rfl ?_
    refine XS.iinc X8.here hx rfl (oh hby D45 11 rfl) rfl (l' := #[vR t1, vI 2, vR va, vI ((42 : Int32) + (1 : Int32)), vI 3, vI 2]) rfl ?_
    refine XS.aloadN X8.here hx rfl (oh hby D45 12 rfl) rfl rfl ?_
    refine XS.iloadN X8.here hx rfl (oh hby D45 13 rfl) rfl ?_
    show oS p e below T8 (mkF m 24 #[vR t1, vI 2, vR va, vI 43, vI 3, vI 2] [(.int 2), (.ref t1), (.int 42), (.ref va)]) _
    refine XS.iinc X8.here hx rfl (oh hby D45 14 rfl) rfl (l' := #[vR t1, vI ((2 : Int32) + (1 : Int32)), vR va, vI 43, vI 3, vI 2]) rfl ?_
    show oS p e below T8 (mkF m 27 #[vR t1, vI 3, vR va, vI 43, vI 3, vI 2] [(.int 2), (.ref t1), (.int 42), (.ref va)]) _
    refine X8.baloadBytes hx (j := (2 : Int32)) (v := (.int 46)) Ar11.1 (State.isArrayOf_alike hZ.alike Ar11.2.1) Ar11.2.2 ib11 (Hh11.at ib11 rfl) (g := (mkF m 27 #[vR t1, vI 3, vR va, vI 43, vI 3, vI 2] [(.int 2), (.ref t1), (.int 42), (.ref va)])) rfl rfl (oh hby D45 15 rfl) _ ?_
    show oS p e below T8 (mkF m 28 #[vR t1, vI 3, vR va, vI 43, vI 3, vI 2] [(.int 46), (.int 42), (.ref va)]) _
    refine XS.sipush X8.here hx rfl (oh hby D45 16 rfl) ?_
    refine XS.iand X8.here hx rfl (oh hby D45 17 rfl) rfl ?_
    refine st13 _ ?_
    show oS p e below T13 (mkF m 35 #[vR t1, vI 3, vR va, vI 43, vI 3, vI 2] []) _
    refine XS.iinc X13.here hx rfl (oh hby D45 19 rfl) rfl (l' := #[vR t1, vI 3, vR va, vI 43, vI 3, vI ((2 : Int32) + (1 : Int32))]) rfl ?_
    refine XS.goto X13.here hx rfl (pc0 := 38) (pc' := 10) rfl (oh hby D45 20 rfl) (by decide) (by decide) ?_
    refine XS.iload X13.here hx rfl (oh hby D45 6 rfl) rfl ?_
    refine XS.iload X13.here hx rfl (oh hby D45 7 rfl) rfl ?_
    refine XS.icmpYes X13.here hx rfl (pc0 := 14) (pc' := 41) rfl (oh hby D45 8 rfl) rfl (flt ((by decide) : ¬ ((3 : Int32) < (3 : Int32)))).2.1 (by decide) (by decide) ?_
    show oS p e below T13 (mkF m 41 #[vR t1, vI 3, vR va, vI 43, vI 3, vI 3] []) _
    exact X13.returnOut hx Bd.returns (oh hby D45 21 rfl) hr
  · show Q_ui3 Z t1 k1 va ka ps fm h0 n0 _ T13.heap _
    exact ⟨rfl, N13, ((((Keep.refl h0 ([va] : List Addr)).trans K3 (allS (Or.inl (by simp)) all0)).trans K8 (allS (Or.inl (by simp)) all0)).trans K13 (allS (Or.inl (by simp)) all0)), R15⟩
def Q_li3 (Z : State) (t1 : Addr) (k1 : ClassId) (va : Addr) (ka : ClassId) (ps : List Int32) (fm : Value) (h0 : Heap) (n0 : Nat) (v : Option Value) (h : Heap) (L : List Loc) : Prop := (v = none) ∧ (Fr n0 L) ∧ (Keep h0 h ([va] : List Addr)) ∧ (Arv Z h va ka .byte (164 : Int32) (StrChars.Road.wideBytes (ps ++ own_dots) ++ (List.replicate 78 (Value.int 0))) (.int 0))
set_option maxRecDepth 65536 in
set_option maxHeartbeats 40000000 in
theorem rm_li3 (l : Launch) (Z : State) (a0 : Array Value) (hw : HW Z a0) (ws : List Jvm.Cond) (t1 : Addr) (k1 : ClassId) (va : Addr) (ka : ClassId) (ps : List Int32) (fm : Value) (h0 : Heap) (n0 : Nat) (Z0 : n0 ≤ h0.size) (q0 : sF Z fm) (hFM : fm.isRef = true) (q2 : sA Z) (q3 : sH Z) (q4 : sL Z) (q5 : Old Z n0 h0) (q6 : Arv Z h0 t1 k1 .byte (3 : Int32) [(.int 46), (.int 46), (.int 46)] (.int 0)) (q7 : Arv Z h0 va ka .byte (164 : Int32) (StrChars.Road.wideBytes ps ++ (List.replicate 84 (Value.int 0))) (.int 0)) (q8 : n0 ≤ va) (q9 : t1 ≠ va) (hpl : ps.length = 40) :
    mF l y_47 jdk_43_method_50_code 5 none ws (rmk 4 0 0 60) #[(.ref t1), (.int 0), (.ref va), (.int 40), (.int 3)] Z h0 (Q_li3 Z t1 k1 va ka ps fm h0 n0) := by
  refine MetFree.of_bodySF (plainFor_of_name pn_5) hisR ?_
  intro p e s m args below meth c s₁ Bd hml0 hP hK
  obtain ⟨rfl, hZ, hh⟩ := hP
  have hx := Bd.exec
  have hby := Bd.bytes
  have hml : c.maxLocals = 5 := hml0
  have hown : s.vm.findClass "java/lang/StringLatin1" = some m.cls := findClass_of_methodNamed Bd.named
  have hnm := (name_of_methodNamed Bd.named Bd.method).1
  have X0 : Stand p l e (rmk 4 0 0 60) s m #[(.ref t1), (.int 0), (.ref va), (.int 40), (.int 3)] below meth c s₁ [] 0 0 := Stand.of_body Bd
  have e0 : s₁.heap = h0 := by rw [← hh, Bd.state]; rfl
  have N0 := Fr.nil n0
  have pre0 : ∀ t, oS p e below s₁ (mkF m 0 #[vR t1, vI 0, vR va, vI 40, vI 3] []) t → oS p e below s₁ (entryFrame m #[(.ref t1), (.int 0), (.ref va), (.int 40), (.int 3)] 5) t := fun t k => castTop (ef_20 m t1 (0 : Int32) va (40 : Int32) (3 : Int32)) k
  obtain ⟨_, _, ⟨T1, L1, k1, n1⟩, -, X1, ⟨Lc1, hQ1, l1, y1, z1⟩, st1⟩ := Jvm.LawKit.callS X0 hx (y := y_46) hown (mvT hZ (ow hw 271 rfl)) (mvT hZ (ow hw 272 rfl)) (mvT hZ (ow hw 46 rfl)) (mvT hZ (ow hw 273 rfl)) (by decide) (backOf (W := 0) (rm_ui3 l Z a0 hw [] t1 k1 va ka ps fm h0 n0 Z0 q0 hFM q2 q3 q4 q5 q6 q7 q8 q9 hpl) hZ (ow hw 273 rfl) (ow hw 46 rfl) (by decide) (by decide)) (g := (mkF m 6 #[vR t1, vI 0, vR va, vI 40, vI 3] [(.int 3), (.int 40), (.ref va), (.int 0), (.ref t1)])) rfl (by rw [hml]; rfl) (argsL := [(.ref t1), (.int 0), (.ref va), (.int 40), (.int 3)]) (rest := []) (lenOf pd_25 rfl) rfl (by show 2 * 0 + _ ≤ _; exact Nat.le_of_eq rfl) (oh hby D46 5 rfl) (fun _ _ => ⟨rfl, e0, (by decide : 0 + 0 ≤ _), (by decide : 0 + 0 ≤ _)⟩)
  dsimp only [Pt.U, Pt.locs, Pt.cells, Pt.slots] at X1 l1 y1 z1 st1 hQ1
  subst l1 y1 z1
  obtain ⟨rfl, Nq1, K1, f1_0⟩ := hQ1
  have N1 := Fr.app N0 Nq1
  obtain ⟨fs, hr, hrun, hended, hW, hsame⟩ := X1.leave (v := none) (fun _ => rfl)
  refine ⟨_, _, pre0 _ ?_, hrun, hended, _, _, rfl, ?_, ⟨_, rfl⟩, hW, hsame.mono (by decide) (by decide)⟩
  · refine XS.aloadN X0.here hx rfl (oh hby D46 0 rfl) rfl rfl ?_
    refine XS.iloadN X0.here hx rfl (oh hby D46 1 rfl) rfl ?_
    refine XS.aloadN X0.here hx rfl (oh hby D46 2 rfl) rfl rfl ?_
    refine XS.iloadN X0.here hx rfl (oh hby D46 3 rfl) rfl ?_
    refine XS.iload X0.here hx rfl (oh hby D46 4 rfl) rfl ?_
    show oS p e below s₁ (mkF m 6 #[vR t1, vI 0, vR va, vI 40, vI 3] [(.int 3), (.int 40), (.ref va), (.int 0), (.ref t1)]) _
    refine st1 _ ?_
    show oS p e below T1 (mkF m 9 #[vR t1, vI 0, vR va, vI 40, vI 3] []) _
    exact X1.returnOut hx Bd.returns (oh hby D46 6 rfl) hr
  · show Q_li3 Z t1 k1 va ka ps fm h0 n0 _ T1.heap _
    exact ⟨rfl, N1, ((Keep.refl h0 ([va] : List Addr)).trans K1 (allS (Or.inl (by simp)) all0)), f1_0⟩
def Q_gb2W (Z : State) (xs : Addr) (t1 : Addr) (k1 : ClassId) (va : Addr) (ka : ClassId) (ps : List Int32) (G : Int32) (fm : Value) (h0 : Heap) (n0 : Nat) (v : Option Value) (h : Heap) (L : List Loc) : Prop := (v = none) ∧ (Fr n0 L) ∧ (Keep h0 h ([va] : List Addr)) ∧ (Arv Z h va ka .byte (164 : Int32) (StrChars.Road.wideBytes (ps ++ own_dots) ++ (List.replicate 78 (Value.int 0))) (.int 0))
set_option maxRecDepth 65536 in
set_option maxHeartbeats 40000000 in
theorem rm_gb2W (l : Launch) (Z : State) (a0 : Array Value) (hw : HW Z a0) (ws : List Jvm.Cond) (xs : Addr) (t1 : Addr) (k1 : ClassId) (va : Addr) (ka : ClassId) (ps : List Int32) (G : Int32) (fm : Value) (h0 : Heap) (n0 : Nat) (Z0 : n0 ≤ h0.size) (q0 : sC Z G) (hCS : ¬ (G = (0 : Int32))) (q2 : sF Z fm) (hFM : fm.isRef = true) (q4 : sA Z) (q5 : sH Z) (q6 : sL Z) (q7 : Old Z n0 h0) (q8 : eS Z h0 xs) (q9 : fV Z h0 xs (.ref t1)) (q10 : fC Z h0 xs (.int 0)) (q11 : Arv Z h0 t1 k1 .byte (3 : Int32) [(.int 46), (.int 46), (.int 46)] (.int 0)) (q12 : Arv Z h0 va ka .byte (164 : Int32) (StrChars.Road.wideBytes ps ++ (List.replicate 84 (Value.int 0))) (.int 0)) (q13 : n0 ≤ va) (q14 : t1 ≠ va) (hpl : ps.length = 40) :
    mF l y_50 jdk_42_method_147_code 4 none ws (rmk 5 0 0 76) #[(.ref xs), (.ref va), (.int 40), (.int 1)] Z h0 (Q_gb2W Z xs t1 k1 va ka ps G fm h0 n0) := by
  refine MetFree.of_bodySF (plainFor_of_name pn_1) hisR ?_
  intro p e s m args below meth c s₁ Bd hml0 hP hK
  obtain ⟨rfl, hZ, hh⟩ := hP
  have hx := Bd.exec
  have hby := Bd.bytes
  have hml : c.maxLocals = 4 := hml0
  have hown : s.vm.findClass "java/lang/String" = some m.cls := findClass_of_methodNamed Bd.named
  have hnm := (name_of_methodNamed Bd.named Bd.method).1
  have X0 : Stand p l e (rmk 5 0 0 76) s m #[(.ref xs), (.ref va), (.int 40), (.int 1)] below meth c s₁ [] 0 0 := Stand.of_body Bd
  have e0 : s₁.heap = h0 := by rw [← hh, Bd.state]; rfl
  have N0 := Fr.nil n0
  have pre0 : ∀ t, oS p e below s₁ (mkF m 0 #[vR xs, vR va, vI 40, vI 1] []) t → oS p e below s₁ (entryFrame m #[(.ref xs), (.ref va), (.int 40), (.int 1)] 4) t := fun t k => castTop (ef_22 m xs va (40 : Int32) (1 : Int32)) k
  obtain ⟨cq1, kq1, q1a, q1b, q1c⟩ := isOf hZ e0 q8
  obtain ⟨_, _, ⟨T1, L1, k1, n1⟩, -, X1, ⟨Lc1, hQ1, l1, y1, z1⟩, st1⟩ := X0.virtualBack hx (y := y_10) (z := y_10) hown (mvT hZ (ow hw 32 rfl)) (mvT hZ (ow hw 33 rfl)) (notFace_of_selects (args := #[]) (mvT hZ (ow hw 35 rfl))) (mvT hZ (ow hw 35 rfl)) (mvT hZ (ow hw 34 rfl)) (by decide) (backOf (W := 0) (rm_scod l Z a0 hw [] xs G (0 : Int32) h0 n0 Z0 q0 hCS q7 q10 (rfl)) hZ (ow hw 36 rfl) (ow hw 4 rfl) (by decide) (by decide)) q1a q1c (g := (mkF m 1 #[vR xs, vR va, vI 40, vI 1] [(.ref xs)])) rfl (by rw [hml]; rfl) (Steps.refl _) (argsL := []) (rest := []) (lenOf pd_26 rfl) rfl (by show 2 * 0 + _ ≤ _; exact Nat.le_of_eq rfl) (oh hby D49 1 rfl) (fun _ _ => ⟨rfl, e0, (by decide : 0 + 0 ≤ _), (by decide : 0 + 0 ≤ _)⟩)
  dsimp only [Pt.U, Pt.locs, Pt.cells, Pt.slots] at X1 l1 y1 z1 st1 hQ1
  subst l1 y1 z1
  obtain ⟨rfl, Nq1, e1⟩ := hQ1
  have N1 := Fr.app N0 Nq1
  obtain ⟨T2, X2, e2, st2⟩ := getF X1 hx hZ hown (host := "") (Or.inl (ow hw 21 rfl)) Via.refl e1 q9 (g := (mkF m 29 #[vR xs, vR va, vI 40, vI 1] [(.ref xs)])) rfl rfl (oh hby D49 17 rfl)
  obtain ⟨T3, X3, e3, st3⟩ := getF X2 hx hZ hown (host := "") (Or.inl (ow hw 21 rfl)) Via.refl e2 q9 (g := (mkF m 36 #[vR xs, vR va, vI 40, vI 1] [(.ref xs), (.int 40), (.ref va), (.int 0), (.ref t1)])) rfl rfl (oh hby D49 22 rfl)
  obtain ⟨cl4, Ar4, -, S4, M4, -, -⟩ := id q11
  obtain ⟨_, _, ⟨T5, L5, k5, n5⟩, -, X5, ⟨Lc5, hQ5, l5, y5, z5⟩, st5⟩ := Jvm.LawKit.callS X3 hx (y := y_47) hown (mvT hZ (ow hw 274 rfl)) (mvT hZ (ow hw 269 rfl)) (mvT hZ (ow hw 93 rfl)) (mvT hZ (ow hw 270 rfl)) (by decide) (backOf (W := 0) (rm_li3 l Z a0 hw [] t1 k1 va ka ps fm h0 n0 Z0 q2 hFM q4 q5 q6 q7 q11 q12 q13 q14 hpl) hZ (ow hw 270 rfl) (ow hw 93 rfl) (by decide) (by decide)) (g := (mkF m 40 #[vR xs, vR va, vI 40, vI 1] [(.int 3), (.int 40), (.ref va), (.int 0), (.ref t1)])) rfl (by rw [hml]; rfl) (argsL := [(.ref t1), (.int 0), (.ref va), (.int 40), (.int 3)]) (rest := []) (lenOf pd_25 rfl) rfl (by show 2 * 0 + _ ≤ _; exact Nat.le_of_eq rfl) (oh hby D49 24 rfl) (fun _ _ => ⟨rfl, e3, (by decide : 0 + 0 ≤ _), (by decide : 0 + 0 ≤ _)⟩)
  dsimp only [Pt.U, Pt.locs, Pt.cells, Pt.slots] at X5 l5 y5 z5 st5 hQ5
  subst l5 y5 z5
  obtain ⟨rfl, Nq5, K5, f5_0⟩ := hQ5
  have N5 := Fr.app N1 Nq5
  obtain ⟨fs, hr, hrun, hended, hW, hsame⟩ := X5.leave (v := none) (fun _ => rfl)
  refine ⟨_, _, pre0 _ ?_, hrun, hended, _, _, rfl, ?_, ⟨_, rfl⟩, hW, hsame.mono (by decide) (by decide)⟩
  · refine XS.aloadN X0.here hx rfl (oh hby D49 0 rfl) rfl rfl ?_
    refine st1.trans ?_
    show oS p e below T1 (mkF m 4 #[vR xs, vR va, vI 40, vI 1] [(.int 0)]) _
    refine XS.iloadN X1.here hx rfl (oh hby D49 2 rfl) rfl ?_
    refine XS.icmpYes X1.here hx rfl (pc0 := 5) (pc' := 28) rfl (oh hby D49 3 rfl) rfl (feq ((by decide) : ¬ ((0 : Int32) = (1 : Int32)))).2 (by decide) (by decide) ?_
    refine XS.aloadN X1.here hx rfl (oh hby D49 16 rfl) rfl rfl ?_
    refine st2 _ ?_
    show oS p e below T2 (mkF m 32 #[vR xs, vR va, vI 40, vI 1] [(.ref t1)]) _
    refine XS.iconst X2.here hx rfl (oh hby D49 18 rfl) ?_
    refine XS.aloadN X2.here hx rfl (oh hby D49 19 rfl) rfl rfl ?_
    refine XS.iloadN X2.here hx rfl (oh hby D49 20 rfl) rfl ?_
    refine XS.aloadN X2.here hx rfl (oh hby D49 21 rfl) rfl rfl ?_
    refine st3 _ ?_
    show oS p e below T3 (mkF m 39 #[vR xs, vR va, vI 40, vI 1] [(.ref t1), (.int 40), (.ref va), (.int 0), (.ref t1)]) _
    refine X3.arraylength hx (by rw [e3]; exact Ar4.1) (State.isArrayOf_alike hZ.alike Ar4.2.1) (g := (mkF m 39 #[vR xs, vR va, vI 40, vI 1] [(.ref t1), (.int 40), (.ref va), (.int 0), (.ref t1)])) rfl rfl (oh hby D49 23 rfl) _ ?_
    rw [len_of S4 M4]
    show oS p e below T3 (mkF m 40 #[vR xs, vR va, vI 40, vI 1] [(.int 3), (.int 40), (.ref va), (.int 0), (.ref t1)]) _
    refine st5 _ ?_
    show oS p e below T5 (mkF m 43 #[vR xs, vR va, vI 40, vI 1] []) _
    exact X5.returnOut hx Bd.returns (oh hby D49 25 rfl) hr
  · show Q_gb2W Z xs t1 k1 va ka ps G fm h0 n0 _ T5.heap _
    exact ⟨rfl, N5, ((Keep.refl h0 ([va] : List Addr)).trans K5 (allS (Or.inl (by simp)) all0)), f5_0⟩
theorem pd_28 : parseMethodDescriptor "(Ljava/lang/String;)V" = some ⟨[(.object "java/lang/String")], none⟩ := by decide +kernel
theorem pd_29 : parseMethodDescriptor "([BIB)V" = some ⟨[(.array .byte), .int, .byte], none⟩ := by decide +kernel
theorem ef_23 (m : MethodId) (x0 : Addr) (x1 : Int32) (x2 : Addr) : entryFrame m #[(.ref x0), (.int x1), (.ref x2)] 3 = mkF m 0 #[vR x0, vI x1, vR x2] [] := by first | (simp [entryFrame, mkF, argsToLocals, Value.category]; done) | rfl
def Q_ps1L (Z : State) (xb : Addr) (xs : Addr) (t1 : Addr) (k1 : ClassId) (va : Addr) (ka : ClassId) (ps : List Int32) (G : Int32) (fm : Value) (h0 : Heap) (n0 : Nat) (v : Option Value) (h : Heap) (L : List Loc) : Prop := (v = none) ∧ (Fr n0 L) ∧ (Keep h0 h ([va] : List Addr)) ∧ (Arv Z h va ka .byte (40 : Int32) (own_bs ps) (.int 0))
set_option maxRecDepth 65536 in
set_option maxHeartbeats 40000000 in
theorem rm_ps1L (l : Launch) (Z : State) (a0 : Array Value) (hw : HW Z a0) (ws : List Jvm.Cond) (xb : Addr) (xs : Addr) (t1 : Addr) (k1 : ClassId) (va : Addr) (ka : ClassId) (ps : List Int32) (G : Int32) (fm : Value) (h0 : Heap) (n0 : Nat) (Z0 : n0 ≤ h0.size) (q0 : sC Z G) (hCS : ¬ (G = (0 : Int32))) (q2 : sF Z fm) (hFM : fm.isRef = true) (q4 : sA Z) (q5 : sH Z) (q6 : sL Z) (q7 : Old Z n0 h0) (q8 : eS Z h0 xs) (q9 : fV Z h0 xs (.ref t1)) (q10 : fC Z h0 xs (.int 0)) (q11 : Arv Z h0 t1 k1 .byte (40 : Int32) (own_bs ps) (.int 0)) (q12 : Exa Z h0 xb "java/lang/StringBuilder") (q13 : fB Z h0 xb "value" "[B" (.ref va)) (q14 : fB Z h0 xb "coder" "B" (.int 0)) (q15 : fB Z h0 xb "count" "I" (.int 0)) (q16 : fB Z h0 xb "maybeLatin1" "Z" (.int 0)) (q17 : Arv Z h0 va ka .byte (40 : Int32) (List.replicate 40 (Value.int 0)) (.int 0)) (q18 : n0 ≤ xb) (q19 : va ≠ xb) (q20 : t1 ≠ va) (q21 : xs ≠ xb) (q22 : xs ≠ va) (q23 : t1 ≠ xb) (q24 : n0 ≤ va) (hpl : ps.length = 40) :
    mF l y_51 jdk_68_method_73_code 3 none ws (rmk 2 0 0 33) #[(.ref xb), (.int 0), (.ref xs)] Z h0 (Q_ps1L Z xb xs t1 k1 va ka ps G fm h0 n0) := by
  refine MetFree.of_bodySF (plainFor_of_name pn_2) hisR ?_
  intro p e s m args below meth c s₁ Bd hml0 hP hK
  obtain ⟨rfl, hZ, hh⟩ := hP
  have hx := Bd.exec
  have hby := Bd.bytes
  have hml : c.maxLocals = 3 := hml0
  have hown : s.vm.findClass "java/lang/AbstractStringBuilder" = some m.cls := findClass_of_methodNamed Bd.named
  have hnm := (name_of_methodNamed Bd.named Bd.method).1
  have X0 : Stand p l e (rmk 2 0 0 33) s m #[(.ref xb), (.int 0), (.ref xs)] below meth c s₁ [] 0 0 := Stand.of_body Bd
  have e0 : s₁.heap = h0 := by rw [← hh, Bd.state]; rfl
  have N0 := Fr.nil n0
  have pre0 : ∀ t, oS p e below s₁ (mkF m 0 #[vR xb, vI 0, vR xs] []) t → oS p e below s₁ (entryFrame m #[(.ref xb), (.int 0), (.ref xs)] 3) t := fun t k => castTop (ef_23 m xb (0 : Int32) xs) k
  obtain ⟨cq1, q1_, q1_'⟩ := q12.cell
  obtain ⟨_, _, ⟨T1, L1, k1, n1⟩, -, X1, ⟨Lc1, hQ1, l1, y1, z1⟩, st1⟩ := X0.privateBack hx (y := y_49) hown (mvT hZ (ow hw 157 rfl)) (mvT hZ (ow hw 158 rfl)) (own_selpriv (by decide) (mvT hZ (ow hw 160 rfl)) (mvP hZ (ow hw 159 rfl)) (mvT hZ (ow hw 158 rfl))) (Cond.privateMethod_at (mvP hZ (ow hw 159 rfl) (args := #[]))) (mvT hZ (ow hw 161 rfl)) (by decide) (backOf (W := 0) (rm_ifL l Z a0 hw [] xb xs G h0 n0 Z0 q0 hCS q7 q8 q14 q10) hZ (ow hw 161 rfl) (ow hw 64 rfl) (by decide) (by decide)) (g := (mkF m 2 #[vR xb, vI 0, vR xs] [(.ref xs), (.ref xb)])) rfl (by rw [hml]; rfl) (Steps.refl _) (a := xb) (by rw [e0]; exact q1_) q1_' (argsL := [(.ref xs)]) (rest := []) (lenOf pd_28 rfl) rfl (by show 2 * 0 + _ ≤ _; exact Nat.le_of_eq rfl) (oh hby D50 2 rfl) (fun _ _ => ⟨rfl, e0, (by decide : 0 + 0 ≤ _), (by decide : 0 + 0 ≤ _)⟩)
  dsimp only [Pt.U, Pt.locs, Pt.cells, Pt.slots] at X1 l1 y1 z1 st1 hQ1
  subst l1 y1 z1
  obtain ⟨rfl, Nq1, e1⟩ := hQ1
  have N1 := Fr.app N0 Nq1
  obtain ⟨T2, X2, e2, st2⟩ := getF X1 hx hZ hown (host := "") (Or.inl (ow hw 68 rfl)) Via.refl e1 q13 (g := (mkF m 7 #[vR xb, vI 0, vR xs] [(.ref xb), (.ref xs)])) rfl rfl (oh hby D50 5 rfl)
  obtain ⟨T3, X3, e3, st3⟩ := getF X2 hx hZ hown (host := "") (Or.inl (ow hw 70 rfl)) Via.refl e2 q14 (g := (mkF m 12 #[vR xb, vI 0, vR xs] [(.ref xb), (.int 0), (.ref va), (.ref xs)])) rfl rfl (oh hby D50 8 rfl)
  obtain ⟨cq4, kq4, q4a, q4b, q4c⟩ := isOf hZ e3 q8
  obtain ⟨_, _, ⟨T4, L4, k4, n4⟩, -, X4, ⟨Lc4, hQ4, l4, y4, z4⟩, st4⟩ := X3.virtualBack hx (y := y_50) (z := y_50) hown (mvT hZ (ow hw 163 rfl)) (mvT hZ (ow hw 164 rfl)) (notFace_of_selects (args := #[]) (mvT hZ (ow hw 166 rfl))) (mvT hZ (ow hw 166 rfl)) (mvT hZ (ow hw 165 rfl)) (by decide) (backOf (W := 0) (rm_gb1L l Z a0 hw [] xs t1 k1 va ka ps (List.replicate 40 (Value.int 0)) G h0 n0 Z0 q0 hCS q7 q8 q9 q10 q11 q17 q24 q20 hpl (rfl)) hZ (ow hw 167 rfl) (ow hw 4 rfl) (by decide) (by decide)) q4a q4c (g := (mkF m 15 #[vR xb, vI 0, vR xs] [(.int 0), (.int 0), (.ref va), (.ref xs)])) rfl (by rw [hml]; rfl) (Steps.refl _) (argsL := [(.ref va), (.int 0), (.int 0)]) (rest := []) (lenOf pd_29 rfl) rfl (by show 2 * 0 + _ ≤ _; exact Nat.le_of_eq rfl) (oh hby D50 9 rfl) (fun _ _ => ⟨rfl, e3, (by decide : 0 + 0 ≤ _), (by decide : 0 + 0 ≤ _)⟩)
  dsimp only [Pt.U, Pt.locs, Pt.cells, Pt.slots] at X4 l4 y4 z4 st4 hQ4
  subst l4 y4 z4
  obtain ⟨rfl, Nq4, K4, f4_0⟩ := hQ4
  have N4 := Fr.app N1 Nq4
  obtain ⟨fs, hr, hrun, hended, hW, hsame⟩ := X4.leave (v := none) (fun _ => rfl)
  refine ⟨_, _, pre0 _ ?_, hrun, hended, _, _, rfl, ?_, ⟨_, rfl⟩, hW, hsame.mono (by decide) (by decide)⟩
  · refine XS.aloadN X0.here hx rfl (oh hby D50 0 rfl) rfl rfl ?_
    refine XS.aloadN X0.here hx rfl (oh hby D50 1 rfl) rfl rfl ?_
    refine st1.trans ?_
    show oS p e below T1 (mkF m 5 #[vR xb, vI 0, vR xs] []) _
    refine XS.aloadN X1.here hx rfl (oh hby D50 3 rfl) rfl rfl ?_
    refine XS.aloadN X1.here hx rfl (oh hby D50 4 rfl) rfl rfl ?_
    refine st2 _ ?_
    show oS p e below T2 (mkF m 10 #[vR xb, vI 0, vR xs] [(.ref va), (.ref xs)]) _
    refine XS.iloadN X2.here hx rfl (oh hby D50 6 rfl) rfl ?_
    refine XS.aloadN X2.here hx rfl (oh hby D50 7 rfl) rfl rfl ?_
    refine st3 _ ?_
    show oS p e below T3 (mkF m 15 #[vR xb, vI 0, vR xs] [(.int 0), (.int 0), (.ref va), (.ref xs)]) _
    refine st4.trans ?_
    show oS p e below T4 (mkF m 18 #[vR xb, vI 0, vR xs] []) _
    exact X4.returnOut hx Bd.returns (oh hby D50 10 rfl) hr
  · show Q_ps1L Z xb xs t1 k1 va ka ps G fm h0 n0 _ T4.heap _
    exact ⟨rfl, N4, ((Keep.refl h0 ([va] : List Addr)).trans K4 (allS (Or.inl (by simp)) all0)), f4_0⟩
def Q_ps1W (Z : State) (xb : Addr) (xs : Addr) (t1 : Addr) (k1 : ClassId) (va : Addr) (ka : ClassId) (ps : List Int32) (G : Int32) (fm : Value) (h0 : Heap) (n0 : Nat) (v : Option Value) (h : Heap) (L : List Loc) : Prop := ∃ (vb : Addr) (kb : ClassId), (v = none) ∧ (Fr n0 L) ∧ (Keep h0 h ([xb] : List Addr)) ∧ (fB Z h xb "value" "[B" (.ref vb)) ∧ (fB Z h xb "coder" "B" (.int 1)) ∧ (fB Z h xb "count" "I" (.int 0)) ∧ (fB Z h xb "maybeLatin1" "Z" (.int 0)) ∧ (h0.size ≤ vb) ∧ (Arv Z h vb kb .byte (80 : Int32) (StrChars.Road.wideBytes ps) (.int 0))
set_option maxRecDepth 65536 in
set_option maxHeartbeats 40000000 in
theorem rm_ps1W (l : Launch) (Z : State) (a0 : Array Value) (hw : HW Z a0) (ws : List Jvm.Cond) (xb : Addr) (xs : Addr) (t1 : Addr) (k1 : ClassId) (va : Addr) (ka : ClassId) (ps : List Int32) (G : Int32) (fm : Value) (h0 : Heap) (n0 : Nat) (Z0 : n0 ≤ h0.size) (q0 : sC Z G) (hCS : ¬ (G = (0 : Int32))) (q2 : sF Z fm) (hFM : fm.isRef = true) (q4 : sA Z) (q5 : sH Z) (q6 : sL Z) (q7 : Old Z n0 h0) (q8 : eS Z h0 xs) (q9 : fV Z h0 xs (.ref t1)) (q10 : fC Z h0 xs (.int 1)) (q11 : Arv Z h0 t1 k1 .byte (80 : Int32) (StrChars.Road.wideBytes ps) (.int 0)) (q12 : Exa Z h0 xb "java/lang/StringBuilder") (q13 : fB Z h0 xb "value" "[B" (.ref va)) (q14 : fB Z h0 xb "coder" "B" (.int 0)) (q15 : fB Z h0 xb "count" "I" (.int 0)) (q16 : fB Z h0 xb "maybeLatin1" "Z" (.int 0)) (q17 : Arv Z h0 va ka .byte (40 : Int32) (List.replicate 40 (Value.int 0)) (.int 0)) (q18 : n0 ≤ xb) (q19 : va ≠ xb) (q20 : t1 ≠ va) (q21 : xs ≠ xb) (q22 : xs ≠ va) (q23 : t1 ≠ xb) (hpl : ps.length = 40) :
    mF l y_51 jdk_68_method_73_code 3 none ws (rmk 7 1 88 102) #[(.ref xb), (.int 0), (.ref xs)] Z h0 (Q_ps1W Z xb xs t1 k1 va ka ps G fm h0 n0) := by
  refine MetFree.of_bodySF (plainFor_of_name pn_2) hisR ?_
  intro p e s m args below meth c s₁ Bd hml0 hP hK
  obtain ⟨rfl, hZ, hh⟩ := hP
  have hx := Bd.exec
  have hby := Bd.bytes
  have hml : c.maxLocals = 3 := hml0
  have hown : s.vm.findClass "java/lang/AbstractStringBuilder" = some m.cls := findClass_of_methodNamed Bd.named
  have hnm := (name_of_methodNamed Bd.named Bd.method).1
  have X0 : Stand p l e (rmk 7 1 88 102) s m #[(.ref xb), (.int 0), (.ref xs)] below meth c s₁ [] 0 0 := Stand.of_body Bd
  have e0 : s₁.heap = h0 := by rw [← hh, Bd.state]; rfl
  have N0 := Fr.nil n0
  have pre0 : ∀ t, oS p e below s₁ (mkF m 0 #[vR xb, vI 0, vR xs] []) t → oS p e below s₁ (entryFrame m #[(.ref xb), (.int 0), (.ref xs)] 3) t := fun t k => castTop (ef_23 m xb (0 : Int32) xs) k
  obtain ⟨cq1, q1_, q1_'⟩ := q12.cell
  obtain ⟨_, _, ⟨T1, L1, k1, n1⟩, -, X1, ⟨Lc1, hQ1, l1, y1, z1⟩, st1⟩ := X0.privateBack hx (y := y_49) hown (mvT hZ (ow hw 157 rfl)) (mvT hZ (ow hw 158 rfl)) (own_selpriv (by decide) (mvT hZ (ow hw 160 rfl)) (mvP hZ (ow hw 159 rfl)) (mvT hZ (ow hw 158 rfl))) (Cond.privateMethod_at (mvP hZ (ow hw 159 rfl) (args := #[]))) (mvT hZ (ow hw 161 rfl)) (by decide) (backOf (W := 0) (rm_ifW1 l Z a0 hw [] xb xs va ka (List.replicate 40 (Value.int 0)) G fm h0 n0 Z0 q0 hCS q2 hFM q4 q5 q6 q7 q12 q18 q8 q10 q13 q14 q15 q16 q17 q19) hZ (ow hw 161 rfl) (ow hw 64 rfl) (by decide) (by decide)) (g := (mkF m 2 #[vR xb, vI 0, vR xs] [(.ref xs), (.ref xb)])) rfl (by rw [hml]; rfl) (Steps.refl _) (a := xb) (by rw [e0]; exact q1_) q1_' (argsL := [(.ref xs)]) (rest := []) (lenOf pd_28 rfl) rfl (by show 2 * 0 + _ ≤ _; exact Nat.le_of_eq rfl) (oh hby D50 2 rfl) (fun _ _ => ⟨rfl, e0, (by decide : 0 + 1 ≤ _), (by decide : 0 + 88 ≤ _)⟩)
  dsimp only [Pt.U, Pt.locs, Pt.cells, Pt.slots] at X1 l1 y1 z1 st1 hQ1
  subst l1 y1 z1
  obtain ⟨vb_1, kb_1, rfl, Nq1, K1, f1_0, f1_1, f1_2, f1_3, f1_4, f1_5⟩ := hQ1
  have N1 := Fr.app N0 Nq1
  obtain ⟨T2, X2, e2, st2⟩ := getF X1 hx hZ hown (host := "") (Or.inl (ow hw 68 rfl)) Via.refl rfl f1_0 (g := (mkF m 7 #[vR xb, vI 0, vR xs] [(.ref xb), (.ref xs)])) rfl rfl (oh hby D50 5 rfl)
  obtain ⟨T3, X3, e3, st3⟩ := getF X2 hx hZ hown (host := "") (Or.inl (ow hw 70 rfl)) Via.refl e2 f1_1 (g := (mkF m 12 #[vR xb, vI 0, vR xs] [(.ref xb), (.int 0), (.ref vb_1), (.ref xs)])) rfl rfl (oh hby D50 8 rfl)
  have c4 := (q8.keep K1)
  have c5 := (q7.keep K1 (allS q18 all0))
  have c6 := (q9.keep K1 (ninS q21 nin0))
  have c7 := (q10.keep K1 (ninS q21 nin0))
  have c8 := (q11.keep K1 (ninS q23 nin0))
  have ge9 : n0 ≤ vb_1 := Nat.le_trans Z0 (Nat.le_trans (Nat.le_refl _) f1_4)
  have ne10 : t1 ≠ vb_1 := Nat.ne_of_lt (Nat.lt_of_lt_of_le q11.lt f1_4)
  obtain ⟨cq11, kq11, q11a, q11b, q11c⟩ := isOf hZ e3 c4
  obtain ⟨_, _, ⟨T11, L11, k11, n11⟩, -, X11, ⟨Lc11, hQ11, l11, y11, z11⟩, st11⟩ := X3.virtualBack hx (y := y_50) (z := y_50) hown (mvT hZ (ow hw 163 rfl)) (mvT hZ (ow hw 164 rfl)) (notFace_of_selects (args := #[]) (mvT hZ (ow hw 166 rfl))) (mvT hZ (ow hw 166 rfl)) (mvT hZ (ow hw 165 rfl)) (by decide) (backOf (W := 0) (rm_gb1W l Z a0 hw [] xs t1 k1 vb_1 kb_1 ps (List.replicate 80 (Value.int 0)) G T1.heap n0 (Nat.le_trans Z0 K1.1) q0 hCS c5 c4 c6 c7 c8 f1_5 ge9 ne10 hpl (rfl)) hZ (ow hw 167 rfl) (ow hw 4 rfl) (by decide) (by decide)) q11a q11c (g := (mkF m 15 #[vR xb, vI 0, vR xs] [(.int 1), (.int 0), (.ref vb_1), (.ref xs)])) rfl (by rw [hml]; rfl) (Steps.refl _) (argsL := [(.ref vb_1), (.int 0), (.int 1)]) (rest := []) (lenOf pd_29 rfl) rfl (by show 2 * 0 + _ ≤ _; exact Nat.le_of_eq rfl) (oh hby D50 9 rfl) (fun _ _ => ⟨rfl, e3, (by decide : 1 + 0 ≤ _), (by decide : 88 + 0 ≤ _)⟩)
  dsimp only [Pt.U, Pt.locs, Pt.cells, Pt.slots] at X11 l11 y11 z11 st11 hQ11
  subst l11 y11 z11
  obtain ⟨rfl, Nq11, K11, f11_0⟩ := hQ11
  have N11 := Fr.app N1 Nq11
  have ne12 : xb ≠ vb_1 := Nat.ne_of_lt (Nat.lt_of_lt_of_le q12.lt f1_4)
  have c13 := (f1_0.keep K11 (ninS ne12 nin0))
  have c14 := (f1_1.keep K11 (ninS ne12 nin0))
  have c15 := (f1_2.keep K11 (ninS ne12 nin0))
  have c16 := (f1_3.keep K11 (ninS ne12 nin0))
  obtain ⟨fs, hr, hrun, hended, hW, hsame⟩ := X11.leave (v := none) (fun _ => rfl)
  refine ⟨_, _, pre0 _ ?_, hrun, hended, _, _, rfl, ?_, ⟨_, rfl⟩, hW, hsame.mono (by decide) (by decide)⟩
  · refine XS.aloadN X0.here hx rfl (oh hby D50 0 rfl) rfl rfl ?_
    refine XS.aloadN X0.here hx rfl (oh hby D50 1 rfl) rfl rfl ?_
    refine st1.trans ?_
    show oS p e below T1 (mkF m 5 #[vR xb, vI 0, vR xs] []) _
    refine XS.aloadN X1.here hx rfl (oh hby D50 3 rfl) rfl rfl ?_
    refine XS.aloadN X1.here hx rfl (oh hby D50 4 rfl) rfl rfl ?_
    refine st2 _ ?_
    show oS p e below T2 (mkF m 10 #[vR xb, vI 0, vR xs] [(.ref vb_1), (.ref xs)]) _
    refine XS.iloadN X2.here hx rfl (oh hby D50 6 rfl) rfl ?_
    refine XS.aloadN X2.here hx rfl (oh hby D50 7 rfl) rfl rfl ?_
    refine st3 _ ?_
    show oS p e below T3 (mkF m 15 #[vR xb, vI 0, vR xs] [(.int 1), (.int 0), (.ref vb_1), (.ref xs)]) _
    refine st11.trans ?_
    show oS p e below T11 (mkF m 18 #[vR xb, vI 0, vR xs] []) _
    exact X11.returnOut hx Bd.returns (oh hby D50 10 rfl) hr
  · show Q_ps1W Z xb xs t1 k1 va ka ps G fm h0 n0 _ T11.heap _
    exact ⟨vb_1, kb_1, rfl, N11, (((Keep.refl h0 ([xb] : List Addr)).trans K1 (allS (Or.inl (by simp)) all0)).trans K11 (allS (Or.inr (Nat.le_trans (Nat.le_refl _) f1_4)) all0)), c13, c14, c15, c16, (Nat.le_trans (Nat.le_refl _) f1_4), f11_0⟩
def Q_ps2L (Z : State) (xb : Addr) (xs : Addr) (t1 : Addr) (k1 : ClassId) (va : Addr) (ka : ClassId) (ps : List Int32) (G : Int32) (fm : Value) (h0 : Heap) (n0 : Nat) (v : Option Value) (h : Heap) (L : List Loc) : Prop := (v = none) ∧ (Fr n0 L) ∧ (Keep h0 h ([va] : List Addr)) ∧ (Arv Z h va ka .byte (82 : Int32) ((own_bs ps ++ (List.replicate 42 (Value.int 0))).take 40 ++ own_bs own_dots ++ (own_bs ps ++ (List.replicate 42 (Value.int 0))).drop 43) (.int 0))
set_option maxRecDepth 65536 in
set_option maxHeartbeats 40000000 in
theorem rm_ps2L (l : Launch) (Z : State) (a0 : Array Value) (hw : HW Z a0) (ws : List Jvm.Cond) (xb : Addr) (xs : Addr) (t1 : Addr) (k1 : ClassId) (va : Addr) (ka : ClassId) (ps : List Int32) (G : Int32) (fm : Value) (h0 : Heap) (n0 : Nat) (Z0 : n0 ≤ h0.size) (q0 : sC Z G) (hCS : ¬ (G = (0 : Int32))) (q2 : sF Z fm) (hFM : fm.isRef = true) (q4 : sA Z) (q5 : sH Z) (q6 : sL Z) (q7 : Old Z n0 h0) (q8 : eS Z h0 xs) (q9 : fV Z h0 xs (.ref t1)) (q10 : fC Z h0 xs (.int 0)) (q11 : Arv Z h0 t1 k1 .byte (3 : Int32) [(.int 46), (.int 46), (.int 46)] (.int 0)) (q12 : Exa Z h0 xb "java/lang/StringBuilder") (q13 : fB Z h0 xb "value" "[B" (.ref va)) (q14 : fB Z h0 xb "coder" "B" (.int 0)) (q15 : fB Z h0 xb "count" "I" (.int 40)) (q16 : fB Z h0 xb "maybeLatin1" "Z" (.int 0)) (q17 : Arv Z h0 va ka .byte (82 : Int32) (own_bs ps ++ (List.replicate 42 (Value.int 0))) (.int 0)) (q18 : n0 ≤ xb) (q19 : va ≠ xb) (q20 : t1 ≠ va) (q21 : xs ≠ xb) (q22 : xs ≠ va) (q23 : t1 ≠ xb) (q24 : n0 ≤ va) (hpl : ps.length = 40) :
    mF l y_51 jdk_68_method_73_code 3 none ws (rmk 2 0 0 33) #[(.ref xb), (.int 40), (.ref xs)] Z h0 (Q_ps2L Z xb xs t1 k1 va ka ps G fm h0 n0) := by
  refine MetFree.of_bodySF (plainFor_of_name pn_2) hisR ?_
  intro p e s m args below meth c s₁ Bd hml0 hP hK
  obtain ⟨rfl, hZ, hh⟩ := hP
  have hx := Bd.exec
  have hby := Bd.bytes
  have hml : c.maxLocals = 3 := hml0
  have hown : s.vm.findClass "java/lang/AbstractStringBuilder" = some m.cls := findClass_of_methodNamed Bd.named
  have hnm := (name_of_methodNamed Bd.named Bd.method).1
  have X0 : Stand p l e (rmk 2 0 0 33) s m #[(.ref xb), (.int 40), (.ref xs)] below meth c s₁ [] 0 0 := Stand.of_body Bd
  have e0 : s₁.heap = h0 := by rw [← hh, Bd.state]; rfl
  have N0 := Fr.nil n0
  have pre0 : ∀ t, oS p e below s₁ (mkF m 0 #[vR xb, vI 40, vR xs] []) t → oS p e below s₁ (entryFrame m #[(.ref xb), (.int 40), (.ref xs)] 3) t := fun t k => castTop (ef_23 m xb (40 : Int32) xs) k
  obtain ⟨cq1, q1_, q1_'⟩ := q12.cell
  obtain ⟨_, _, ⟨T1, L1, k1, n1⟩, -, X1, ⟨Lc1, hQ1, l1, y1, z1⟩, st1⟩ := X0.privateBack hx (y := y_49) hown (mvT hZ (ow hw 157 rfl)) (mvT hZ (ow hw 158 rfl)) (own_selpriv (by decide) (mvT hZ (ow hw 160 rfl)) (mvP hZ (ow hw 159 rfl)) (mvT hZ (ow hw 158 rfl))) (Cond.privateMethod_at (mvP hZ (ow hw 159 rfl) (args := #[]))) (mvT hZ (ow hw 161 rfl)) (by decide) (backOf (W := 0) (rm_ifL l Z a0 hw [] xb xs G h0 n0 Z0 q0 hCS q7 q8 q14 q10) hZ (ow hw 161 rfl) (ow hw 64 rfl) (by decide) (by decide)) (g := (mkF m 2 #[vR xb, vI 40, vR xs] [(.ref xs), (.ref xb)])) rfl (by rw [hml]; rfl) (Steps.refl _) (a := xb) (by rw [e0]; exact q1_) q1_' (argsL := [(.ref xs)]) (rest := []) (lenOf pd_28 rfl) rfl (by show 2 * 0 + _ ≤ _; exact Nat.le_of_eq rfl) (oh hby D50 2 rfl) (fun _ _ => ⟨rfl, e0, (by decide : 0 + 0 ≤ _), (by decide : 0 + 0 ≤ _)⟩)
  dsimp only [Pt.U, Pt.locs, Pt.cells, Pt.slots] at X1 l1 y1 z1 st1 hQ1
  subst l1 y1 z1
  obtain ⟨rfl, Nq1, e1⟩ := hQ1
  have N1 := Fr.app N0 Nq1
  obtain ⟨T2, X2, e2, st2⟩ := getF X1 hx hZ hown (host := "") (Or.inl (ow hw 68 rfl)) Via.refl e1 q13 (g := (mkF m 7 #[vR xb, vI 40, vR xs] [(.ref xb), (.ref xs)])) rfl rfl (oh hby D50 5 rfl)
  obtain ⟨T3, X3, e3, st3⟩ := getF X2 hx hZ hown (host := "") (Or.inl (ow hw 70 rfl)) Via.refl e2 q14 (g := (mkF m 12 #[vR xb, vI 40, vR xs] [(.ref xb), (.int 40), (.ref va), (.ref xs)])) rfl rfl (oh hby D50 8 rfl)
  obtain ⟨cq4, kq4, q4a, q4b, q4c⟩ := isOf hZ e3 q8
  obtain ⟨_, _, ⟨T4, L4, k4, n4⟩, -, X4, ⟨Lc4, hQ4, l4, y4, z4⟩, st4⟩ := X3.virtualBack hx (y := y_50) (z := y_50) hown (mvT hZ (ow hw 163 rfl)) (mvT hZ (ow hw 164 rfl)) (notFace_of_selects (args := #[]) (mvT hZ (ow hw 166 rfl))) (mvT hZ (ow hw 166 rfl)) (mvT hZ (ow hw 165 rfl)) (by decide) (backOf (W := 0) (rm_gb2L l Z a0 hw [] xs t1 k1 va ka ps G h0 n0 Z0 q0 hCS q7 q8 q9 q10 q11 q17 q24 q20 hpl) hZ (ow hw 167 rfl) (ow hw 4 rfl) (by decide) (by decide)) q4a q4c (g := (mkF m 15 #[vR xb, vI 40, vR xs] [(.int 0), (.int 40), (.ref va), (.ref xs)])) rfl (by rw [hml]; rfl) (Steps.refl _) (argsL := [(.ref va), (.int 40), (.int 0)]) (rest := []) (lenOf pd_29 rfl) rfl (by show 2 * 0 + _ ≤ _; exact Nat.le_of_eq rfl) (oh hby D50 9 rfl) (fun _ _ => ⟨rfl, e3, (by decide : 0 + 0 ≤ _), (by decide : 0 + 0 ≤ _)⟩)
  dsimp only [Pt.U, Pt.locs, Pt.cells, Pt.slots] at X4 l4 y4 z4 st4 hQ4
  subst l4 y4 z4
  obtain ⟨rfl, Nq4, K4, f4_0⟩ := hQ4
  have N4 := Fr.app N1 Nq4
  obtain ⟨fs, hr, hrun, hended, hW, hsame⟩ := X4.leave (v := none) (fun _ => rfl)
  refine ⟨_, _, pre0 _ ?_, hrun, hended, _, _, rfl, ?_, ⟨_, rfl⟩, hW, hsame.mono (by decide) (by decide)⟩
  · refine XS.aloadN X0.here hx rfl (oh hby D50 0 rfl) rfl rfl ?_
    refine XS.aloadN X0.here hx rfl (oh hby D50 1 rfl) rfl rfl ?_
    refine st1.trans ?_
    show oS p e below T1 (mkF m 5 #[vR xb, vI 40, vR xs] []) _
    refine XS.aloadN X1.here hx rfl (oh hby D50 3 rfl) rfl rfl ?_
    refine XS.aloadN X1.here hx rfl (oh hby D50 4 rfl) rfl rfl ?_
    refine st2 _ ?_
    show oS p e below T2 (mkF m 10 #[vR xb, vI 40, vR xs] [(.ref va), (.ref xs)]) _
    refine XS.iloadN X2.here hx rfl (oh hby D50 6 rfl) rfl ?_
    refine XS.aloadN X2.here hx rfl (oh hby D50 7 rfl) rfl rfl ?_
    refine st3 _ ?_
    show oS p e below T3 (mkF m 15 #[vR xb, vI 40, vR xs] [(.int 0), (.int 40), (.ref va), (.ref xs)]) _
    refine st4.trans ?_
    show oS p e below T4 (mkF m 18 #[vR xb, vI 40, vR xs] []) _
    exact X4.returnOut hx Bd.returns (oh hby D50 10 rfl) hr
  · show Q_ps2L Z xb xs t1 k1 va ka ps G fm h0 n0 _ T4.heap _
    exact ⟨rfl, N4, ((Keep.refl h0 ([va] : List Addr)).trans K4 (allS (Or.inl (by simp)) all0)), f4_0⟩
def Q_ps2W (Z : State) (xb : Addr) (xs : Addr) (t1 : Addr) (k1 : ClassId) (va : Addr) (ka : ClassId) (ps : List Int32) (G : Int32) (fm : Value) (h0 : Heap) (n0 : Nat) (v : Option Value) (h : Heap) (L : List Loc) : Prop := (v = none) ∧ (Fr n0 L) ∧ (Keep h0 h ([va] : List Addr)) ∧ (Arv Z h va ka .byte (164 : Int32) (StrChars.Road.wideBytes (ps ++ own_dots) ++ (List.replicate 78 (Value.int 0))) (.int 0))
set_option maxRecDepth 65536 in
set_option maxHeartbeats 40000000 in
theorem rm_ps2W (l : Launch) (Z : State) (a0 : Array Value) (hw : HW Z a0) (ws : List Jvm.Cond) (xb : Addr) (xs : Addr) (t1 : Addr) (k1 : ClassId) (va : Addr) (ka : ClassId) (ps : List Int32) (G : Int32) (fm : Value) (h0 : Heap) (n0 : Nat) (Z0 : n0 ≤ h0.size) (q0 : sC Z G) (hCS : ¬ (G = (0 : Int32))) (q2 : sF Z fm) (hFM : fm.isRef = true) (q4 : sA Z) (q5 : sH Z) (q6 : sL Z) (q7 : Old Z n0 h0) (q8 : eS Z h0 xs) (q9 : fV Z h0 xs (.ref t1)) (q10 : fC Z h0 xs (.int 0)) (q11 : Arv Z h0 t1 k1 .byte (3 : Int32) [(.int 46), (.int 46), (.int 46)] (.int 0)) (q12 : Exa Z h0 xb "java/lang/StringBuilder") (q13 : fB Z h0 xb "value" "[B" (.ref va)) (q14 : fB Z h0 xb "coder" "B" (.int 1)) (q15 : fB Z h0 xb "count" "I" (.int 40)) (q16 : fB Z h0 xb "maybeLatin1" "Z" (.int 0)) (q17 : Arv Z h0 va ka .byte (164 : Int32) (StrChars.Road.wideBytes ps ++ (List.replicate 84 (Value.int 0))) (.int 0)) (q18 : n0 ≤ xb) (q19 : va ≠ xb) (q20 : t1 ≠ va) (q21 : xs ≠ xb) (q22 : xs ≠ va) (q23 : t1 ≠ xb) (q24 : n0 ≤ va) (hpl : ps.length = 40) :
    mF l y_51 jdk_68_method_73_code 3 none ws (rmk 6 0 0 91) #[(.ref xb), (.int 40), (.ref xs)] Z h0 (Q_ps2W Z xb xs t1 k1 va ka ps G fm h0 n0) := by
  refine MetFree.of_bodySF (plainFor_of_name pn_2) hisR ?_
  intro p e s m args below meth c s₁ Bd hml0 hP hK
  obtain ⟨rfl, hZ, hh⟩ := hP
  have hx := Bd.exec
  have hby := Bd.bytes
  have hml : c.maxLocals = 3 := hml0
  have hown : s.vm.findClass "java/lang/AbstractStringBuilder" = some m.cls := findClass_of_methodNamed Bd.named
  have hnm := (name_of_methodNamed Bd.named Bd.method).1
  have X0 : Stand p l e (rmk 6 0 0 91) s m #[(.ref xb), (.int 40), (.ref xs)] below meth c s₁ [] 0 0 := Stand.of_body Bd
  have e0 : s₁.heap = h0 := by rw [← hh, Bd.state]; rfl
  have N0 := Fr.nil n0
  have pre0 : ∀ t, oS p e below s₁ (mkF m 0 #[vR xb, vI 40, vR xs] []) t → oS p e below s₁ (entryFrame m #[(.ref xb), (.int 40), (.ref xs)] 3) t := fun t k => castTop (ef_23 m xb (40 : Int32) xs) k
  obtain ⟨cq1, q1_, q1_'⟩ := q12.cell
  obtain ⟨_, _, ⟨T1, L1, k1, n1⟩, -, X1, ⟨Lc1, hQ1, l1, y1, z1⟩, st1⟩ := X0.privateBack hx (y := y_49) hown (mvT hZ (ow hw 157 rfl)) (mvT hZ (ow hw 158 rfl)) (own_selpriv (by decide) (mvT hZ (ow hw 160 rfl)) (mvP hZ (ow hw 159 rfl)) (mvT hZ (ow hw 158 rfl))) (Cond.privateMethod_at (mvP hZ (ow hw 159 rfl) (args := #[]))) (mvT hZ (ow hw 161 rfl)) (by decide) (backOf (W := 0) (rm_ifW2 l Z a0 hw [] xb xs G h0 n0 Z0 q0 hCS q7 q12 q8 q14 q10) hZ (ow hw 161 rfl) (ow hw 64 rfl) (by decide) (by decide)) (g := (mkF m 2 #[vR xb, vI 40, vR xs] [(.ref xs), (.ref xb)])) rfl (by rw [hml]; rfl) (Steps.refl _) (a := xb) (by rw [e0]; exact q1_) q1_' (argsL := [(.ref xs)]) (rest := []) (lenOf pd_28 rfl) rfl (by show 2 * 0 + _ ≤ _; exact Nat.le_of_eq rfl) (oh hby D50 2 rfl) (fun _ _ => ⟨rfl, e0, (by decide : 0 + 0 ≤ _), (by decide : 0 + 0 ≤ _)⟩)
  dsimp only [Pt.U, Pt.locs, Pt.cells, Pt.slots] at X1 l1 y1 z1 st1 hQ1
  subst l1 y1 z1
  obtain ⟨rfl, Nq1, e1⟩ := hQ1
  have N1 := Fr.app N0 Nq1
  obtain ⟨T2, X2, e2, st2⟩ := getF X1 hx hZ hown (host := "") (Or.inl (ow hw 68 rfl)) Via.refl e1 q13 (g := (mkF m 7 #[vR xb, vI 40, vR xs] [(.ref xb), (.ref xs)])) rfl rfl (oh hby D50 5 rfl)
  obtain ⟨T3, X3, e3, st3⟩ := getF X2 hx hZ hown (host := "") (Or.inl (ow hw 70 rfl)) Via.refl e2 q14 (g := (mkF m 12 #[vR xb, vI 40, vR xs] [(.ref xb), (.int 40), (.ref va), (.ref xs)])) rfl rfl (oh hby D50 8 rfl)
  obtain ⟨cq4, kq4, q4a, q4b, q4c⟩ := isOf hZ e3 q8
  obtain ⟨_, _, ⟨T4, L4, k4, n4⟩, -, X4, ⟨Lc4, hQ4, l4, y4, z4⟩, st4⟩ := X3.virtualBack hx (y := y_50) (z := y_50) hown (mvT hZ (ow hw 163 rfl)) (mvT hZ (ow hw 164 rfl)) (notFace_of_selects (args := #[]) (mvT hZ (ow hw 166 rfl))) (mvT hZ (ow hw 166 rfl)) (mvT hZ (ow hw 165 rfl)) (by decide) (backOf (W := 0) (rm_gb2W l Z a0 hw [] xs t1 k1 va ka ps G fm h0 n0 Z0 q0 hCS q2 hFM q4 q5 q6 q7 q8 q9 q10 q11 q17 q24 q20 hpl) hZ (ow hw 167 rfl) (ow hw 4 rfl) (by decide) (by decide)) q4a q4c (g := (mkF m 15 #[vR xb, vI 40, vR xs] [(.int 1), (.int 40), (.ref va), (.ref xs)])) rfl (by rw [hml]; rfl) (Steps.refl _) (argsL := [(.ref va), (.int 40), (.int 1)]) (rest := []) (lenOf pd_29 rfl) rfl (by show 2 * 0 + _ ≤ _; exact Nat.le_of_eq rfl) (oh hby D50 9 rfl) (fun _ _ => ⟨rfl, e3, (by decide : 0 + 0 ≤ _), (by decide : 0 + 0 ≤ _)⟩)
  dsimp only [Pt.U, Pt.locs, Pt.cells, Pt.slots] at X4 l4 y4 z4 st4 hQ4
  subst l4 y4 z4
  obtain ⟨rfl, Nq4, K4, f4_0⟩ := hQ4
  have N4 := Fr.app N1 Nq4
  obtain ⟨fs, hr, hrun, hended, hW, hsame⟩ := X4.leave (v := none) (fun _ => rfl)
  refine ⟨_, _, pre0 _ ?_, hrun, hended, _, _, rfl, ?_, ⟨_, rfl⟩, hW, hsame.mono (by decide) (by decide)⟩
  · refine XS.aloadN X0.here hx rfl (oh hby D50 0 rfl) rfl rfl ?_
    refine XS.aloadN X0.here hx rfl (oh hby D50 1 rfl) rfl rfl ?_
    refine st1.trans ?_
    show oS p e below T1 (mkF m 5 #[vR xb, vI 40, vR xs] []) _
    refine XS.aloadN X1.here hx rfl (oh hby D50 3 rfl) rfl rfl ?_
    refine XS.aloadN X1.here hx rfl (oh hby D50 4 rfl) rfl rfl ?_
    refine st2 _ ?_
    show oS p e below T2 (mkF m 10 #[vR xb, vI 40, vR xs] [(.ref va), (.ref xs)]) _
    refine XS.iloadN X2.here hx rfl (oh hby D50 6 rfl) rfl ?_
    refine XS.aloadN X2.here hx rfl (oh hby D50 7 rfl) rfl rfl ?_
    refine st3 _ ?_
    show oS p e below T3 (mkF m 15 #[vR xb, vI 40, vR xs] [(.int 1), (.int 40), (.ref va), (.ref xs)]) _
    refine st4.trans ?_
    show oS p e below T4 (mkF m 18 #[vR xb, vI 40, vR xs] []) _
    exact X4.returnOut hx Bd.returns (oh hby D50 10 rfl) hr
  · show Q_ps2W Z xb xs t1 k1 va ka ps G fm h0 n0 _ T4.heap _
    exact ⟨rfl, N4, ((Keep.refl h0 ([va] : List Addr)).trans K4 (allS (Or.inl (by simp)) all0)), f4_0⟩
theorem pd_30 : parseMethodDescriptor "(ILjava/lang/String;)V" = some ⟨[.int, (.object "java/lang/String")], none⟩ := by decide +kernel
theorem ef_24 (m : MethodId) (x0 : Addr) (x1 : Addr) : entryFrame m #[(.ref x0), (.ref x1)] 3 = mkF m 0 #[vR x0, vR x1, .unset] [] := by first | (simp [entryFrame, mkF, argsToLocals, Value.category]; done) | rfl
def Q_aap1L (Z : State) (xb : Addr) (xs : Addr) (t1 : Addr) (k1 : ClassId) (va : Addr) (ka : ClassId) (ps : List Int32) (G : Int32) (fm : Value) (h0 : Heap) (n0 : Nat) (v : Option Value) (h : Heap) (L : List Loc) : Prop := ∃ (vb : Addr) (kb : ClassId), (v = some (.ref xb)) ∧ (Fr n0 L) ∧ (Keep h0 h ([xb] : List Addr)) ∧ (fB Z h xb "value" "[B" (.ref vb)) ∧ (fB Z h xb "coder" "B" (.int 0)) ∧ (fB Z h xb "count" "I" (.int 40)) ∧ (fB Z h xb "maybeLatin1" "Z" (.int 0)) ∧ (h0.size ≤ vb) ∧ (Arv Z h vb kb .byte (40 : Int32) (own_bs ps) (.int 0))
set_option maxRecDepth 65536 in
set_option maxHeartbeats 40000000 in
theorem rm_aap1L (l : Launch) (Z : State) (a0 : Array Value) (hw : HW Z a0) (ws : List Jvm.Cond) (xb : Addr) (xs : Addr) (t1 : Addr) (k1 : ClassId) (va : Addr) (ka : ClassId) (ps : List Int32) (G : Int32) (fm : Value) (h0 : Heap) (n0 : Nat) (Z0 : n0 ≤ h0.size) (q0 : sC Z G) (hCS : ¬ (G = (0 : Int32))) (q2 : sF Z fm) (hFM : fm.isRef = true) (q4 : sA Z) (q5 : sH Z) (q6 : sL Z) (q7 : Old Z n0 h0) (q8 : eS Z h0 xs) (q9 : fV Z h0 xs (.ref t1)) (q10 : fC Z h0 xs (.int 0)) (q11 : Arv Z h0 t1 k1 .byte (40 : Int32) (own_bs ps) (.int 0)) (q12 : Exa Z h0 xb "java/lang/StringBuilder") (q13 : fB Z h0 xb "value" "[B" (.ref va)) (q14 : fB Z h0 xb "coder" "B" (.int 0)) (q15 : fB Z h0 xb "count" "I" (.int 0)) (q16 : fB Z h0 xb "maybeLatin1" "Z" (.int 0)) (q17 : Arv Z h0 va ka .byte (16 : Int32) (List.replicate 16 (Value.int 0)) (.int 0)) (q18 : n0 ≤ xb) (q19 : va ≠ xb) (q20 : t1 ≠ va) (q21 : xs ≠ xb) (q22 : xs ≠ va) (q23 : t1 ≠ xb) (hpl : ps.length = 40) (hcdS : StrChars.Road.CodA ps (0 : Int32) (40 : Int32) (own_bs ps)) (hbdS : ∀ c ∈ ps, ¬ c < 0 ∧ ¬ (65535 : Int32) < c) :
    mF l y_52 jdk_68_method_22_code 3 (some (.object "java/lang/AbstractStringBuilder")) ws (rmk 4 1 164 62) #[(.ref xb), (.ref xs)] Z h0 (Q_aap1L Z xb xs t1 k1 va ka ps G fm h0 n0) := by
  refine MetFree.of_bodySF (plainFor_of_name pn_2) hisR ?_
  intro p e s m args below meth c s₁ Bd hml0 hP hK
  obtain ⟨rfl, hZ, hh⟩ := hP
  have hx := Bd.exec
  have hby := Bd.bytes
  have hml : c.maxLocals = 3 := hml0
  have hown : s.vm.findClass "java/lang/AbstractStringBuilder" = some m.cls := findClass_of_methodNamed Bd.named
  have hnm := (name_of_methodNamed Bd.named Bd.method).1
  have X0 : Stand p l e (rmk 4 1 164 62) s m #[(.ref xb), (.ref xs)] below meth c s₁ [] 0 0 := Stand.of_body Bd
  have e0 : s₁.heap = h0 := by rw [← hh, Bd.state]; rfl
  have N0 := Fr.nil n0
  have pre0 : ∀ t, oS p e below s₁ (mkF m 0 #[vR xb, vR xs, .unset] []) t → oS p e below s₁ (entryFrame m #[(.ref xb), (.ref xs)] 3) t := fun t k => castTop (ef_24 m xb xs) k
  have hnl : Int32.ofNat (ps).length = (40 : Int32) := by rw [hpl]; rfl
  obtain ⟨cq1, kq1, q1a, q1b, q1c⟩ := isOf hZ e0 q8
  obtain ⟨_, _, ⟨T1, L1, k1, n1⟩, -, X1, ⟨Lc1, hQ1, l1, y1, z1⟩, st1⟩ := X0.virtualBack hx (y := y_40) (z := y_40) hown (mvT hZ (ow hw 127 rfl)) (mvT hZ (ow hw 28 rfl)) (notFace_of_selects (args := #[]) (mvT hZ (ow hw 30 rfl))) (mvT hZ (ow hw 30 rfl)) (mvT hZ (ow hw 29 rfl)) (by decide) (StrChars.Road.lenW (W := 0) hZ (own_hw_lenW hw) (kI := 4) (ow hw 3 rfl) q8 q9 q10 q11 hcdS hbdS (q0.ext q7.2) hCS (by rw [hpl]; decide) (by decide) (by decide)) q1a q1c (g := (mkF m 10 #[vR xb, vR xs, .unset] [(.ref xs)])) rfl (by rw [hml]; rfl) (Steps.refl _) (argsL := []) (rest := []) (lenOf pd_8 rfl) rfl (by show 2 * 0 + _ ≤ _; exact Nat.le_of_eq rfl) (oh hby D51 3 rfl) (fun _ _ => ⟨rfl, e0, (by decide : 0 + 0 ≤ _), (by decide : 0 + 0 ≤ _)⟩)
  dsimp only [Pt.U, Pt.locs, Pt.cells, Pt.slots] at X1 l1 y1 z1 st1 hQ1
  subst l1 y1 z1
  obtain ⟨rfl, rfl, e1⟩ := hQ1
  have N1 := Fr.app N0 (Fr.nil n0)
  obtain ⟨T2, X2, e2, st2⟩ := getF X1 hx hZ hown (host := "") (Or.inl (ow hw 128 rfl)) Via.refl e1 q15 (g := (mkF m 16 #[vR xb, vR xs, vI 40] [(.ref xb), (.ref xb)])) rfl rfl (oh hby D51 7 rfl)
  obtain ⟨cq3, q3_, q3_'⟩ := q12.cell
  obtain ⟨_, _, ⟨T3, L3, k3, n3⟩, -, X3, ⟨Lc3, hQ3, l3, y3, z3⟩, st3⟩ := X2.privateBack hx (y := y_15) hown (mvT hZ (ow hw 130 rfl)) (mvT hZ (ow hw 131 rfl)) (own_selpriv (by decide) (mvT hZ (ow hw 133 rfl)) (mvP hZ (ow hw 132 rfl)) (mvT hZ (ow hw 131 rfl))) (Cond.privateMethod_at (mvP hZ (ow hw 132 rfl) (args := #[]))) (mvT hZ (ow hw 134 rfl)) (by decide) (backOf (W := 0) (rm_ec16 l Z a0 hw [] xb va ka (List.replicate 16 (Value.int 0)) (0 : Int32) h0 n0 Z0 q12 q18 q13 q14 q17 q15 q16 q19 (rfl)) hZ (ow hw 134 rfl) (ow hw 64 rfl) (by decide) (by decide)) (g := (mkF m 21 #[vR xb, vR xs, vI 40] [(.int 40), (.ref xb)])) rfl (by rw [hml]; rfl) (Steps.refl _) (a := xb) (by rw [e2]; exact q3_) q3_' (argsL := [(.int 40)]) (rest := []) (lenOf pd_23 rfl) rfl (by show 2 * 0 + _ ≤ _; exact Nat.le_of_eq rfl) (oh hby D51 10 rfl) (fun _ _ => ⟨rfl, e2, (by decide : 0 + 1 ≤ _), (by decide : 0 + 164 ≤ _)⟩)
  dsimp only [Pt.U, Pt.locs, Pt.cells, Pt.slots] at X3 l3 y3 z3 st3 hQ3
  subst l3 y3 z3
  obtain ⟨vb_3, kb_3, rfl, Nq3, K3, f3_0, f3_1, f3_2, f3_3, f3_4, f3_5⟩ := hQ3
  have N3 := Fr.app N1 Nq3
  have R4 : Arv Z T3.heap vb_3 kb_3 .byte (40 : Int32) (List.replicate 40 (Value.int 0)) (.int 0) := by have q := f3_5; exact q
  obtain ⟨T5, X5, e5, st5⟩ := getF X3 hx hZ hown (host := "") (Or.inl (ow hw 128 rfl)) Via.refl rfl f3_1 (g := (mkF m 26 #[vR xb, vR xs, vI 40] [(.ref xb), (.ref xb)])) rfl rfl (oh hby D51 13 rfl)
  have c6 := (q7.keep K3 (allS q18 all0))
  have c7 := (q8.keep K3)
  have c8 := (q9.keep K3 (ninS q21 nin0))
  have c9 := (q10.keep K3 (ninS q21 nin0))
  have c10 := (q11.keep K3 (ninS q23 nin0))
  have c11 := (q12.keep K3)
  have ne12 : xb ≠ vb_3 := Nat.ne_of_lt (Nat.lt_of_lt_of_le q12.lt f3_4)
  have ne13 : t1 ≠ vb_3 := Nat.ne_of_lt (Nat.lt_of_lt_of_le q11.lt f3_4)
  have ne14 : xs ≠ vb_3 := Nat.ne_of_lt (Nat.lt_of_lt_of_le q8.lt f3_4)
  have ge15 : n0 ≤ vb_3 := Nat.le_trans Z0 (Nat.le_trans (Nat.le_refl _) f3_4)
  obtain ⟨cq16, q16_, q16_'⟩ := c11.cell
  obtain ⟨_, _, ⟨T16, L16, k16, n16⟩, -, X16, ⟨Lc16, hQ16, l16, y16, z16⟩, st16⟩ := X5.privateBack hx (y := y_51) hown (mvT hZ (ow hw 152 rfl)) (mvT hZ (ow hw 153 rfl)) (own_selpriv (by decide) (mvT hZ (ow hw 155 rfl)) (mvP hZ (ow hw 154 rfl)) (mvT hZ (ow hw 153 rfl))) (Cond.privateMethod_at (mvP hZ (ow hw 154 rfl) (args := #[]))) (mvT hZ (ow hw 156 rfl)) (by decide) (backOf (W := 0) (rm_ps1L l Z a0 hw [] xb xs t1 k1 vb_3 kb_3 ps G fm T3.heap n0 (Nat.le_trans Z0 K3.1) q0 hCS q2 hFM q4 q5 q6 c6 c7 c8 c9 c10 c11 f3_3 f3_0 f3_1 f3_2 R4 q18 (Ne.symm ne12) ne13 q21 ne14 q23 ge15 hpl) hZ (ow hw 156 rfl) (ow hw 64 rfl) (by decide) (by decide)) (g := (mkF m 30 #[vR xb, vR xs, vI 40] [(.ref xs), (.int 0), (.ref xb)])) rfl (by rw [hml]; rfl) (Steps.refl _) (a := xb) (by rw [e5]; exact q16_) q16_' (argsL := [(.int 0), (.ref xs)]) (rest := []) (lenOf pd_30 rfl) rfl (by show 2 * 0 + _ ≤ _; exact Nat.le_of_eq rfl) (oh hby D51 15 rfl) (fun _ _ => ⟨rfl, e5, (by decide : 1 + 0 ≤ _), (by decide : 164 + 0 ≤ _)⟩)
  dsimp only [Pt.U, Pt.locs, Pt.cells, Pt.slots] at X16 l16 y16 z16 st16 hQ16
  subst l16 y16 z16
  obtain ⟨rfl, Nq16, K16, f16_0⟩ := hQ16
  have N16 := Fr.app N3 Nq16
  have c17 := (f3_1.keep K16 (ninS ne12 nin0))
  obtain ⟨T18, X18, e18, st18⟩ := getF X16 hx hZ hown (host := "") (Or.inl (ow hw 128 rfl)) Via.refl rfl c17 (g := (mkF m 35 #[vR xb, vR xs, vI 40] [(.ref xb), (.ref xb)])) rfl rfl (oh hby D51 18 rfl)
  have c19 := (c11.keep K16)
  obtain ⟨T20, h20, X20, e20, W20, st20⟩ := putF X18 hx hZ hown (host := "") (Or.inl (ow hw 128 rfl)) Via.refl e18 c17 c19 (Or.inl (ow hw 129 rfl)) (ow hw 55 rfl) (ty := .int) (by decide) rfl rfl (g := (mkF m 40 #[vR xb, vR xs, vI 40] [(.int 40), (.ref xb)])) rfl rfl (oh hby D51 21 rfl)
  have N20 := Fr.snoc X20 N16 q18
  have F20 : fB Z h20 xb "count" "I" (.int 40) := c17.same W20
  have c21 := ((f3_3.keep K16 (ninS ne12 nin0)).other W20 (Or.inr (slot_ne (Or.inl (ow hw 69 rfl)) (Or.inl (ow hw 129 rfl)) (by decide) (t := (.array .byte)) (t' := .int) (by decide) (by decide))))
  have c22 := (f16_0.other W20 (Ne.symm ne12))
  have c23 := ((f3_0.keep K16 (ninS ne12 nin0)).other W20 (Or.inr (slot_ne (Or.inl (ow hw 71 rfl)) (Or.inl (ow hw 129 rfl)) (by decide) (t := .byte) (t' := .int) (by decide) (by decide))))
  have c24 := ((f3_2.keep K16 (ninS ne12 nin0)).other W20 (Or.inr (slot_ne (Or.inl (ow hw 276 rfl)) (Or.inl (ow hw 129 rfl)) (by decide) (t := .boolean) (t' := .int) (by decide) (by decide))))
  obtain ⟨fs, hr, hrun, hended, hW, hsame⟩ := X20.leave (v := some (.ref xb)) (fun h => by rw [Bd.returns] at h; cases h)
  refine ⟨_, _, pre0 _ ?_, hrun, hended, _, _, rfl, ?_, ⟨_, rfl⟩, hW, hsame.mono (by decide) (by decide)⟩
  · refine XS.aloadN X0.here hx rfl (oh hby D51 0 rfl) rfl rfl ?_
    refine XS.ifnonnullYes X0.here hx rfl (pc0 := 1) (pc' := 9) rfl (oh hby D51 1 rfl) rfl (by decide) (by decide) ?_
    refine XS.aloadN X0.here hx rfl (oh hby D51 2 rfl) rfl rfl ?_
    refine st1.trans ?_
    show oS p e below T1 (mkF m 13 #[vR xb, vR xs, .unset] [(.int (Int32.ofNat (ps).length))]) _
    rw [hnl]
    show oS p e below T1 (mkF m 13 #[vR xb, vR xs, .unset] [(.int 40)]) _
    refine XS.istoreN X1.here hx rfl (oh hby D51 4 rfl) rfl (l' := #[vR xb, vR xs, vI 40]) rfl ?_
    refine XS.aloadN X1.here hx rfl (oh hby D51 5 rfl) rfl rfl ?_
    refine XS.aloadN X1.here hx rfl (oh hby D51 6 rfl) rfl rfl ?_
    refine st2 _ ?_
    show oS p e below T2 (mkF m 19 #[vR xb, vR xs, vI 40] [(.int 0), (.ref xb)]) _
    refine XS.iloadN X2.here hx rfl (oh hby D51 8 rfl) rfl ?_
    refine XS.iadd X2.here hx rfl (oh hby D51 9 rfl) rfl ?_
    refine st3.trans ?_
    show oS p e below T3 (mkF m 24 #[vR xb, vR xs, vI 40] []) _
    refine XS.aloadN X3.here hx rfl (oh hby D51 11 rfl) rfl rfl ?_
    refine XS.aloadN X3.here hx rfl (oh hby D51 12 rfl) rfl rfl ?_
    refine st5 _ ?_
    show oS p e below T5 (mkF m 29 #[vR xb, vR xs, vI 40] [(.int 0), (.ref xb)]) _
    refine XS.aloadN X5.here hx rfl (oh hby D51 14 rfl) rfl rfl ?_
    refine st16.trans ?_
    show oS p e below T16 (mkF m 33 #[vR xb, vR xs, vI 40] []) _
    refine XS.aloadN X16.here hx rfl (oh hby D51 16 rfl) rfl rfl ?_
    refine XS.dup X16.here hx rfl (oh hby D51 17 rfl) rfl rfl ?_
    refine st18 _ ?_
    show oS p e below T18 (mkF m 38 #[vR xb, vR xs, vI 40] [(.int 0), (.ref xb)]) _
    refine XS.iloadN X18.here hx rfl (oh hby D51 19 rfl) rfl ?_
    refine XS.iadd X18.here hx rfl (oh hby D51 20 rfl) rfl ?_
    refine st20 _ ?_
    show oS p e below T20 (mkF m 43 #[vR xb, vR xs, vI 40] []) _
    refine XS.aloadN X20.here hx rfl (oh hby D51 22 rfl) rfl rfl ?_
    show oS p e below T20 (mkF m 44 #[vR xb, vR xs, vI 40] [(.ref xb)]) _
    jvm_step X20.here [X20.here.top, hx, (oh hby D51 23 rfl), X20.method', Bd.returns, Value.isRef, FieldType.isReference]
    first | (intro acts; rw [hr _ acts rfl rfl rfl]) | rw [hr _ _ rfl rfl rfl]
    exact Steps.refl _
  · show Q_aap1L Z xb xs t1 k1 va ka ps G fm h0 n0 _ T20.heap _
    rw [e20]
    exact ⟨vb_3, kb_3, rfl, N20, ((((Keep.refl h0 ([xb] : List Addr)).trans K3 (allS (Or.inl (by simp)) all0)).trans K16 (allS (Or.inr (Nat.le_trans (Nat.le_refl _) f3_4)) all0)).wr W20 (Or.inl (by simp))), c21, c23, F20, c24, (Nat.le_trans (Nat.le_refl _) f3_4), c22⟩
theorem pd_31 : parseMethodDescriptor "(Ljava/lang/String;)Ljava/lang/AbstractStringBuilder;" = some ⟨[(.object "java/lang/String")], some (.object "java/lang/AbstractStringBuilder")⟩ := by decide +kernel
def Q_ap1L (Z : State) (xb : Addr) (xs : Addr) (t1 : Addr) (k1 : ClassId) (va : Addr) (ka : ClassId) (ps : List Int32) (G : Int32) (fm : Value) (h0 : Heap) (n0 : Nat) (v : Option Value) (h : Heap) (L : List Loc) : Prop := ∃ (vb : Addr) (kb : ClassId), (v = some (.ref xb)) ∧ (Fr n0 L) ∧ (Keep h0 h ([xb] : List Addr)) ∧ (fB Z h xb "value" "[B" (.ref vb)) ∧ (fB Z h xb "coder" "B" (.int 0)) ∧ (fB Z h xb "count" "I" (.int 40)) ∧ (fB Z h xb "maybeLatin1" "Z" (.int 0)) ∧ (h0.size ≤ vb) ∧ (Arv Z h vb kb .byte (40 : Int32) (own_bs ps) (.int 0))
set_option maxRecDepth 65536 in
set_option maxHeartbeats 40000000 in
theorem rm_ap1L (l : Launch) (Z : State) (a0 : Array Value) (hw : HW Z a0) (ws : List Jvm.Cond) (xb : Addr) (xs : Addr) (t1 : Addr) (k1 : ClassId) (va : Addr) (ka : ClassId) (ps : List Int32) (G : Int32) (fm : Value) (h0 : Heap) (n0 : Nat) (Z0 : n0 ≤ h0.size) (q0 : sC Z G) (hCS : ¬ (G = (0 : Int32))) (q2 : sF Z fm) (hFM : fm.isRef = true) (q4 : sA Z) (q5 : sH Z) (q6 : sL Z) (q7 : Old Z n0 h0) (q8 : eS Z h0 xs) (q9 : fV Z h0 xs (.ref t1)) (q10 : fC Z h0 xs (.int 0)) (q11 : Arv Z h0 t1 k1 .byte (40 : Int32) (own_bs ps) (.int 0)) (q12 : Exa Z h0 xb "java/lang/StringBuilder") (q13 : fB Z h0 xb "value" "[B" (.ref va)) (q14 : fB Z h0 xb "coder" "B" (.int 0)) (q15 : fB Z h0 xb "count" "I" (.int 0)) (q16 : fB Z h0 xb "maybeLatin1" "Z" (.int 0)) (q17 : Arv Z h0 va ka .byte (16 : Int32) (List.replicate 16 (Value.int 0)) (.int 0)) (q18 : n0 ≤ xb) (q19 : va ≠ xb) (q20 : t1 ≠ va) (q21 : xs ≠ xb) (q22 : xs ≠ va) (q23 : t1 ≠ xb) (hpl : ps.length = 40) (hcdS : StrChars.Road.CodA ps (0 : Int32) (40 : Int32) (own_bs ps)) (hbdS : ∀ c ∈ ps, ¬ c < 0 ∧ ¬ (65535 : Int32) < c) :
    mF l y_53 jdk_67_method_7_code 2 (some (.object "java/lang/StringBuilder")) ws (rmk 5 1 164 76) #[(.ref xb), (.ref xs)] Z h0 (Q_ap1L Z xb xs t1 k1 va ka ps G fm h0 n0) := by
  refine MetFree.of_bodySF (plainFor_of_name pn_3) hisR ?_
  intro p e s m args below meth c s₁ Bd hml0 hP hK
  obtain ⟨rfl, hZ, hh⟩ := hP
  have hx := Bd.exec
  have hby := Bd.bytes
  have hml : c.maxLocals = 2 := hml0
  have hown : s.vm.findClass "java/lang/StringBuilder" = some m.cls := findClass_of_methodNamed Bd.named
  have hnm := (name_of_methodNamed Bd.named Bd.method).1
  have X0 : Stand p l e (rmk 5 1 164 76) s m #[(.ref xb), (.ref xs)] below meth c s₁ [] 0 0 := Stand.of_body Bd
  have e0 : s₁.heap = h0 := by rw [← hh, Bd.state]; rfl
  have N0 := Fr.nil n0
  have pre0 : ∀ t, oS p e below s₁ (mkF m 0 #[vR xb, vR xs] []) t → oS p e below s₁ (entryFrame m #[(.ref xb), (.ref xs)] 2) t := fun t k => castTop (ef_7 m xb xs) k
  obtain ⟨_, _, ⟨T1, L1, k1, n1⟩, -, X1, ⟨Lc1, hQ1, l1, y1, z1⟩, st1⟩ := superBack X0 hx hZ (K := "java/lang/StringBuilder") (y := y_52) hown (ow hw 122 rfl) (own_same (z := y_15) (by decide) rfl (ow hw 133 rfl) (ow hw 123 rfl)) (ow hw 123 rfl) (ow hw 124 rfl) (by decide) (backOf (W := 0) (rm_aap1L l Z a0 hw [] xb xs t1 k1 va ka ps G fm h0 n0 Z0 q0 hCS q2 hFM q4 q5 q6 q7 q8 q9 q10 q11 q12 q13 q14 q15 q16 q17 q18 q19 q20 q21 q22 q23 hpl hcdS hbdS) hZ (ow hw 126 rfl) (ow hw 64 rfl) (by decide) (by decide)) e0 (Ins.self q12) (g := (mkF m 2 #[vR xb, vR xs] [(.ref xs), (.ref xb)])) rfl (by rw [hml]; rfl) (ow hw 126 rfl) (argsL := [(.ref xs)]) (rest := []) (lenOf pd_31 rfl) rfl (by show 2 * 0 + _ ≤ _; exact Nat.le_of_eq rfl) (oh hby D52 2 rfl) (fun _ _ => ⟨rfl, e0, (by decide : 0 + 1 ≤ _), (by decide : 0 + 164 ≤ _)⟩)
  dsimp only [Pt.U, Pt.locs, Pt.cells, Pt.slots] at X1 l1 y1 z1 st1 hQ1
  subst l1 y1 z1
  obtain ⟨vb_1, kb_1, rfl, Nq1, K1, f1_0, f1_1, f1_2, f1_3, f1_4, f1_5⟩ := hQ1
  have N1 := Fr.app N0 Nq1
  obtain ⟨fs, hr, hrun, hended, hW, hsame⟩ := X1.leave (v := some (.ref xb)) (fun h => by rw [Bd.returns] at h; cases h)
  refine ⟨_, _, pre0 _ ?_, hrun, hended, _, _, rfl, ?_, ⟨_, rfl⟩, hW, hsame.mono (by decide) (by decide)⟩
  · refine XS.aloadN X0.here hx rfl (oh hby D52 0 rfl) rfl rfl ?_
    refine XS.aloadN X0.here hx rfl (oh hby D52 1 rfl) rfl rfl ?_
    refine st1.trans ?_
    show oS p e below T1 (mkF m 5 #[vR xb, vR xs] [(.ref xb)]) _
    refine XS.pop X1.here hx rfl (oh hby D52 3 rfl) rfl rfl ?_
    refine XS.aloadN X1.here hx rfl (oh hby D52 4 rfl) rfl rfl ?_
    show oS p e below T1 (mkF m 7 #[vR xb, vR xs] [(.ref xb)]) _
    jvm_step X1.here [X1.here.top, hx, (oh hby D52 5 rfl), X1.method', Bd.returns, Value.isRef, FieldType.isReference]
    first | (intro acts; rw [hr _ acts rfl rfl rfl]) | rw [hr _ _ rfl rfl rfl]
    exact Steps.refl _
  · show Q_ap1L Z xb xs t1 k1 va ka ps G fm h0 n0 _ T1.heap _
    exact ⟨vb_1, kb_1, rfl, N1, ((Keep.refl h0 ([xb] : List Addr)).trans K1 (allS (Or.inl (by simp)) all0)), f1_0, f1_1, f1_2, f1_3, (Nat.le_trans (Nat.le_refl _) f1_4), f1_5⟩
def Q_aap1W (Z : State) (xb : Addr) (xs : Addr) (t1 : Addr) (k1 : ClassId) (va : Addr) (ka : ClassId) (ps : List Int32) (G : Int32) (fm : Value) (h0 : Heap) (n0 : Nat) (v : Option Value) (h : Heap) (L : List Loc) : Prop := ∃ (vb : Addr) (kb : ClassId), (v = some (.ref xb)) ∧ (Fr n0 L) ∧ (Keep h0 h ([xb] : List Addr)) ∧ (fB Z h xb "value" "[B" (.ref vb)) ∧ (fB Z h xb "coder" "B" (.int 1)) ∧ (fB Z h xb "count" "I" (.int 40)) ∧ (fB Z h xb "maybeLatin1" "Z" (.int 0)) ∧ (h0.size ≤ vb) ∧ (Arv Z h vb kb .byte (80 : Int32) (StrChars.Road.wideBytes ps) (.int 0))
set_option maxRecDepth 65536 in
set_option maxHeartbeats 40000000 in
theorem rm_aap1W (l : Launch) (Z : State) (a0 : Array Value) (hw : HW Z a0) (ws : List Jvm.Cond) (xb : Addr) (xs : Addr) (t1 : Addr) (k1 : ClassId) (va : Addr) (ka : ClassId) (ps : List Int32) (G : Int32) (fm : Value) (h0 : Heap) (n0 : Nat) (Z0 : n0 ≤ h0.size) (q0 : sC Z G) (hCS : ¬ (G = (0 : Int32))) (q2 : sF Z fm) (hFM : fm.isRef = true) (q4 : sA Z) (q5 : sH Z) (q6 : sL Z) (q7 : Old Z n0 h0) (q8 : eS Z h0 xs) (q9 : fV Z h0 xs (.ref t1)) (q10 : fC Z h0 xs (.int 1)) (q11 : Arv Z h0 t1 k1 .byte (80 : Int32) (StrChars.Road.wideBytes ps) (.int 0)) (q12 : Exa Z h0 xb "java/lang/StringBuilder") (q13 : fB Z h0 xb "value" "[B" (.ref va)) (q14 : fB Z h0 xb "coder" "B" (.int 0)) (q15 : fB Z h0 xb "count" "I" (.int 0)) (q16 : fB Z h0 xb "maybeLatin1" "Z" (.int 0)) (q17 : Arv Z h0 va ka .byte (16 : Int32) (List.replicate 16 (Value.int 0)) (.int 0)) (q18 : n0 ≤ xb) (q19 : va ≠ xb) (q20 : t1 ≠ va) (q21 : xs ≠ xb) (q22 : xs ≠ va) (q23 : t1 ≠ xb) (hpl : ps.length = 40) (hcdS : StrChars.Road.CodA ps (1 : Int32) (80 : Int32) (StrChars.Road.wideBytes ps)) (hbdS : ∀ c ∈ ps, ¬ c < 0 ∧ ¬ (65535 : Int32) < c) :
    mF l y_52 jdk_68_method_22_code 3 (some (.object "java/lang/AbstractStringBuilder")) ws (rmk 8 2 252 116) #[(.ref xb), (.ref xs)] Z h0 (Q_aap1W Z xb xs t1 k1 va ka ps G fm h0 n0) := by
  refine MetFree.of_bodySF (plainFor_of_name pn_2) hisR ?_
  intro p e s m args below meth c s₁ Bd hml0 hP hK
  obtain ⟨rfl, hZ, hh⟩ := hP
  have hx := Bd.exec
  have hby := Bd.bytes
  have hml : c.maxLocals = 3 := hml0
  have hown : s.vm.findClass "java/lang/AbstractStringBuilder" = some m.cls := findClass_of_methodNamed Bd.named
  have hnm := (name_of_methodNamed Bd.named Bd.method).1
  have X0 : Stand p l e (rmk 8 2 252 116) s m #[(.ref xb), (.ref xs)] below meth c s₁ [] 0 0 := Stand.of_body Bd
  have e0 : s₁.heap = h0 := by rw [← hh, Bd.state]; rfl
  have N0 := Fr.nil n0
  have pre0 : ∀ t, oS p e below s₁ (mkF m 0 #[vR xb, vR xs, .unset] []) t → oS p e below s₁ (entryFrame m #[(.ref xb), (.ref xs)] 3) t := fun t k => castTop (ef_24 m xb xs) k
  have hnl : Int32.ofNat (ps).length = (40 : Int32) := by rw [hpl]; rfl
  obtain ⟨cq1, kq1, q1a, q1b, q1c⟩ := isOf hZ e0 q8
  obtain ⟨_, _, ⟨T1, L1, k1, n1⟩, -, X1, ⟨Lc1, hQ1, l1, y1, z1⟩, st1⟩ := X0.virtualBack hx (y := y_40) (z := y_40) hown (mvT hZ (ow hw 127 rfl)) (mvT hZ (ow hw 28 rfl)) (notFace_of_selects (args := #[]) (mvT hZ (ow hw 30 rfl))) (mvT hZ (ow hw 30 rfl)) (mvT hZ (ow hw 29 rfl)) (by decide) (StrChars.Road.lenW (W := 0) hZ (own_hw_lenW hw) (kI := 4) (ow hw 3 rfl) q8 q9 q10 q11 hcdS hbdS (q0.ext q7.2) hCS (by rw [hpl]; decide) (by decide) (by decide)) q1a q1c (g := (mkF m 10 #[vR xb, vR xs, .unset] [(.ref xs)])) rfl (by rw [hml]; rfl) (Steps.refl _) (argsL := []) (rest := []) (lenOf pd_8 rfl) rfl (by show 2 * 0 + _ ≤ _; exact Nat.le_of_eq rfl) (oh hby D51 3 rfl) (fun _ _ => ⟨rfl, e0, (by decide : 0 + 0 ≤ _), (by decide : 0 + 0 ≤ _)⟩)
  dsimp only [Pt.U, Pt.locs, Pt.cells, Pt.slots] at X1 l1 y1 z1 st1 hQ1
  subst l1 y1 z1
  obtain ⟨rfl, rfl, e1⟩ := hQ1
  have N1 := Fr.app N0 (Fr.nil n0)
  obtain ⟨T2, X2, e2, st2⟩ := getF X1 hx hZ hown (host := "") (Or.inl (ow hw 128 rfl)) Via.refl e1 q15 (g := (mkF m 16 #[vR xb, vR xs, vI 40] [(.ref xb), (.ref xb)])) rfl rfl (oh hby D51 7 rfl)
  obtain ⟨cq3, q3_, q3_'⟩ := q12.cell
  obtain ⟨_, _, ⟨T3, L3, k3, n3⟩, -, X3, ⟨Lc3, hQ3, l3, y3, z3⟩, st3⟩ := X2.privateBack hx (y := y_15) hown (mvT hZ (ow hw 130 rfl)) (mvT hZ (ow hw 131 rfl)) (own_selpriv (by decide) (mvT hZ (ow hw 133 rfl)) (mvP hZ (ow hw 132 rfl)) (mvT hZ (ow hw 131 rfl))) (Cond.privateMethod_at (mvP hZ (ow hw 132 rfl) (args := #[]))) (mvT hZ (ow hw 134 rfl)) (by decide) (backOf (W := 0) (rm_ec16 l Z a0 hw [] xb va ka (List.replicate 16 (Value.int 0)) (0 : Int32) h0 n0 Z0 q12 q18 q13 q14 q17 q15 q16 q19 (rfl)) hZ (ow hw 134 rfl) (ow hw 64 rfl) (by decide) (by decide)) (g := (mkF m 21 #[vR xb, vR xs, vI 40] [(.int 40), (.ref xb)])) rfl (by rw [hml]; rfl) (Steps.refl _) (a := xb) (by rw [e2]; exact q3_) q3_' (argsL := [(.int 40)]) (rest := []) (lenOf pd_23 rfl) rfl (by show 2 * 0 + _ ≤ _; exact Nat.le_of_eq rfl) (oh hby D51 10 rfl) (fun _ _ => ⟨rfl, e2, (by decide : 0 + 1 ≤ _), (by decide : 0 + 164 ≤ _)⟩)
  dsimp only [Pt.U, Pt.locs, Pt.cells, Pt.slots] at X3 l3 y3 z3 st3 hQ3
  subst l3 y3 z3
  obtain ⟨vb_3, kb_3, rfl, Nq3, K3, f3_0, f3_1, f3_2, f3_3, f3_4, f3_5⟩ := hQ3
  have N3 := Fr.app N1 Nq3
  have R4 : Arv Z T3.heap vb_3 kb_3 .byte (40 : Int32) (List.replicate 40 (Value.int 0)) (.int 0) := by have q := f3_5; exact q
  obtain ⟨T5, X5, e5, st5⟩ := getF X3 hx hZ hown (host := "") (Or.inl (ow hw 128 rfl)) Via.refl rfl f3_1 (g := (mkF m 26 #[vR xb, vR xs, vI 40] [(.ref xb), (.ref xb)])) rfl rfl (oh hby D51 13 rfl)
  have c6 := (q7.keep K3 (allS q18 all0))
  have c7 := (q8.keep K3)
  have c8 := (q9.keep K3 (ninS q21 nin0))
  have c9 := (q10.keep K3 (ninS q21 nin0))
  have c10 := (q11.keep K3 (ninS q23 nin0))
  have c11 := (q12.keep K3)
  have ne12 : xb ≠ vb_3 := Nat.ne_of_lt (Nat.lt_of_lt_of_le q12.lt f3_4)
  have ne13 : t1 ≠ vb_3 := Nat.ne_of_lt (Nat.lt_of_lt_of_le q11.lt f3_4)
  have ne14 : xs ≠ vb_3 := Nat.ne_of_lt (Nat.lt_of_lt_of_le q8.lt f3_4)
  obtain ⟨cq15, q15_, q15_'⟩ := c11.cell
  obtain ⟨_, _, ⟨T15, L15, k15, n15⟩, -, X15, ⟨Lc15, hQ15, l15, y15, z15⟩, st15⟩ := X5.privateBack hx (y := y_51) hown (mvT hZ (ow hw 152 rfl)) (mvT hZ (ow hw 153 rfl)) (own_selpriv (by decide) (mvT hZ (ow hw 155 rfl)) (mvP hZ (ow hw 154 rfl)) (mvT hZ (ow hw 153 rfl))) (Cond.privateMethod_at (mvP hZ (ow hw 154 rfl) (args := #[]))) (mvT hZ (ow hw 156 rfl)) (by decide) (backOf (W := 0) (rm_ps1W l Z a0 hw [] xb xs t1 k1 vb_3 kb_3 ps G fm T3.heap n0 (Nat.le_trans Z0 K3.1) q0 hCS q2 hFM q4 q5 q6 c6 c7 c8 c9 c10 c11 f3_3 f3_0 f3_1 f3_2 R4 q18 (Ne.symm ne12) ne13 q21 ne14 q23 hpl) hZ (ow hw 156 rfl) (ow hw 64 rfl) (by decide) (by decide)) (g := (mkF m 30 #[vR xb, vR xs, vI 40] [(.ref xs), (.int 0), (.ref xb)])) rfl (by rw [hml]; rfl) (Steps.refl _) (a := xb) (by rw [e5]; exact q15_) q15_' (argsL := [(.int 0), (.ref xs)]) (rest := []) (lenOf pd_30 rfl) rfl (by show 2 * 0 + _ ≤ _; exact Nat.le_of_eq rfl) (oh hby D51 15 rfl) (fun _ _ => ⟨rfl, e5, (by decide : 1 + 1 ≤ _), (by decide : 164 + 88 ≤ _)⟩)
  dsimp only [Pt.U, Pt.locs, Pt.cells, Pt.slots] at X15 l15 y15 z15 st15 hQ15
  subst l15 y15 z15
  obtain ⟨vb_15, kb_15, rfl, Nq15, K15, f15_0, f15_1, f15_2, f15_3, f15_4, f15_5⟩ := hQ15
  have N15 := Fr.app N3 Nq15
  obtain ⟨T16, X16, e16, st16⟩ := getF X15 hx hZ hown (host := "") (Or.inl (ow hw 128 rfl)) Via.refl rfl f15_2 (g := (mkF m 35 #[vR xb, vR xs, vI 40] [(.ref xb), (.ref xb)])) rfl rfl (oh hby D51 18 rfl)
  have c17 := (c11.keep K15)
  obtain ⟨T18, h18, X18, e18, W18, st18⟩ := putF X16 hx hZ hown (host := "") (Or.inl (ow hw 128 rfl)) Via.refl e16 f15_2 c17 (Or.inl (ow hw 129 rfl)) (ow hw 55 rfl) (ty := .int) (by decide) rfl rfl (g := (mkF m 40 #[vR xb, vR xs, vI 40] [(.int 40), (.ref xb)])) rfl rfl (oh hby D51 21 rfl)
  have N18 := Fr.snoc X18 N15 q18
  have F18 : fB Z h18 xb "count" "I" (.int 40) := f15_2.same W18
  have c19 := (f15_0.other W18 (Or.inr (slot_ne (Or.inl (ow hw 69 rfl)) (Or.inl (ow hw 129 rfl)) (by decide) (t := (.array .byte)) (t' := .int) (by decide) (by decide))))
  have ne20 : xb ≠ vb_15 := Nat.ne_of_lt (Nat.lt_of_lt_of_le (Nat.lt_of_lt_of_le q12.lt K3.1) f15_4)
  have c21 := (f15_5.other W18 (Ne.symm ne20))
  have c22 := (f15_1.other W18 (Or.inr (slot_ne (Or.inl (ow hw 71 rfl)) (Or.inl (ow hw 129 rfl)) (by decide) (t := .byte) (t' := .int) (by decide) (by decide))))
  have c23 := (f15_3.other W18 (Or.inr (slot_ne (Or.inl (ow hw 276 rfl)) (Or.inl (ow hw 129 rfl)) (by decide) (t := .boolean) (t' := .int) (by decide) (by decide))))
  obtain ⟨fs, hr, hrun, hended, hW, hsame⟩ := X18.leave (v := some (.ref xb)) (fun h => by rw [Bd.returns] at h; cases h)
  refine ⟨_, _, pre0 _ ?_, hrun, hended, _, _, rfl, ?_, ⟨_, rfl⟩, hW, hsame.mono (by decide) (by decide)⟩
  · refine XS.aloadN X0.here hx rfl (oh hby D51 0 rfl) rfl rfl ?_
    refine XS.ifnonnullYes X0.here hx rfl (pc0 := 1) (pc' := 9) rfl (oh hby D51 1 rfl) rfl (by decide) (by decide) ?_
    refine XS.aloadN X0.here hx rfl (oh hby D51 2 rfl) rfl rfl ?_
    refine st1.trans ?_
    show oS p e below T1 (mkF m 13 #[vR xb, vR xs, .unset] [(.int (Int32.ofNat (ps).length))]) _
    rw [hnl]
    show oS p e below T1 (mkF m 13 #[vR xb, vR xs, .unset] [(.int 40)]) _
    refine XS.istoreN X1.here hx rfl (oh hby D51 4 rfl) rfl (l' := #[vR xb, vR xs, vI 40]) rfl ?_
    refine XS.aloadN X1.here hx rfl (oh hby D51 5 rfl) rfl rfl ?_
    refine XS.aloadN X1.here hx rfl (oh hby D51 6 rfl) rfl rfl ?_
    refine st2 _ ?_
    show oS p e below T2 (mkF m 19 #[vR xb, vR xs, vI 40] [(.int 0), (.ref xb)]) _
    refine XS.iloadN X2.here hx rfl (oh hby D51 8 rfl) rfl ?_
    refine XS.iadd X2.here hx rfl (oh hby D51 9 rfl) rfl ?_
    refine st3.trans ?_
    show oS p e below T3 (mkF m 24 #[vR xb, vR xs, vI 40] []) _
    refine XS.aloadN X3.here hx rfl (oh hby D51 11 rfl) rfl rfl ?_
    refine XS.aloadN X3.here hx rfl (oh hby D51 12 rfl) rfl rfl ?_
    refine st5 _ ?_
    show oS p e below T5 (mkF m 29 #[vR xb, vR xs, vI 40] [(.int 0), (.ref xb)]) _
    refine XS.aloadN X5.here hx rfl (oh hby D51 14 rfl) rfl rfl ?_
    refine st15.trans ?_
    show oS p e below T15 (mkF m 33 #[vR xb, vR xs, vI 40] []) _
    refine XS.aloadN X15.here hx rfl (oh hby D51 16 rfl) rfl rfl ?_
    refine XS.dup X15.here hx rfl (oh hby D51 17 rfl) rfl rfl ?_
    refine st16 _ ?_
    show oS p e below T16 (mkF m 38 #[vR xb, vR xs, vI 40] [(.int 0), (.ref xb)]) _
    refine XS.iloadN X16.here hx rfl (oh hby D51 19 rfl) rfl ?_
    refine XS.iadd X16.here hx rfl (oh hby D51 20 rfl) rfl ?_
    refine st18 _ ?_
    show oS p e below T18 (mkF m 43 #[vR xb, vR xs, vI 40] []) _
    refine XS.aloadN X18.here hx rfl (oh hby D51 22 rfl) rfl rfl ?_
    show oS p e below T18 (mkF m 44 #[vR xb, vR xs, vI 40] [(.ref xb)]) _
    jvm_step X18.here [X18.here.top, hx, (oh hby D51 23 rfl), X18.method', Bd.returns, Value.isRef, FieldType.isReference]
    first | (intro acts; rw [hr _ acts rfl rfl rfl]) | rw [hr _ _ rfl rfl rfl]
    exact Steps.refl _
  · show Q_aap1W Z xb xs t1 k1 va ka ps G fm h0 n0 _ T18.heap _
    rw [e18]
    exact ⟨vb_15, kb_15, rfl, N18, ((((Keep.refl h0 ([xb] : List Addr)).trans K3 (allS (Or.inl (by simp)) all0)).trans K15 (allS (Or.inl (by simp)) all0)).wr W18 (Or.inl (by simp))), c19, c22, F18, c23, (Nat.le_trans K3.1 f15_4), c21⟩
def Q_ap1W (Z : State) (xb : Addr) (xs : Addr) (t1 : Addr) (k1 : ClassId) (va : Addr) (ka : ClassId) (ps : List Int32) (G : Int32) (fm : Value) (h0 : Heap) (n0 : Nat) (v : Option Value) (h : Heap) (L : List Loc) : Prop := ∃ (vb : Addr) (kb : ClassId), (v = some (.ref xb)) ∧ (Fr n0 L) ∧ (Keep h0 h ([xb] : List Addr)) ∧ (fB Z h xb "value" "[B" (.ref vb)) ∧ (fB Z h xb "coder" "B" (.int 1)) ∧ (fB Z h xb "count" "I" (.int 40)) ∧ (fB Z h xb "maybeLatin1" "Z" (.int 0)) ∧ (h0.size ≤ vb) ∧ (Arv Z h vb kb .byte (80 : Int32) (StrChars.Road.wideBytes ps) (.int 0))
set_option maxRecDepth 65536 in
set_option maxHeartbeats 40000000 in
theorem rm_ap1W (l : Launch) (Z : State) (a0 : Array Value) (hw : HW Z a0) (ws : List Jvm.Cond) (xb : Addr) (xs : Addr) (t1 : Addr) (k1 : ClassId) (va : Addr) (ka : ClassId) (ps : List Int32) (G : Int32) (fm : Value) (h0 : Heap) (n0 : Nat) (Z0 : n0 ≤ h0.size) (q0 : sC Z G) (hCS : ¬ (G = (0 : Int32))) (q2 : sF Z fm) (hFM : fm.isRef = true) (q4 : sA Z) (q5 : sH Z) (q6 : sL Z) (q7 : Old Z n0 h0) (q8 : eS Z h0 xs) (q9 : fV Z h0 xs (.ref t1)) (q10 : fC Z h0 xs (.int 1)) (q11 : Arv Z h0 t1 k1 .byte (80 : Int32) (StrChars.Road.wideBytes ps) (.int 0)) (q12 : Exa Z h0 xb "java/lang/StringBuilder") (q13 : fB Z h0 xb "value" "[B" (.ref va)) (q14 : fB Z h0 xb "coder" "B" (.int 0)) (q15 : fB Z h0 xb "count" "I" (.int 0)) (q16 : fB Z h0 xb "maybeLatin1" "Z" (.int 0)) (q17 : Arv Z h0 va ka .byte (16 : Int32) (List.replicate 16 (Value.int 0)) (.int 0)) (q18 : n0 ≤ xb) (q19 : va ≠ xb) (q20 : t1 ≠ va) (q21 : xs ≠ xb) (q22 : xs ≠ va) (q23 : t1 ≠ xb) (hpl : ps.length = 40) (hcdS : StrChars.Road.CodA ps (1 : Int32) (80 : Int32) (StrChars.Road.wideBytes ps)) (hbdS : ∀ c ∈ ps, ¬ c < 0 ∧ ¬ (65535 : Int32) < c) :
    mF l y_53 jdk_67_method_7_code 2 (some (.object "java/lang/StringBuilder")) ws (rmk 9 2 252 130) #[(.ref xb), (.ref xs)] Z h0 (Q_ap1W Z xb xs t1 k1 va ka ps G fm h0 n0) := by
  refine MetFree.of_bodySF (plainFor_of_name pn_3) hisR ?_
  intro p e s m args below meth c s₁ Bd hml0 hP hK
  obtain ⟨rfl, hZ, hh⟩ := hP
  have hx := Bd.exec
  have hby := Bd.bytes
  have hml : c.maxLocals = 2 := hml0
  have hown : s.vm.findClass "java/lang/StringBuilder" = some m.cls := findClass_of_methodNamed Bd.named
  have hnm := (name_of_methodNamed Bd.named Bd.method).1
  have X0 : Stand p l e (rmk 9 2 252 130) s m #[(.ref xb), (.ref xs)] below meth c s₁ [] 0 0 := Stand.of_body Bd
  have e0 : s₁.heap = h0 := by rw [← hh, Bd.state]; rfl
  have N0 := Fr.nil n0
  have pre0 : ∀ t, oS p e below s₁ (mkF m 0 #[vR xb, vR xs] []) t → oS p e below s₁ (entryFrame m #[(.ref xb), (.ref xs)] 2) t := fun t k => castTop (ef_7 m xb xs) k
  obtain ⟨_, _, ⟨T1, L1, k1, n1⟩, -, X1, ⟨Lc1, hQ1, l1, y1, z1⟩, st1⟩ := superBack X0 hx hZ (K := "java/lang/StringBuilder") (y := y_52) hown (ow hw 122 rfl) (own_same (z := y_15) (by decide) rfl (ow hw 133 rfl) (ow hw 123 rfl)) (ow hw 123 rfl) (ow hw 124 rfl) (by decide) (backOf (W := 0) (rm_aap1W l Z a0 hw [] xb xs t1 k1 va ka ps G fm h0 n0 Z0 q0 hCS q2 hFM q4 q5 q6 q7 q8 q9 q10 q11 q12 q13 q14 q15 q16 q17 q18 q19 q20 q21 q22 q23 hpl hcdS hbdS) hZ (ow hw 126 rfl) (ow hw 64 rfl) (by decide) (by decide)) e0 (Ins.self q12) (g := (mkF m 2 #[vR xb, vR xs] [(.ref xs), (.ref xb)])) rfl (by rw [hml]; rfl) (ow hw 126 rfl) (argsL := [(.ref xs)]) (rest := []) (lenOf pd_31 rfl) rfl (by show 2 * 0 + _ ≤ _; exact Nat.le_of_eq rfl) (oh hby D52 2 rfl) (fun _ _ => ⟨rfl, e0, (by decide : 0 + 2 ≤ _), (by decide : 0 + 252 ≤ _)⟩)
  dsimp only [Pt.U, Pt.locs, Pt.cells, Pt.slots] at X1 l1 y1 z1 st1 hQ1
  subst l1 y1 z1
  obtain ⟨vb_1, kb_1, rfl, Nq1, K1, f1_0, f1_1, f1_2, f1_3, f1_4, f1_5⟩ := hQ1
  have N1 := Fr.app N0 Nq1
  obtain ⟨fs, hr, hrun, hended, hW, hsame⟩ := X1.leave (v := some (.ref xb)) (fun h => by rw [Bd.returns] at h; cases h)
  refine ⟨_, _, pre0 _ ?_, hrun, hended, _, _, rfl, ?_, ⟨_, rfl⟩, hW, hsame.mono (by decide) (by decide)⟩
  · refine XS.aloadN X0.here hx rfl (oh hby D52 0 rfl) rfl rfl ?_
    refine XS.aloadN X0.here hx rfl (oh hby D52 1 rfl) rfl rfl ?_
    refine st1.trans ?_
    show oS p e below T1 (mkF m 5 #[vR xb, vR xs] [(.ref xb)]) _
    refine XS.pop X1.here hx rfl (oh hby D52 3 rfl) rfl rfl ?_
    refine XS.aloadN X1.here hx rfl (oh hby D52 4 rfl) rfl rfl ?_
    show oS p e below T1 (mkF m 7 #[vR xb, vR xs] [(.ref xb)]) _
    jvm_step X1.here [X1.here.top, hx, (oh hby D52 5 rfl), X1.method', Bd.returns, Value.isRef, FieldType.isReference]
    first | (intro acts; rw [hr _ acts rfl rfl rfl]) | rw [hr _ _ rfl rfl rfl]
    exact Steps.refl _
  · show Q_ap1W Z xb xs t1 k1 va ka ps G fm h0 n0 _ T1.heap _
    exact ⟨vb_1, kb_1, rfl, N1, ((Keep.refl h0 ([xb] : List Addr)).trans K1 (allS (Or.inl (by simp)) all0)), f1_0, f1_1, f1_2, f1_3, (Nat.le_trans (Nat.le_refl _) f1_4), f1_5⟩
def Q_aap2L (Z : State) (xb : Addr) (xs : Addr) (t1 : Addr) (k1 : ClassId) (va : Addr) (ka : ClassId) (ps : List Int32) (G : Int32) (fm : Value) (h0 : Heap) (n0 : Nat) (v : Option Value) (h : Heap) (L : List Loc) : Prop := ∃ (vb : Addr) (kb : ClassId), (v = some (.ref xb)) ∧ (Fr n0 L) ∧ (Keep h0 h ([xb] : List Addr)) ∧ (fB Z h xb "value" "[B" (.ref vb)) ∧ (fB Z h xb "coder" "B" (.int 0)) ∧ (fB Z h xb "count" "I" (.int 43)) ∧ (fB Z h xb "maybeLatin1" "Z" (.int 0)) ∧ (h0.size ≤ vb) ∧ (Arv Z h vb kb .byte (82 : Int32) ((own_bs ps ++ (List.replicate 42 (Value.int 0))).take 40 ++ own_bs own_dots ++ (own_bs ps ++ (List.replicate 42 (Value.int 0))).drop 43) (.int 0))
set_option maxRecDepth 65536 in
set_option maxHeartbeats 40000000 in
theorem rm_aap2L (l : Launch) (Z : State) (a0 : Array Value) (hw : HW Z a0) (ws : List Jvm.Cond) (xb : Addr) (xs : Addr) (t1 : Addr) (k1 : ClassId) (va : Addr) (ka : ClassId) (ps : List Int32) (G : Int32) (fm : Value) (h0 : Heap) (n0 : Nat) (Z0 : n0 ≤ h0.size) (q0 : sC Z G) (hCS : ¬ (G = (0 : Int32))) (q2 : sF Z fm) (hFM : fm.isRef = true) (q4 : sA Z) (q5 : sH Z) (q6 : sL Z) (q7 : Old Z n0 h0) (q8 : eS Z h0 xs) (q9 : fV Z h0 xs (.ref t1)) (q10 : fC Z h0 xs (.int 0)) (q11 : Arv Z h0 t1 k1 .byte (3 : Int32) [(.int 46), (.int 46), (.int 46)] (.int 0)) (q12 : Exa Z h0 xb "java/lang/StringBuilder") (q13 : fB Z h0 xb "value" "[B" (.ref va)) (q14 : fB Z h0 xb "coder" "B" (.int 0)) (q15 : fB Z h0 xb "count" "I" (.int 40)) (q16 : fB Z h0 xb "maybeLatin1" "Z" (.int 0)) (q17 : Arv Z h0 va ka .byte (40 : Int32) (own_bs ps) (.int 0)) (q18 : n0 ≤ xb) (q19 : va ≠ xb) (q20 : t1 ≠ va) (q21 : xs ≠ xb) (q22 : xs ≠ va) (q23 : t1 ≠ xb) (hpl : ps.length = 40) (hcdS : StrChars.Road.CodA own_dots (0 : Int32) (3 : Int32) [(.int 46), (.int 46), (.int 46)]) (hbdS : ∀ c ∈ own_dots, ¬ c < 0 ∧ ¬ (65535 : Int32) < c) :
    mF l y_52 jdk_68_method_22_code 3 (some (.object "java/lang/AbstractStringBuilder")) ws (rmk 4 1 164 62) #[(.ref xb), (.ref xs)] Z h0 (Q_aap2L Z xb xs t1 k1 va ka ps G fm h0 n0) := by
  refine MetFree.of_bodySF (plainFor_of_name pn_2) hisR ?_
  intro p e s m args below meth c s₁ Bd hml0 hP hK
  obtain ⟨rfl, hZ, hh⟩ := hP
  have hx := Bd.exec
  have hby := Bd.bytes
  have hml : c.maxLocals = 3 := hml0
  have hown : s.vm.findClass "java/lang/AbstractStringBuilder" = some m.cls := findClass_of_methodNamed Bd.named
  have hnm := (name_of_methodNamed Bd.named Bd.method).1
  have X0 : Stand p l e (rmk 4 1 164 62) s m #[(.ref xb), (.ref xs)] below meth c s₁ [] 0 0 := Stand.of_body Bd
  have e0 : s₁.heap = h0 := by rw [← hh, Bd.state]; rfl
  have N0 := Fr.nil n0
  have pre0 : ∀ t, oS p e below s₁ (mkF m 0 #[vR xb, vR xs, .unset] []) t → oS p e below s₁ (entryFrame m #[(.ref xb), (.ref xs)] 3) t := fun t k => castTop (ef_24 m xb xs) k
  have hnl : Int32.ofNat (own_dots).length = (3 : Int32) := by rfl
  obtain ⟨cq1, kq1, q1a, q1b, q1c⟩ := isOf hZ e0 q8
  obtain ⟨_, _, ⟨T1, L1, k1, n1⟩, -, X1, ⟨Lc1, hQ1, l1, y1, z1⟩, st1⟩ := X0.virtualBack hx (y := y_40) (z := y_40) hown (mvT hZ (ow hw 127 rfl)) (mvT hZ (ow hw 28 rfl)) (notFace_of_selects (args := #[]) (mvT hZ (ow hw 30 rfl))) (mvT hZ (ow hw 30 rfl)) (mvT hZ (ow hw 29 rfl)) (by decide) (StrChars.Road.lenW (W := 0) hZ (own_hw_lenW hw) (kI := 4) (ow hw 3 rfl) q8 q9 q10 q11 hcdS hbdS (q0.ext q7.2) hCS (by decide) (by decide) (by decide)) q1a q1c (g := (mkF m 10 #[vR xb, vR xs, .unset] [(.ref xs)])) rfl (by rw [hml]; rfl) (Steps.refl _) (argsL := []) (rest := []) (lenOf pd_8 rfl) rfl (by show 2 * 0 + _ ≤ _; exact Nat.le_of_eq rfl) (oh hby D51 3 rfl) (fun _ _ => ⟨rfl, e0, (by decide : 0 + 0 ≤ _), (by decide : 0 + 0 ≤ _)⟩)
  dsimp only [Pt.U, Pt.locs, Pt.cells, Pt.slots] at X1 l1 y1 z1 st1 hQ1
  subst l1 y1 z1
  obtain ⟨rfl, rfl, e1⟩ := hQ1
  have N1 := Fr.app N0 (Fr.nil n0)
  obtain ⟨T2, X2, e2, st2⟩ := getF X1 hx hZ hown (host := "") (Or.inl (ow hw 128 rfl)) Via.refl e1 q15 (g := (mkF m 16 #[vR xb, vR xs, vI 3] [(.ref xb), (.ref xb)])) rfl rfl (oh hby D51 7 rfl)
  obtain ⟨cq3, q3_, q3_'⟩ := q12.cell
  obtain ⟨_, _, ⟨T3, L3, k3, n3⟩, -, X3, ⟨Lc3, hQ3, l3, y3, z3⟩, st3⟩ := X2.privateBack hx (y := y_15) hown (mvT hZ (ow hw 130 rfl)) (mvT hZ (ow hw 131 rfl)) (own_selpriv (by decide) (mvT hZ (ow hw 133 rfl)) (mvP hZ (ow hw 132 rfl)) (mvT hZ (ow hw 131 rfl))) (Cond.privateMethod_at (mvP hZ (ow hw 132 rfl) (args := #[]))) (mvT hZ (ow hw 134 rfl)) (by decide) (backOf (W := 0) (rm_ec40 l Z a0 hw [] xb va ka (own_bs ps) (40 : Int32) h0 n0 Z0 q12 q18 q13 q14 q17 q15 q16 q19 ((by rw [own_bsl]; exact hpl))) hZ (ow hw 134 rfl) (ow hw 64 rfl) (by decide) (by decide)) (g := (mkF m 21 #[vR xb, vR xs, vI 3] [(.int 43), (.ref xb)])) rfl (by rw [hml]; rfl) (Steps.refl _) (a := xb) (by rw [e2]; exact q3_) q3_' (argsL := [(.int 43)]) (rest := []) (lenOf pd_23 rfl) rfl (by show 2 * 0 + _ ≤ _; exact Nat.le_of_eq rfl) (oh hby D51 10 rfl) (fun _ _ => ⟨rfl, e2, (by decide : 0 + 1 ≤ _), (by decide : 0 + 164 ≤ _)⟩)
  dsimp only [Pt.U, Pt.locs, Pt.cells, Pt.slots] at X3 l3 y3 z3 st3 hQ3
  subst l3 y3 z3
  obtain ⟨vb_3, kb_3, rfl, Nq3, K3, f3_0, f3_1, f3_2, f3_3, f3_4, f3_5⟩ := hQ3
  have N3 := Fr.app N1 Nq3
  obtain ⟨T4, X4, e4, st4⟩ := getF X3 hx hZ hown (host := "") (Or.inl (ow hw 128 rfl)) Via.refl rfl f3_1 (g := (mkF m 26 #[vR xb, vR xs, vI 3] [(.ref xb), (.ref xb)])) rfl rfl (oh hby D51 13 rfl)
  have c5 := (q7.keep K3 (allS q18 all0))
  have c6 := (q8.keep K3)
  have c7 := (q9.keep K3 (ninS q21 nin0))
  have c8 := (q10.keep K3 (ninS q21 nin0))
  have c9 := (q11.keep K3 (ninS q23 nin0))
  have c10 := (q12.keep K3)
  have ne11 : xb ≠ vb_3 := Nat.ne_of_lt (Nat.lt_of_lt_of_le q12.lt f3_4)
  have ne12 : t1 ≠ vb_3 := Nat.ne_of_lt (Nat.lt_of_lt_of_le q11.lt f3_4)
  have ne13 : xs ≠ vb_3 := Nat.ne_of_lt (Nat.lt_of_lt_of_le q8.lt f3_4)
  have ge14 : n0 ≤ vb_3 := Nat.le_trans Z0 (Nat.le_trans (Nat.le_refl _) f3_4)
  obtain ⟨cq15, q15_, q15_'⟩ := c10.cell
  obtain ⟨_, _, ⟨T15, L15, k15, n15⟩, -, X15, ⟨Lc15, hQ15, l15, y15, z15⟩, st15⟩ := X4.privateBack hx (y := y_51) hown (mvT hZ (ow hw 152 rfl)) (mvT hZ (ow hw 153 rfl)) (own_selpriv (by decide) (mvT hZ (ow hw 155 rfl)) (mvP hZ (ow hw 154 rfl)) (mvT hZ (ow hw 153 rfl))) (Cond.privateMethod_at (mvP hZ (ow hw 154 rfl) (args := #[]))) (mvT hZ (ow hw 156 rfl)) (by decide) (backOf (W := 0) (rm_ps2L l Z a0 hw [] xb xs t1 k1 vb_3 kb_3 ps G fm T3.heap n0 (Nat.le_trans Z0 K3.1) q0 hCS q2 hFM q4 q5 q6 c5 c6 c7 c8 c9 c10 f3_3 f3_0 f3_1 f3_2 f3_5 q18 (Ne.symm ne11) ne12 q21 ne13 q23 ge14 hpl) hZ (ow hw 156 rfl) (ow hw 64 rfl) (by decide) (by decide)) (g := (mkF m 30 #[vR xb, vR xs, vI 3] [(.ref xs), (.int 40), (.ref xb)])) rfl (by rw [hml]; rfl) (Steps.refl _) (a := xb) (by rw [e4]; exact q15_) q15_' (argsL := [(.int 40), (.ref xs)]) (rest := []) (lenOf pd_30 rfl) rfl (by show 2 * 0 + _ ≤ _; exact Nat.le_of_eq rfl) (oh hby D51 15 rfl) (fun _ _ => ⟨rfl, e4, (by decide : 1 + 0 ≤ _), (by decide : 164 + 0 ≤ _)⟩)
  dsimp only [Pt.U, Pt.locs, Pt.cells, Pt.slots] at X15 l15 y15 z15 st15 hQ15
  subst l15 y15 z15
  obtain ⟨rfl, Nq15, K15, f15_0⟩ := hQ15
  have N15 := Fr.app N3 Nq15
  have c16 := (f3_1.keep K15 (ninS ne11 nin0))
  obtain ⟨T17, X17, e17, st17⟩ := getF X15 hx hZ hown (host := "") (Or.inl (ow hw 128 rfl)) Via.refl rfl c16 (g := (mkF m 35 #[vR xb, vR xs, vI 3] [(.ref xb), (.ref xb)])) rfl rfl (oh hby D51 18 rfl)
  have c18 := (c10.keep K15)
  obtain ⟨T19, h19, X19, e19, W19, st19⟩ := putF X17 hx hZ hown (host := "") (Or.inl (ow hw 128 rfl)) Via.refl e17 c16 c18 (Or.inl (ow hw 129 rfl)) (ow hw 55 rfl) (ty := .int) (by decide) rfl rfl (g := (mkF m 40 #[vR xb, vR xs, vI 3] [(.int 43), (.ref xb)])) rfl rfl (oh hby D51 21 rfl)
  have N19 := Fr.snoc X19 N15 q18
  have F19 : fB Z h19 xb "count" "I" (.int 43) := c16.same W19
  have c20 := ((f3_3.keep K15 (ninS ne11 nin0)).other W19 (Or.inr (slot_ne (Or.inl (ow hw 69 rfl)) (Or.inl (ow hw 129 rfl)) (by decide) (t := (.array .byte)) (t' := .int) (by decide) (by decide))))
  have c21 := (f15_0.other W19 (Ne.symm ne11))
  have c22 := ((f3_0.keep K15 (ninS ne11 nin0)).other W19 (Or.inr (slot_ne (Or.inl (ow hw 71 rfl)) (Or.inl (ow hw 129 rfl)) (by decide) (t := .byte) (t' := .int) (by decide) (by decide))))
  have c23 := ((f3_2.keep K15 (ninS ne11 nin0)).other W19 (Or.inr (slot_ne (Or.inl (ow hw 276 rfl)) (Or.inl (ow hw 129 rfl)) (by decide) (t := .boolean) (t' := .int) (by decide) (by decide))))
  obtain ⟨fs, hr, hrun, hended, hW, hsame⟩ := X19.leave (v := some (.ref xb)) (fun h => by rw [Bd.returns] at h; cases h)
  refine ⟨_, _, pre0 _ ?_, hrun, hended, _, _, rfl, ?_, ⟨_, rfl⟩, hW, hsame.mono (by decide) (by decide)⟩
  · refine XS.aloadN X0.here hx rfl (oh hby D51 0 rfl) rfl rfl ?_
    refine XS.ifnonnullYes X0.here hx rfl (pc0 := 1) (pc' := 9) rfl (oh hby D51 1 rfl) rfl (by decide) (by decide) ?_
    refine XS.aloadN X0.here hx rfl (oh hby D51 2 rfl) rfl rfl ?_
    refine st1.trans ?_
    show oS p e below T1 (mkF m 13 #[vR xb, vR xs, .unset] [(.int (Int32.ofNat (own_dots).length))]) _
    rw [hnl]
    show oS p e below T1 (mkF m 13 #[vR xb, vR xs, .unset] [(.int 3)]) _
    refine XS.istoreN X1.here hx rfl (oh hby D51 4 rfl) rfl (l' := #[vR xb, vR xs, vI 3]) rfl ?_
    refine XS.aloadN X1.here hx rfl (oh hby D51 5 rfl) rfl rfl ?_
    refine XS.aloadN X1.here hx rfl (oh hby D51 6 rfl) rfl rfl ?_
    refine st2 _ ?_
    show oS p e below T2 (mkF m 19 #[vR xb, vR xs, vI 3] [(.int 40), (.ref xb)]) _
    refine XS.iloadN X2.here hx rfl (oh hby D51 8 rfl) rfl ?_
    refine XS.iadd X2.here hx rfl (oh hby D51 9 rfl) rfl ?_
    refine st3.trans ?_
    show oS p e below T3 (mkF m 24 #[vR xb, vR xs, vI 3] []) _
    refine XS.aloadN X3.here hx rfl (oh hby D51 11 rfl) rfl rfl ?_
    refine XS.aloadN X3.here hx rfl (oh hby D51 12 rfl) rfl rfl ?_
    refine st4 _ ?_
    show oS p e below T4 (mkF m 29 #[vR xb, vR xs, vI 3] [(.int 40), (.ref xb)]) _
    refine XS.aloadN X4.here hx rfl (oh hby D51 14 rfl) rfl rfl ?_
    refine st15.trans ?_
    show oS p e below T15 (mkF m 33 #[vR xb, vR xs, vI 3] []) _
    refine XS.aloadN X15.here hx rfl (oh hby D51 16 rfl) rfl rfl ?_
    refine XS.dup X15.here hx rfl (oh hby D51 17 rfl) rfl rfl ?_
    refine st17 _ ?_
    show oS p e below T17 (mkF m 38 #[vR xb, vR xs, vI 3] [(.int 40), (.ref xb)]) _
    refine XS.iloadN X17.here hx rfl (oh hby D51 19 rfl) rfl ?_
    refine XS.iadd X17.here hx rfl (oh hby D51 20 rfl) rfl ?_
    refine st19 _ ?_
    show oS p e below T19 (mkF m 43 #[vR xb, vR xs, vI 3] []) _
    refine XS.aloadN X19.here hx rfl (oh hby D51 22 rfl) rfl rfl ?_
    show oS p e below T19 (mkF m 44 #[vR xb, vR xs, vI 3] [(.ref xb)]) _
    jvm_step X19.here [X19.here.top, hx, (oh hby D51 23 rfl), X19.method', Bd.returns, Value.isRef, FieldType.isReference]
    first | (intro acts; rw [hr _ acts rfl rfl rfl]) | rw [hr _ _ rfl rfl rfl]
    exact Steps.refl _
  · show Q_aap2L Z xb xs t1 k1 va ka ps G fm h0 n0 _ T19.heap _
    rw [e19]
    exact ⟨vb_3, kb_3, rfl, N19, ((((Keep.refl h0 ([xb] : List Addr)).trans K3 (allS (Or.inl (by simp)) all0)).trans K15 (allS (Or.inr (Nat.le_trans (Nat.le_refl _) f3_4)) all0)).wr W19 (Or.inl (by simp))), c20, c22, F19, c23, (Nat.le_trans (Nat.le_refl _) f3_4), c21⟩
def Q_ap2L (Z : State) (xb : Addr) (xs : Addr) (t1 : Addr) (k1 : ClassId) (va : Addr) (ka : ClassId) (ps : List Int32) (G : Int32) (fm : Value) (h0 : Heap) (n0 : Nat) (v : Option Value) (h : Heap) (L : List Loc) : Prop := ∃ (vb : Addr) (kb : ClassId), (v = some (.ref xb)) ∧ (Fr n0 L) ∧ (Keep h0 h ([xb] : List Addr)) ∧ (fB Z h xb "value" "[B" (.ref vb)) ∧ (fB Z h xb "coder" "B" (.int 0)) ∧ (fB Z h xb "count" "I" (.int 43)) ∧ (fB Z h xb "maybeLatin1" "Z" (.int 0)) ∧ (h0.size ≤ vb) ∧ (Arv Z h vb kb .byte (82 : Int32) ((own_bs ps ++ (List.replicate 42 (Value.int 0))).take 40 ++ own_bs own_dots ++ (own_bs ps ++ (List.replicate 42 (Value.int 0))).drop 43) (.int 0))
set_option maxRecDepth 65536 in
set_option maxHeartbeats 40000000 in
theorem rm_ap2L (l : Launch) (Z : State) (a0 : Array Value) (hw : HW Z a0) (ws : List Jvm.Cond) (xb : Addr) (xs : Addr) (t1 : Addr) (k1 : ClassId) (va : Addr) (ka : ClassId) (ps : List Int32) (G : Int32) (fm : Value) (h0 : Heap) (n0 : Nat) (Z0 : n0 ≤ h0.size) (q0 : sC Z G) (hCS : ¬ (G = (0 : Int32))) (q2 : sF Z fm) (hFM : fm.isRef = true) (q4 : sA Z) (q5 : sH Z) (q6 : sL Z) (q7 : Old Z n0 h0) (q8 : eS Z h0 xs) (q9 : fV Z h0 xs (.ref t1)) (q10 : fC Z h0 xs (.int 0)) (q11 : Arv Z h0 t1 k1 .byte (3 : Int32) [(.int 46), (.int 46), (.int 46)] (.int 0)) (q12 : Exa Z h0 xb "java/lang/StringBuilder") (q13 : fB Z h0 xb "value" "[B" (.ref va)) (q14 : fB Z h0 xb "coder" "B" (.int 0)) (q15 : fB Z h0 xb "count" "I" (.int 40)) (q16 : fB Z h0 xb "maybeLatin1" "Z" (.int 0)) (q17 : Arv Z h0 va ka .byte (40 : Int32) (own_bs ps) (.int 0)) (q18 : n0 ≤ xb) (q19 : va ≠ xb) (q20 : t1 ≠ va) (q21 : xs ≠ xb) (q22 : xs ≠ va) (q23 : t1 ≠ xb) (hpl : ps.length = 40) (hcdS : StrChars.Road.CodA own_dots (0 : Int32) (3 : Int32) [(.int 46), (.int 46), (.int 46)]) (hbdS : ∀ c ∈ own_dots, ¬ c < 0 ∧ ¬ (65535 : Int32) < c) :
    mF l y_53 jdk_67_method_7_code 2 (some (.object "java/lang/StringBuilder")) ws (rmk 5 1 164 76) #[(.ref xb), (.ref xs)] Z h0 (Q_ap2L Z xb xs t1 k1 va ka ps G fm h0 n0) := by
  refine MetFree.of_bodySF (plainFor_of_name pn_3) hisR ?_
  intro p e s m args below meth c s₁ Bd hml0 hP hK
  obtain ⟨rfl, hZ, hh⟩ := hP
  have hx := Bd.exec
  have hby := Bd.bytes
  have hml : c.maxLocals = 2 := hml0
  have hown : s.vm.findClass "java/lang/StringBuilder" = some m.cls := findClass_of_methodNamed Bd.named
  have hnm := (name_of_methodNamed Bd.named Bd.method).1
  have X0 : Stand p l e (rmk 5 1 164 76) s m #[(.ref xb), (.ref xs)] below meth c s₁ [] 0 0 := Stand.of_body Bd
  have e0 : s₁.heap = h0 := by rw [← hh, Bd.state]; rfl
  have N0 := Fr.nil n0
  have pre0 : ∀ t, oS p e below s₁ (mkF m 0 #[vR xb, vR xs] []) t → oS p e below s₁ (entryFrame m #[(.ref xb), (.ref xs)] 2) t := fun t k => castTop (ef_7 m xb xs) k
  obtain ⟨_, _, ⟨T1, L1, k1, n1⟩, -, X1, ⟨Lc1, hQ1, l1, y1, z1⟩, st1⟩ := superBack X0 hx hZ (K := "java/lang/StringBuilder") (y := y_52) hown (ow hw 122 rfl) (own_same (z := y_15) (by decide) rfl (ow hw 133 rfl) (ow hw 123 rfl)) (ow hw 123 rfl) (ow hw 124 rfl) (by decide) (backOf (W := 0) (rm_aap2L l Z a0 hw [] xb xs t1 k1 va ka ps G fm h0 n0 Z0 q0 hCS q2 hFM q4 q5 q6 q7 q8 q9 q10 q11 q12 q13 q14 q15 q16 q17 q18 q19 q20 q21 q22 q23 hpl hcdS hbdS) hZ (ow hw 126 rfl) (ow hw 64 rfl) (by decide) (by decide)) e0 (Ins.self q12) (g := (mkF m 2 #[vR xb, vR xs] [(.ref xs), (.ref xb)])) rfl (by rw [hml]; rfl) (ow hw 126 rfl) (argsL := [(.ref xs)]) (rest := []) (lenOf pd_31 rfl) rfl (by show 2 * 0 + _ ≤ _; exact Nat.le_of_eq rfl) (oh hby D52 2 rfl) (fun _ _ => ⟨rfl, e0, (by decide : 0 + 1 ≤ _), (by decide : 0 + 164 ≤ _)⟩)
  dsimp only [Pt.U, Pt.locs, Pt.cells, Pt.slots] at X1 l1 y1 z1 st1 hQ1
  subst l1 y1 z1
  obtain ⟨vb_1, kb_1, rfl, Nq1, K1, f1_0, f1_1, f1_2, f1_3, f1_4, f1_5⟩ := hQ1
  have N1 := Fr.app N0 Nq1
  obtain ⟨fs, hr, hrun, hended, hW, hsame⟩ := X1.leave (v := some (.ref xb)) (fun h => by rw [Bd.returns] at h; cases h)
  refine ⟨_, _, pre0 _ ?_, hrun, hended, _, _, rfl, ?_, ⟨_, rfl⟩, hW, hsame.mono (by decide) (by decide)⟩
  · refine XS.aloadN X0.here hx rfl (oh hby D52 0 rfl) rfl rfl ?_
    refine XS.aloadN X0.here hx rfl (oh hby D52 1 rfl) rfl rfl ?_
    refine st1.trans ?_
    show oS p e below T1 (mkF m 5 #[vR xb, vR xs] [(.ref xb)]) _
    refine XS.pop X1.here hx rfl (oh hby D52 3 rfl) rfl rfl ?_
    refine XS.aloadN X1.here hx rfl (oh hby D52 4 rfl) rfl rfl ?_
    show oS p e below T1 (mkF m 7 #[vR xb, vR xs] [(.ref xb)]) _
    jvm_step X1.here [X1.here.top, hx, (oh hby D52 5 rfl), X1.method', Bd.returns, Value.isRef, FieldType.isReference]
    first | (intro acts; rw [hr _ acts rfl rfl rfl]) | rw [hr _ _ rfl rfl rfl]
    exact Steps.refl _
  · show Q_ap2L Z xb xs t1 k1 va ka ps G fm h0 n0 _ T1.heap _
    exact ⟨vb_1, kb_1, rfl, N1, ((Keep.refl h0 ([xb] : List Addr)).trans K1 (allS (Or.inl (by simp)) all0)), f1_0, f1_1, f1_2, f1_3, (Nat.le_trans (Nat.le_refl _) f1_4), f1_5⟩
def Q_aap2W (Z : State) (xb : Addr) (xs : Addr) (t1 : Addr) (k1 : ClassId) (va : Addr) (ka : ClassId) (ps : List Int32) (G : Int32) (fm : Value) (h0 : Heap) (n0 : Nat) (v : Option Value) (h : Heap) (L : List Loc) : Prop := ∃ (vb : Addr) (kb : ClassId), (v = some (.ref xb)) ∧ (Fr n0 L) ∧ (Keep h0 h ([xb] : List Addr)) ∧ (fB Z h xb "value" "[B" (.ref vb)) ∧ (fB Z h xb "coder" "B" (.int 1)) ∧ (fB Z h xb "count" "I" (.int 43)) ∧ (fB Z h xb "maybeLatin1" "Z" (.int 0)) ∧ (h0.size ≤ vb) ∧ (Arv Z h vb kb .byte (164 : Int32) (StrChars.Road.wideBytes (ps ++ own_dots) ++ (List.replicate 78 (Value.int 0))) (.int 0))
set_option maxRecDepth 65536 in
set_option maxHeartbeats 40000000 in
theorem rm_aap2W (l : Launch) (Z : State) (a0 : Array Value) (hw : HW Z a0) (ws : List Jvm.Cond) (xb : Addr) (xs : Addr) (t1 : Addr) (k1 : ClassId) (va : Addr) (ka : ClassId) (ps : List Int32) (G : Int32) (fm : Value) (h0 : Heap) (n0 : Nat) (Z0 : n0 ≤ h0.size) (q0 : sC Z G) (hCS : ¬ (G = (0 : Int32))) (q2 : sF Z fm) (hFM : fm.isRef = true) (q4 : sA Z) (q5 : sH Z) (q6 : sL Z) (q7 : Old Z n0 h0) (q8 : eS Z h0 xs) (q9 : fV Z h0 xs (.ref t1)) (q10 : fC Z h0 xs (.int 0)) (q11 : Arv Z h0 t1 k1 .byte (3 : Int32) [(.int 46), (.int 46), (.int 46)] (.int 0)) (q12 : Exa Z h0 xb "java/lang/StringBuilder") (q13 : fB Z h0 xb "value" "[B" (.ref va)) (q14 : fB Z h0 xb "coder" "B" (.int 1)) (q15 : fB Z h0 xb "count" "I" (.int 40)) (q16 : fB Z h0 xb "maybeLatin1" "Z" (.int 0)) (q17 : Arv Z h0 va ka .byte (80 : Int32) (StrChars.Road.wideBytes ps) (.int 0)) (q18 : n0 ≤ xb) (q19 : va ≠ xb) (q20 : t1 ≠ va) (q21 : xs ≠ xb) (q22 : xs ≠ va) (q23 : t1 ≠ xb) (hpl : ps.length = 40) (hcdS : StrChars.Road.CodA own_dots (0 : Int32) (3 : Int32) [(.int 46), (.int 46), (.int 46)]) (hbdS : ∀ c ∈ own_dots, ¬ c < 0 ∧ ¬ (65535 : Int32) < c) :
    mF l y_52 jdk_68_method_22_code 3 (some (.object "java/lang/AbstractStringBuilder")) ws (rmk 7 1 164 105) #[(.ref xb), (.ref xs)] Z h0 (Q_aap2W Z xb xs t1 k1 va ka ps G fm h0 n0) := by
  refine MetFree.of_bodySF (plainFor_of_name pn_2) hisR ?_
  intro p e s m args below meth c s₁ Bd hml0 hP hK
  obtain ⟨rfl, hZ, hh⟩ := hP
  have hx := Bd.exec
  have hby := Bd.bytes
  have hml : c.maxLocals = 3 := hml0
  have hown : s.vm.findClass "java/lang/AbstractStringBuilder" = some m.cls := findClass_of_methodNamed Bd.named
  have hnm := (name_of_methodNamed Bd.named Bd.method).1
  have X0 : Stand p l e (rmk 7 1 164 105) s m #[(.ref xb), (.ref xs)] below meth c s₁ [] 0 0 := Stand.of_body Bd
  have e0 : s₁.heap = h0 := by rw [← hh, Bd.state]; rfl
  have N0 := Fr.nil n0
  have pre0 : ∀ t, oS p e below s₁ (mkF m 0 #[vR xb, vR xs, .unset] []) t → oS p e below s₁ (entryFrame m #[(.ref xb), (.ref xs)] 3) t := fun t k => castTop (ef_24 m xb xs) k
  have hnl : Int32.ofNat (own_dots).length = (3 : Int32) := by rfl
  obtain ⟨cq1, kq1, q1a, q1b, q1c⟩ := isOf hZ e0 q8
  obtain ⟨_, _, ⟨T1, L1, k1, n1⟩, -, X1, ⟨Lc1, hQ1, l1, y1, z1⟩, st1⟩ := X0.virtualBack hx (y := y_40) (z := y_40) hown (mvT hZ (ow hw 127 rfl)) (mvT hZ (ow hw 28 rfl)) (notFace_of_selects (args := #[]) (mvT hZ (ow hw 30 rfl))) (mvT hZ (ow hw 30 rfl)) (mvT hZ (ow hw 29 rfl)) (by decide) (StrChars.Road.lenW (W := 0) hZ (own_hw_lenW hw) (kI := 4) (ow hw 3 rfl) q8 q9 q10 q11 hcdS hbdS (q0.ext q7.2) hCS (by decide) (by decide) (by decide)) q1a q1c (g := (mkF m 10 #[vR xb, vR xs, .unset] [(.ref xs)])) rfl (by rw [hml]; rfl) (Steps.refl _) (argsL := []) (rest := []) (lenOf pd_8 rfl) rfl (by show 2 * 0 + _ ≤ _; exact Nat.le_of_eq rfl) (oh hby D51 3 rfl) (fun _ _ => ⟨rfl, e0, (by decide : 0 + 0 ≤ _), (by decide : 0 + 0 ≤ _)⟩)
  dsimp only [Pt.U, Pt.locs, Pt.cells, Pt.slots] at X1 l1 y1 z1 st1 hQ1
  subst l1 y1 z1
  obtain ⟨rfl, rfl, e1⟩ := hQ1
  have N1 := Fr.app N0 (Fr.nil n0)
  obtain ⟨T2, X2, e2, st2⟩ := getF X1 hx hZ hown (host := "") (Or.inl (ow hw 128 rfl)) Via.refl e1 q15 (g := (mkF m 16 #[vR xb, vR xs, vI 3] [(.ref xb), (.ref xb)])) rfl rfl (oh hby D51 7 rfl)
  obtain ⟨cq3, q3_, q3_'⟩ := q12.cell
  obtain ⟨_, _, ⟨T3, L3, k3, n3⟩, -, X3, ⟨Lc3, hQ3, l3, y3, z3⟩, st3⟩ := X2.privateBack hx (y := y_15) hown (mvT hZ (ow hw 130 rfl)) (mvT hZ (ow hw 131 rfl)) (own_selpriv (by decide) (mvT hZ (ow hw 133 rfl)) (mvP hZ (ow hw 132 rfl)) (mvT hZ (ow hw 131 rfl))) (Cond.privateMethod_at (mvP hZ (ow hw 132 rfl) (args := #[]))) (mvT hZ (ow hw 134 rfl)) (by decide) (backOf (W := 0) (rm_ec80 l Z a0 hw [] xb va ka (StrChars.Road.wideBytes ps) (40 : Int32) h0 n0 Z0 q12 q18 q13 q14 q17 q15 q16 q19 ((by rw [own_widelen, hpl]))) hZ (ow hw 134 rfl) (ow hw 64 rfl) (by decide) (by decide)) (g := (mkF m 21 #[vR xb, vR xs, vI 3] [(.int 43), (.ref xb)])) rfl (by rw [hml]; rfl) (Steps.refl _) (a := xb) (by rw [e2]; exact q3_) q3_' (argsL := [(.int 43)]) (rest := []) (lenOf pd_23 rfl) rfl (by show 2 * 0 + _ ≤ _; exact Nat.le_of_eq rfl) (oh hby D51 10 rfl) (fun _ _ => ⟨rfl, e2, (by decide : 0 + 1 ≤ _), (by decide : 0 + 164 ≤ _)⟩)
  dsimp only [Pt.U, Pt.locs, Pt.cells, Pt.slots] at X3 l3 y3 z3 st3 hQ3
  subst l3 y3 z3
  obtain ⟨vb_3, kb_3, rfl, Nq3, K3, f3_0, f3_1, f3_2, f3_3, f3_4, f3_5⟩ := hQ3
  have N3 := Fr.app N1 Nq3
  obtain ⟨T4, X4, e4, st4⟩ := getF X3 hx hZ hown (host := "") (Or.inl (ow hw 128 rfl)) Via.refl rfl f3_1 (g := (mkF m 26 #[vR xb, vR xs, vI 3] [(.ref xb), (.ref xb)])) rfl rfl (oh hby D51 13 rfl)
  have c5 := (q7.keep K3 (allS q18 all0))
  have c6 := (q8.keep K3)
  have c7 := (q9.keep K3 (ninS q21 nin0))
  have c8 := (q10.keep K3 (ninS q21 nin0))
  have c9 := (q11.keep K3 (ninS q23 nin0))
  have c10 := (q12.keep K3)
  have ne11 : xb ≠ vb_3 := Nat.ne_of_lt (Nat.lt_of_lt_of_le q12.lt f3_4)
  have ne12 : t1 ≠ vb_3 := Nat.ne_of_lt (Nat.lt_of_lt_of_le q11.lt f3_4)
  have ne13 : xs ≠ vb_3 := Nat.ne_of_lt (Nat.lt_of_lt_of_le q8.lt f3_4)
  have ge14 : n0 ≤ vb_3 := Nat.le_trans Z0 (Nat.le_trans (Nat.le_refl _) f3_4)
  obtain ⟨cq15, q15_, q15_'⟩ := c10.cell
  obtain ⟨_, _, ⟨T15, L15, k15, n15⟩, -, X15, ⟨Lc15, hQ15, l15, y15, z15⟩, st15⟩ := X4.privateBack hx (y := y_51) hown (mvT hZ (ow hw 152 rfl)) (mvT hZ (ow hw 153 rfl)) (own_selpriv (by decide) (mvT hZ (ow hw 155 rfl)) (mvP hZ (ow hw 154 rfl)) (mvT hZ (ow hw 153 rfl))) (Cond.privateMethod_at (mvP hZ (ow hw 154 rfl) (args := #[]))) (mvT hZ (ow hw 156 rfl)) (by decide) (backOf (W := 0) (rm_ps2W l Z a0 hw [] xb xs t1 k1 vb_3 kb_3 ps G fm T3.heap n0 (Nat.le_trans Z0 K3.1) q0 hCS q2 hFM q4 q5 q6 c5 c6 c7 c8 c9 c10 f3_3 f3_0 f3_1 f3_2 f3_5 q18 (Ne.symm ne11) ne12 q21 ne13 q23 ge14 hpl) hZ (ow hw 156 rfl) (ow hw 64 rfl) (by decide) (by decide)) (g := (mkF m 30 #[vR xb, vR xs, vI 3] [(.ref xs), (.int 40), (.ref xb)])) rfl (by rw [hml]; rfl) (Steps.refl _) (a := xb) (by rw [e4]; exact q15_) q15_' (argsL := [(.int 40), (.ref xs)]) (rest := []) (lenOf pd_30 rfl) rfl (by show 2 * 0 + _ ≤ _; exact Nat.le_of_eq rfl) (oh hby D51 15 rfl) (fun _ _ => ⟨rfl, e4, (by decide : 1 + 0 ≤ _), (by decide : 164 + 0 ≤ _)⟩)
  dsimp only [Pt.U, Pt.locs, Pt.cells, Pt.slots] at X15 l15 y15 z15 st15 hQ15
  subst l15 y15 z15
  obtain ⟨rfl, Nq15, K15, f15_0⟩ := hQ15
  have N15 := Fr.app N3 Nq15
  have c16 := (f3_1.keep K15 (ninS ne11 nin0))
  obtain ⟨T17, X17, e17, st17⟩ := getF X15 hx hZ hown (host := "") (Or.inl (ow hw 128 rfl)) Via.refl rfl c16 (g := (mkF m 35 #[vR xb, vR xs, vI 3] [(.ref xb), (.ref xb)])) rfl rfl (oh hby D51 18 rfl)
  have c18 := (c10.keep K15)
  obtain ⟨T19, h19, X19, e19, W19, st19⟩ := putF X17 hx hZ hown (host := "") (Or.inl (ow hw 128 rfl)) Via.refl e17 c16 c18 (Or.inl (ow hw 129 rfl)) (ow hw 55 rfl) (ty := .int) (by decide) rfl rfl (g := (mkF m 40 #[vR xb, vR xs, vI 3] [(.int 43), (.ref xb)])) rfl rfl (oh hby D51 21 rfl)
  have N19 := Fr.snoc X19 N15 q18
  have F19 : fB Z h19 xb "count" "I" (.int 43) := c16.same W19
  have c20 := ((f3_3.keep K15 (ninS ne11 nin0)).other W19 (Or.inr (slot_ne (Or.inl (ow hw 69 rfl)) (Or.inl (ow hw 129 rfl)) (by decide) (t := (.array .byte)) (t' := .int) (by decide) (by decide))))
  have c21 := (f15_0.other W19 (Ne.symm ne11))
  have c22 := ((f3_0.keep K15 (ninS ne11 nin0)).other W19 (Or.inr (slot_ne (Or.inl (ow hw 71 rfl)) (Or.inl (ow hw 129 rfl)) (by decide) (t := .byte) (t' := .int) (by decide) (by decide))))
  have c23 := ((f3_2.keep K15 (ninS ne11 nin0)).other W19 (Or.inr (slot_ne (Or.inl (ow hw 276 rfl)) (Or.inl (ow hw 129 rfl)) (by decide) (t := .boolean) (t' := .int) (by decide) (by decide))))
  obtain ⟨fs, hr, hrun, hended, hW, hsame⟩ := X19.leave (v := some (.ref xb)) (fun h => by rw [Bd.returns] at h; cases h)
  refine ⟨_, _, pre0 _ ?_, hrun, hended, _, _, rfl, ?_, ⟨_, rfl⟩, hW, hsame.mono (by decide) (by decide)⟩
  · refine XS.aloadN X0.here hx rfl (oh hby D51 0 rfl) rfl rfl ?_
    refine XS.ifnonnullYes X0.here hx rfl (pc0 := 1) (pc' := 9) rfl (oh hby D51 1 rfl) rfl (by decide) (by decide) ?_
    refine XS.aloadN X0.here hx rfl (oh hby D51 2 rfl) rfl rfl ?_
    refine st1.trans ?_
    show oS p e below T1 (mkF m 13 #[vR xb, vR xs, .unset] [(.int (Int32.ofNat (own_dots).length))]) _
    rw [hnl]
    show oS p e below T1 (mkF m 13 #[vR xb, vR xs, .unset] [(.int 3)]) _
    refine XS.istoreN X1.here hx rfl (oh hby D51 4 rfl) rfl (l' := #[vR xb, vR xs, vI 3]) rfl ?_
    refine XS.aloadN X1.here hx rfl (oh hby D51 5 rfl) rfl rfl ?_
    refine XS.aloadN X1.here hx rfl (oh hby D51 6 rfl) rfl rfl ?_
    refine st2 _ ?_
    show oS p e below T2 (mkF m 19 #[vR xb, vR xs, vI 3] [(.int 40), (.ref xb)]) _
    refine XS.iloadN X2.here hx rfl (oh hby D51 8 rfl) rfl ?_
    refine XS.iadd X2.here hx rfl (oh hby D51 9 rfl) rfl ?_
    refine st3.trans ?_
    show oS p e below T3 (mkF m 24 #[vR xb, vR xs, vI 3] []) _
    refine XS.aloadN X3.here hx rfl (oh hby D51 11 rfl) rfl rfl ?_
    refine XS.aloadN X3.here hx rfl (oh hby D51 12 rfl) rfl rfl ?_
    refine st4 _ ?_
    show oS p e below T4 (mkF m 29 #[vR xb, vR xs, vI 3] [(.int 40), (.ref xb)]) _
    refine XS.aloadN X4.here hx rfl (oh hby D51 14 rfl) rfl rfl ?_
    refine st15.trans ?_
    show oS p e below T15 (mkF m 33 #[vR xb, vR xs, vI 3] []) _
    refine XS.aloadN X15.here hx rfl (oh hby D51 16 rfl) rfl rfl ?_
    refine XS.dup X15.here hx rfl (oh hby D51 17 rfl) rfl rfl ?_
    refine st17 _ ?_
    show oS p e below T17 (mkF m 38 #[vR xb, vR xs, vI 3] [(.int 40), (.ref xb)]) _
    refine XS.iloadN X17.here hx rfl (oh hby D51 19 rfl) rfl ?_
    refine XS.iadd X17.here hx rfl (oh hby D51 20 rfl) rfl ?_
    refine st19 _ ?_
    show oS p e below T19 (mkF m 43 #[vR xb, vR xs, vI 3] []) _
    refine XS.aloadN X19.here hx rfl (oh hby D51 22 rfl) rfl rfl ?_
    show oS p e below T19 (mkF m 44 #[vR xb, vR xs, vI 3] [(.ref xb)]) _
    jvm_step X19.here [X19.here.top, hx, (oh hby D51 23 rfl), X19.method', Bd.returns, Value.isRef, FieldType.isReference]
    first | (intro acts; rw [hr _ acts rfl rfl rfl]) | rw [hr _ _ rfl rfl rfl]
    exact Steps.refl _
  · show Q_aap2W Z xb xs t1 k1 va ka ps G fm h0 n0 _ T19.heap _
    rw [e19]
    exact ⟨vb_3, kb_3, rfl, N19, ((((Keep.refl h0 ([xb] : List Addr)).trans K3 (allS (Or.inl (by simp)) all0)).trans K15 (allS (Or.inr (Nat.le_trans (Nat.le_refl _) f3_4)) all0)).wr W19 (Or.inl (by simp))), c20, c22, F19, c23, (Nat.le_trans (Nat.le_refl _) f3_4), c21⟩
def Q_ap2W (Z : State) (xb : Addr) (xs : Addr) (t1 : Addr) (k1 : ClassId) (va : Addr) (ka : ClassId) (ps : List Int32) (G : Int32) (fm : Value) (h0 : Heap) (n0 : Nat) (v : Option Value) (h : Heap) (L : List Loc) : Prop := ∃ (vb : Addr) (kb : ClassId), (v = some (.ref xb)) ∧ (Fr n0 L) ∧ (Keep h0 h ([xb] : List Addr)) ∧ (fB Z h xb "value" "[B" (.ref vb)) ∧ (fB Z h xb "coder" "B" (.int 1)) ∧ (fB Z h xb "count" "I" (.int 43)) ∧ (fB Z h xb "maybeLatin1" "Z" (.int 0)) ∧ (h0.size ≤ vb) ∧ (Arv Z h vb kb .byte (164 : Int32) (StrChars.Road.wideBytes (ps ++ own_dots) ++ (List.replicate 78 (Value.int 0))) (.int 0))
set_option maxRecDepth 65536 in
set_option maxHeartbeats 40000000 in
theorem rm_ap2W (l : Launch) (Z : State) (a0 : Array Value) (hw : HW Z a0) (ws : List Jvm.Cond) (xb : Addr) (xs : Addr) (t1 : Addr) (k1 : ClassId) (va : Addr) (ka : ClassId) (ps : List Int32) (G : Int32) (fm : Value) (h0 : Heap) (n0 : Nat) (Z0 : n0 ≤ h0.size) (q0 : sC Z G) (hCS : ¬ (G = (0 : Int32))) (q2 : sF Z fm) (hFM : fm.isRef = true) (q4 : sA Z) (q5 : sH Z) (q6 : sL Z) (q7 : Old Z n0 h0) (q8 : eS Z h0 xs) (q9 : fV Z h0 xs (.ref t1)) (q10 : fC Z h0 xs (.int 0)) (q11 : Arv Z h0 t1 k1 .byte (3 : Int32) [(.int 46), (.int 46), (.int 46)] (.int 0)) (q12 : Exa Z h0 xb "java/lang/StringBuilder") (q13 : fB Z h0 xb "value" "[B" (.ref va)) (q14 : fB Z h0 xb "coder" "B" (.int 1)) (q15 : fB Z h0 xb "count" "I" (.int 40)) (q16 : fB Z h0 xb "maybeLatin1" "Z" (.int 0)) (q17 : Arv Z h0 va ka .byte (80 : Int32) (StrChars.Road.wideBytes ps) (.int 0)) (q18 : n0 ≤ xb) (q19 : va ≠ xb) (q20 : t1 ≠ va) (q21 : xs ≠ xb) (q22 : xs ≠ va) (q23 : t1 ≠ xb) (hpl : ps.length = 40) (hcdS : StrChars.Road.CodA own_dots (0 : Int32) (3 : Int32) [(.int 46), (.int 46), (.int 46)]) (hbdS : ∀ c ∈ own_dots, ¬ c < 0 ∧ ¬ (65535 : Int32) < c) :
    mF l y_53 jdk_67_method_7_code 2 (some (.object "java/lang/StringBuilder")) ws (rmk 8 1 164 119) #[(.ref xb), (.ref xs)] Z h0 (Q_ap2W Z xb xs t1 k1 va ka ps G fm h0 n0) := by
  refine MetFree.of_bodySF (plainFor_of_name pn_3) hisR ?_
  intro p e s m args below meth c s₁ Bd hml0 hP hK
  obtain ⟨rfl, hZ, hh⟩ := hP
  have hx := Bd.exec
  have hby := Bd.bytes
  have hml : c.maxLocals = 2 := hml0
  have hown : s.vm.findClass "java/lang/StringBuilder" = some m.cls := findClass_of_methodNamed Bd.named
  have hnm := (name_of_methodNamed Bd.named Bd.method).1
  have X0 : Stand p l e (rmk 8 1 164 119) s m #[(.ref xb), (.ref xs)] below meth c s₁ [] 0 0 := Stand.of_body Bd
  have e0 : s₁.heap = h0 := by rw [← hh, Bd.state]; rfl
  have N0 := Fr.nil n0
  have pre0 : ∀ t, oS p e below s₁ (mkF m 0 #[vR xb, vR xs] []) t → oS p e below s₁ (entryFrame m #[(.ref xb), (.ref xs)] 2) t := fun t k => castTop (ef_7 m xb xs) k
  obtain ⟨_, _, ⟨T1, L1, k1, n1⟩, -, X1, ⟨Lc1, hQ1, l1, y1, z1⟩, st1⟩ := superBack X0 hx hZ (K := "java/lang/StringBuilder") (y := y_52) hown (ow hw 122 rfl) (own_same (z := y_15) (by decide) rfl (ow hw 133 rfl) (ow hw 123 rfl)) (ow hw 123 rfl) (ow hw 124 rfl) (by decide) (backOf (W := 0) (rm_aap2W l Z a0 hw [] xb xs t1 k1 va ka ps G fm h0 n0 Z0 q0 hCS q2 hFM q4 q5 q6 q7 q8 q9 q10 q11 q12 q13 q14 q15 q16 q17 q18 q19 q20 q21 q22 q23 hpl hcdS hbdS) hZ (ow hw 126 rfl) (ow hw 64 rfl) (by decide) (by decide)) e0 (Ins.self q12) (g := (mkF m 2 #[vR xb, vR xs] [(.ref xs), (.ref xb)])) rfl (by rw [hml]; rfl) (ow hw 126 rfl) (argsL := [(.ref xs)]) (rest := []) (lenOf pd_31 rfl) rfl (by show 2 * 0 + _ ≤ _; exact Nat.le_of_eq rfl) (oh hby D52 2 rfl) (fun _ _ => ⟨rfl, e0, (by decide : 0 + 1 ≤ _), (by decide : 0 + 164 ≤ _)⟩)
  dsimp only [Pt.U, Pt.locs, Pt.cells, Pt.slots] at X1 l1 y1 z1 st1 hQ1
  subst l1 y1 z1
  obtain ⟨vb_1, kb_1, rfl, Nq1, K1, f1_0, f1_1, f1_2, f1_3, f1_4, f1_5⟩ := hQ1
  have N1 := Fr.app N0 Nq1
  obtain ⟨fs, hr, hrun, hended, hW, hsame⟩ := X1.leave (v := some (.ref xb)) (fun h => by rw [Bd.returns] at h; cases h)
  refine ⟨_, _, pre0 _ ?_, hrun, hended, _, _, rfl, ?_, ⟨_, rfl⟩, hW, hsame.mono (by decide) (by decide)⟩
  · refine XS.aloadN X0.here hx rfl (oh hby D52 0 rfl) rfl rfl ?_
    refine XS.aloadN X0.here hx rfl (oh hby D52 1 rfl) rfl rfl ?_
    refine st1.trans ?_
    show oS p e below T1 (mkF m 5 #[vR xb, vR xs] [(.ref xb)]) _
    refine XS.pop X1.here hx rfl (oh hby D52 3 rfl) rfl rfl ?_
    refine XS.aloadN X1.here hx rfl (oh hby D52 4 rfl) rfl rfl ?_
    show oS p e below T1 (mkF m 7 #[vR xb, vR xs] [(.ref xb)]) _
    jvm_step X1.here [X1.here.top, hx, (oh hby D52 5 rfl), X1.method', Bd.returns, Value.isRef, FieldType.isReference]
    first | (intro acts; rw [hr _ acts rfl rfl rfl]) | rw [hr _ _ rfl rfl rfl]
    exact Steps.refl _
  · show Q_ap2W Z xb xs t1 k1 va ka ps G fm h0 n0 _ T1.heap _
    exact ⟨vb_1, kb_1, rfl, N1, ((Keep.refl h0 ([xb] : List Addr)).trans K1 (allS (Or.inl (by simp)) all0)), f1_0, f1_1, f1_2, f1_3, (Nat.le_trans (Nat.le_refl _) f1_4), f1_5⟩
theorem pd_32 : parseMethodDescriptor "()[B" = some ⟨[], some (.array .byte)⟩ := by decide +kernel
theorem ef_25 (m : MethodId) (x0 : Addr) (x1 : Addr) : entryFrame m #[(.ref x0), (.ref x1), .null] 5 = mkF m 0 #[vR x0, vR x1, .val .null, .unset, .unset] [] := by first | (simp [entryFrame, mkF, argsToLocals, Value.category]; done) | rfl
def Q_strASBL (Z : State) (xs : Addr) (xb : Addr) (va : Addr) (ka : ClassId) (ps : List Int32) (G : Int32) (h0 : Heap) (n0 : Nat) (v : Option Value) (h : Heap) (L : List Loc) : Prop := ∃ (tt : Addr) (kt : ClassId), (v = none) ∧ (Fr n0 L) ∧ (Keep h0 h ([xs] : List Addr)) ∧ (fV Z h xs (.ref tt)) ∧ (fC Z h xs (.int 0)) ∧ (h0.size ≤ tt) ∧ (Arv Z h tt kt .byte (43 : Int32) (own_bs (ps ++ own_dots)) (.int 0))
set_option maxRecDepth 65536 in
set_option maxHeartbeats 40000000 in
theorem rm_strASBL (l : Launch) (Z : State) (a0 : Array Value) (hw : HW Z a0) (ws : List Jvm.Cond) (xs : Addr) (xb : Addr) (va : Addr) (ka : ClassId) (ps : List Int32) (G : Int32) (h0 : Heap) (n0 : Nat) (Z0 : n0 ≤ h0.size) (q0 : sC Z G) (hCS : ¬ (G = (0 : Int32))) (q2 : Old Z n0 h0) (q3 : Exa Z h0 xb "java/lang/StringBuilder") (q4 : fB Z h0 xb "value" "[B" (.ref va)) (q5 : fB Z h0 xb "coder" "B" (.int 0)) (q6 : fB Z h0 xb "count" "I" (.int 43)) (q7 : fB Z h0 xb "maybeLatin1" "Z" (.int 0)) (q8 : Arv Z h0 va ka .byte (82 : Int32) ((own_bs ps ++ (List.replicate 42 (Value.int 0))).take 40 ++ own_bs own_dots ++ (own_bs ps ++ (List.replicate 42 (Value.int 0))).drop 43) (.int 0)) (hpl : ps.length = 40) (q10 : eS Z h0 xs) (q11 : fV Z h0 xs .null) (q12 : fC Z h0 xs (.int 0)) (q13 : n0 ≤ xs) (q14 : xb ≠ xs) (q15 : va ≠ xs) :
    mF l y_54 jdk_42_method_150_code 5 none ws (rmk 3 1 88 49) #[(.ref xs), (.ref xb), .null] Z h0 (Q_strASBL Z xs xb va ka ps G h0 n0) := by
  refine MetFree.of_bodySF (plainFor_of_name pn_1) hisR ?_
  intro p e s m args below meth c s₁ Bd hml0 hP hK
  obtain ⟨rfl, hZ, hh⟩ := hP
  have hx := Bd.exec
  have hby := Bd.bytes
  have hml : c.maxLocals = 5 := hml0
  have hown : s.vm.findClass "java/lang/String" = some m.cls := findClass_of_methodNamed Bd.named
  have hnm := (name_of_methodNamed Bd.named Bd.method).1
  have X0 : Stand p l e (rmk 3 1 88 49) s m #[(.ref xs), (.ref xb), .null] below meth c s₁ [] 0 0 := Stand.of_body Bd
  have e0 : s₁.heap = h0 := by rw [← hh, Bd.state]; rfl
  have N0 := Fr.nil n0
  have pre0 : ∀ t, oS p e below s₁ (mkF m 0 #[vR xs, vR xb, .val .null, .unset, .unset] []) t → oS p e below s₁ (entryFrame m #[(.ref xs), (.ref xb), .null] 5) t := fun t k => castTop (ef_25 m xs xb) k
  obtain ⟨T1, X1, e1, st1⟩ := initO X0 hx hZ hown (ow hw 12 rfl) (ow hw 13 rfl) (ow hw 14 rfl) e0 (g := (mkF m 1 #[vR xs, vR xb, .val .null, .unset, .unset] [(.ref xs)])) rfl (by rw [hml]; rfl) rfl (oh hby D53 1 rfl) (by decide) (W := 0) (by show 2 * 0 + _ ≤ _; exact Nat.le_of_eq rfl) (by decide)
  obtain ⟨cq2, kq2, q2a, q2b, q2c⟩ := isOf hZ e1 q3
  obtain ⟨_, _, ⟨T2, L2, k2, n2⟩, -, X2, ⟨Lc2, hQ2, l2, y2, z2⟩, st2⟩ := X1.virtualBack hx (y := y_12) (z := y_12) hown (mvT hZ (ow hw 182 rfl)) (mvT hZ (ow hw 183 rfl)) (notFace_of_selects (args := #[]) (mvT hZ (ow hw 185 rfl))) (mvT hZ (ow hw 185 rfl)) (mvT hZ (ow hw 184 rfl)) (by decide) (backOf (W := 0) (rm_gval l Z a0 hw [] xb va h0 n0 Z0 q4) hZ (ow hw 186 rfl) (ow hw 64 rfl) (by decide) (by decide)) q2a q2c (g := (mkF m 5 #[vR xs, vR xb, .val .null, .unset, .unset] [(.ref xb)])) rfl (by rw [hml]; rfl) (Steps.refl _) (argsL := []) (rest := []) (lenOf pd_32 rfl) rfl (by show 2 * 0 + _ ≤ _; exact Nat.le_of_eq rfl) (oh hby D53 3 rfl) (fun _ _ => ⟨rfl, e1, (by decide : 0 + 0 ≤ _), (by decide : 0 + 0 ≤ _)⟩)
  dsimp only [Pt.U, Pt.locs, Pt.cells, Pt.slots] at X2 l2 y2 z2 st2 hQ2
  subst l2 y2 z2
  obtain ⟨rfl, Nq2, e2⟩ := hQ2
  have N2 := Fr.app N0 Nq2
  obtain ⟨cq3, kq3, q3a, q3b, q3c⟩ := isOf hZ e2 q3
  obtain ⟨_, _, ⟨T3, L3, k3, n3⟩, -, X3, ⟨Lc3, hQ3, l3, y3, z3⟩, st3⟩ := X2.virtualBack hx (y := y_13) (z := y_14) hown (mvT hZ (ow hw 187 rfl)) (mvT hZ (ow hw 188 rfl)) (own_notface (args := #[]) (z := y_15) rfl (mvT hZ (ow hw 133 rfl))) (mvT hZ (ow hw 190 rfl)) (mvT hZ (ow hw 191 rfl)) (by decide) (backOf (W := 0) (rm_blen l Z a0 hw [] xb (43 : Int32) h0 n0 Z0 q3 q6) hZ (ow hw 192 rfl) (ow hw 56 rfl) (by decide) (by decide)) q3a q3c (g := (mkF m 10 #[vR xs, vR xb, .val .null, vR va, .unset] [(.ref xb)])) rfl (by rw [hml]; rfl) (Steps.refl _) (argsL := []) (rest := []) (lenOf pd_8 rfl) rfl (by show 2 * 0 + _ ≤ _; exact Nat.le_of_eq rfl) (oh hby D53 6 rfl) (fun _ _ => ⟨rfl, e2, (by decide : 0 + 0 ≤ _), (by decide : 0 + 0 ≤ _)⟩)
  dsimp only [Pt.U, Pt.locs, Pt.cells, Pt.slots] at X3 l3 y3 z3 st3 hQ3
  subst l3 y3 z3
  obtain ⟨rfl, Nq3, e3⟩ := hQ3
  have N3 := Fr.app N2 Nq3
  obtain ⟨cq4, kq4, q4a, q4b, q4c⟩ := isOf hZ e3 q3
  obtain ⟨_, _, ⟨T4, L4, k4, n4⟩, -, X4, ⟨Lc4, hQ4, l4, y4, z4⟩, st4⟩ := X3.virtualBack hx (y := y_11) (z := y_11) hown (mvT hZ (ow hw 195 rfl)) (mvT hZ (ow hw 196 rfl)) (notFace_of_selects (args := #[]) (mvT hZ (ow hw 198 rfl))) (mvT hZ (ow hw 198 rfl)) (mvT hZ (ow hw 197 rfl)) (by decide) (backOf (W := 0) (rm_bLat l Z a0 hw [] xb G h0 n0 Z0 q0 hCS q2 q5) hZ (ow hw 199 rfl) (ow hw 64 rfl) (by decide) (by decide)) q4a q4c (g := (mkF m 16 #[vR xs, vR xb, .val .null, vR va, vI 43] [(.ref xb)])) rfl (by rw [hml]; rfl) (Steps.refl _) (argsL := []) (rest := []) (lenOf pd_14 rfl) rfl (by show 2 * 0 + _ ≤ _; exact Nat.le_of_eq rfl) (oh hby D53 9 rfl) (fun _ _ => ⟨rfl, e3, (by decide : 0 + 0 ≤ _), (by decide : 0 + 0 ≤ _)⟩)
  dsimp only [Pt.U, Pt.locs, Pt.cells, Pt.slots] at X4 l4 y4 z4 st4 hQ4
  subst l4 y4 z4
  obtain ⟨rfl, Nq4, e4⟩ := hQ4
  have N4 := Fr.app N3 Nq4
  obtain ⟨T5, h5, X5, e5, W5, st5⟩ := putFN X4 hx hZ hown (ow hw 22 rfl) Via.refl e4 q12 q10 (Or.inr ⟨(ow hw 18 rfl), rfl, hnm⟩) (ow hw 3 rfl) (ty := .byte) (v' := (.int 0)) (by decide) rfl rfl (g := (mkF m 24 #[vR xs, vR xb, .val .null, vR va, vI 43] [(.int 0), (.ref xs)])) rfl rfl (oh hby D53 13 rfl)
  have N5 := Fr.snoc X5 N4 q13
  have F5 : fC Z h5 xs (.int 0) := q12.same W5
  have c6 := (q8.other W5 q15)
  obtain ⟨_, _, ⟨T7, L7, k7, n7⟩, -, X7, ⟨Lc7, hQ7, l7, y7, z7⟩, st7⟩ := Jvm.LawKit.callS X5 hx (y := y_29) hown (mvT hZ (ow hw 200 rfl)) (mvT hZ (ow hw 97 rfl)) (mvT hZ (ow hw 98 rfl)) (mvT hZ (ow hw 99 rfl)) (by decide) (backOf (W := 1) (rm_cor l Z a0 hw [] va 43 ka 82 ((own_bs ps ++ (List.replicate 42 (Value.int 0))).take 40 ++ own_bs own_dots ++ (own_bs ps ++ (List.replicate 42 (Value.int 0))).drop 43) h5 n0 (Nat.le_trans Z0 (Keep.of_wr W5).1) c6 (by decide) (by decide) (by decide) ((own_l82 hpl _))) hZ (ow hw 99 rfl) (ow hw 98 rfl) (by decide) (by decide)) (g := (mkF m 32 #[vR xs, vR xb, .val .null, vR va, vI 43] [(.int 43), (.int 0), (.ref va), (.ref xs)])) rfl (by rw [hml]; rfl) (argsL := [(.ref va), (.int 0), (.int 43)]) (rest := [(.ref xs)]) (lenOf pd_16 rfl) rfl (by show 2 * 0 + _ ≤ _; exact Nat.le_of_eq rfl) (oh hby D53 18 rfl) (fun _ _ => ⟨rfl, e5, (by decide : 0 + 1 ≤ _), (by decide : 0 + 88 ≤ _)⟩)
  dsimp only [Pt.U, Pt.locs, Pt.cells, Pt.slots] at X7 l7 y7 z7 st7 hQ7
  subst l7 y7 z7
  obtain ⟨tt_7, kt_7, rfl, Nq7, K7, f7_0, f7_1⟩ := hQ7
  have N7 := Fr.app N5 Nq7
  have R8 : Arv Z T7.heap tt_7 kt_7 .byte (43 : Int32) (own_bs (ps ++ own_dots)) (.int 0) := by have q := f7_1; rw [own_d43 hpl] at q; exact q
  have c9 := ((q11.other W5 (Or.inr (slot_ne (Or.inr (ow hw 17 rfl)) (Or.inr (ow hw 18 rfl)) (by decide) (t := (.array .byte)) (t' := .byte) (by decide) (by decide)))).keep K7 nin0)
  have c10 := ((q10.wr W5).keep K7)
  obtain ⟨T11, h11, X11, e11, W11, st11⟩ := putF X7 hx hZ hown (host := "") (Or.inl (ow hw 21 rfl)) Via.refl rfl c9 c10 (Or.inr ⟨(ow hw 17 rfl), rfl, hnm⟩) (ow hw 3 rfl) (ty := (.array .byte)) (by decide) rfl rfl (g := (mkF m 35 #[vR xs, vR xb, .val .null, vR va, vI 43] [(.ref tt_7), (.ref xs)])) rfl rfl (oh hby D53 19 rfl)
  have N11 := Fr.snoc X11 N7 q13
  have F11 : fV Z h11 xs (.ref tt_7) := c9.same W11
  have ne12 : xs ≠ tt_7 := Nat.ne_of_lt (Nat.lt_of_lt_of_le F5.lt f7_0)
  have c13 := (R8.other W11 (Ne.symm ne12))
  have c14 := ((F5.keep K7 nin0).other W11 (Or.inr (slot_ne (Or.inr (ow hw 18 rfl)) (Or.inr (ow hw 17 rfl)) (by decide) (t := .byte) (t' := (.array .byte)) (by decide) (by decide))))
  obtain ⟨fs, hr, hrun, hended, hW, hsame⟩ := X11.leave (v := none) (fun _ => rfl)
  refine ⟨_, _, pre0 _ ?_, hrun, hended, _, _, rfl, ?_, ⟨_, rfl⟩, hW, hsame.mono (by decide) (by decide)⟩
  · refine XS.aloadN X0.here hx rfl (oh hby D53 0 rfl) rfl rfl ?_
    refine st1 _ ?_
    show oS p e below T1 (mkF m 4 #[vR xs, vR xb, .val .null, .unset, .unset] []) _
    refine XS.aloadN X1.here hx rfl (oh hby D53 2 rfl) rfl rfl ?_
    refine st2.trans ?_
    show oS p e below T2 (mkF m 8 #[vR xs, vR xb, .val .null, .unset, .unset] [(.ref va)]) _
    refine XS.astoreN X2.here hx rfl (oh hby D53 4 rfl) rfl rfl (l' := #[vR xs, vR xb, .val .null, vR va, .unset]) rfl ?_
    refine XS.aloadN X2.here hx rfl (oh hby D53 5 rfl) rfl rfl ?_
    refine st3.trans ?_
    show oS p e below T3 (mkF m 13 #[vR xs, vR xb, .val .null, vR va, .unset] [(.int 43)]) _
    refine XS.istore X3.here hx rfl (oh hby D53 7 rfl) rfl (l' := #[vR xs, vR xb, .val .null, vR va, vI 43]) rfl ?_
    refine XS.aloadN X3.here hx rfl (oh hby D53 8 rfl) rfl rfl ?_
    refine st4.trans ?_
    show oS p e below T4 (mkF m 19 #[vR xs, vR xb, .val .null, vR va, vI 43] [(.int 1)]) _
    refine XS.ifNo X4.here hx rfl (oh hby D53 10 rfl) rfl ((if0 _ _).trans (feq ((by decide) : ¬ ((1 : Int32) = (0 : Int32)))).1) ?_
    refine XS.aloadN X4.here hx rfl (oh hby D53 11 rfl) rfl rfl ?_
    refine XS.iconst X4.here hx rfl (oh hby D53 12 rfl) ?_
    refine st5 _ ?_
    show oS p e below T5 (mkF m 27 #[vR xs, vR xb, .val .null, vR va, vI 43] []) _
    refine XS.aloadN X5.here hx rfl (oh hby D53 14 rfl) rfl rfl ?_
    refine XS.aloadN X5.here hx rfl (oh hby D53 15 rfl) rfl rfl ?_
    refine XS.iconst X5.here hx rfl (oh hby D53 16 rfl) ?_
    refine XS.iload X5.here hx rfl (oh hby D53 17 rfl) rfl ?_
    refine st7 _ ?_
    show oS p e below T7 (mkF m 35 #[vR xs, vR xb, .val .null, vR va, vI 43] [(.ref tt_7), (.ref xs)]) _
    refine st11 _ ?_
    show oS p e below T11 (mkF m 38 #[vR xs, vR xb, .val .null, vR va, vI 43] []) _
    refine XS.goto X11.here hx rfl (pc0 := 38) (pc' := 97) rfl (oh hby D53 20 rfl) (by decide) (by decide) ?_
    show oS p e below T11 (mkF m 97 #[vR xs, vR xb, .val .null, vR va, vI 43] []) _
    exact X11.returnOut hx Bd.returns (oh hby D53 37 rfl) hr
  · show Q_strASBL Z xs xb va ka ps G h0 n0 _ T11.heap _
    rw [e11]
    exact ⟨tt_7, kt_7, rfl, N11, ((((Keep.refl h0 ([xs] : List Addr)).wr W5 (Or.inl (by simp))).trans K7 all0).wr W11 (Or.inl (by simp))), F11, c14, (Nat.le_trans (Keep.of_wr W5).1 f7_0), c13⟩
theorem pd_33 : parseMethodDescriptor "(Ljava/lang/AbstractStringBuilder;Ljava/lang/Void;)V" = some ⟨[(.object "java/lang/AbstractStringBuilder"), (.object "java/lang/Void")], none⟩ := by decide +kernel
def Q_strSBL (Z : State) (xs : Addr) (xb : Addr) (va : Addr) (ka : ClassId) (ps : List Int32) (G : Int32) (h0 : Heap) (n0 : Nat) (v : Option Value) (h : Heap) (L : List Loc) : Prop := ∃ (tt : Addr) (kt : ClassId), (v = none) ∧ (Fr n0 L) ∧ (Keep h0 h ([xs] : List Addr)) ∧ (fV Z h xs (.ref tt)) ∧ (fC Z h xs (.int 0)) ∧ (h0.size ≤ tt) ∧ (Arv Z h tt kt .byte (43 : Int32) (own_bs (ps ++ own_dots)) (.int 0))
set_option maxRecDepth 65536 in
set_option maxHeartbeats 40000000 in
theorem rm_strSBL (l : Launch) (Z : State) (a0 : Array Value) (hw : HW Z a0) (ws : List Jvm.Cond) (xs : Addr) (xb : Addr) (va : Addr) (ka : ClassId) (ps : List Int32) (G : Int32) (h0 : Heap) (n0 : Nat) (Z0 : n0 ≤ h0.size) (q0 : sC Z G) (hCS : ¬ (G = (0 : Int32))) (q2 : Old Z n0 h0) (q3 : Exa Z h0 xb "java/lang/StringBuilder") (q4 : fB Z h0 xb "value" "[B" (.ref va)) (q5 : fB Z h0 xb "coder" "B" (.int 0)) (q6 : fB Z h0 xb "count" "I" (.int 43)) (q7 : fB Z h0 xb "maybeLatin1" "Z" (.int 0)) (q8 : Arv Z h0 va ka .byte (82 : Int32) ((own_bs ps ++ (List.replicate 42 (Value.int 0))).take 40 ++ own_bs own_dots ++ (own_bs ps ++ (List.replicate 42 (Value.int 0))).drop 43) (.int 0)) (hpl : ps.length = 40) (q10 : eS Z h0 xs) (q11 : fV Z h0 xs .null) (q12 : fC Z h0 xs (.int 0)) (q13 : n0 ≤ xs) (q14 : xb ≠ xs) (q15 : va ≠ xs) :
    mF l y_55 jdk_42_method_53_code 2 none ws (rmk 4 1 88 65) #[(.ref xs), (.ref xb)] Z h0 (Q_strSBL Z xs xb va ka ps G h0 n0) := by
  refine MetFree.of_bodySF (plainFor_of_name pn_1) hisR ?_
  intro p e s m args below meth c s₁ Bd hml0 hP hK
  obtain ⟨rfl, hZ, hh⟩ := hP
  have hx := Bd.exec
  have hby := Bd.bytes
  have hml : c.maxLocals = 2 := hml0
  have hown : s.vm.findClass "java/lang/String" = some m.cls := findClass_of_methodNamed Bd.named
  have hnm := (name_of_methodNamed Bd.named Bd.method).1
  have X0 : Stand p l e (rmk 4 1 88 65) s m #[(.ref xs), (.ref xb)] below meth c s₁ [] 0 0 := Stand.of_body Bd
  have e0 : s₁.heap = h0 := by rw [← hh, Bd.state]; rfl
  have N0 := Fr.nil n0
  have pre0 : ∀ t, oS p e below s₁ (mkF m 0 #[vR xs, vR xb] []) t → oS p e below s₁ (entryFrame m #[(.ref xs), (.ref xb)] 2) t := fun t k => castTop (ef_7 m xs xb) k
  obtain ⟨_, _, ⟨T1, L1, k1, n1⟩, -, X1, ⟨Lc1, hQ1, l1, y1, z1⟩, st1⟩ := X0.specialBack hx (y := y_54) rfl hown (mvT hZ (ow hw 179 rfl)) (mvT hZ (ow hw 180 rfl)) (mvT hZ (ow hw 181 rfl)) (by decide) (backOf (W := 0) (rm_strASBL l Z a0 hw [] xs xb va ka ps G h0 n0 Z0 q0 hCS q2 q3 q4 q5 q6 q7 q8 hpl q10 q11 q12 q13 q14 q15) hZ (ow hw 181 rfl) (ow hw 4 rfl) (by decide) (by decide)) (g := (mkF m 3 #[vR xs, vR xb] [.null, (.ref xb), (.ref xs)])) rfl (by rw [hml]; rfl) (Steps.refl _) (a := xs) (argsL := [(.ref xb), .null]) (rest := []) (lenOf pd_33 rfl) rfl (by show 2 * 0 + _ ≤ _; exact Nat.le_of_eq rfl) (oh hby D54 3 rfl) (fun _ _ => ⟨rfl, e0, (by decide : 0 + 1 ≤ _), (by decide : 0 + 88 ≤ _)⟩)
  dsimp only [Pt.U, Pt.locs, Pt.cells, Pt.slots] at X1 l1 y1 z1 st1 hQ1
  subst l1 y1 z1
  obtain ⟨tt_1, kt_1, rfl, Nq1, K1, f1_0, f1_1, f1_2, f1_3⟩ := hQ1
  have N1 := Fr.app N0 Nq1
  obtain ⟨fs, hr, hrun, hended, hW, hsame⟩ := X1.leave (v := none) (fun _ => rfl)
  refine ⟨_, _, pre0 _ ?_, hrun, hended, _, _, rfl, ?_, ⟨_, rfl⟩, hW, hsame.mono (by decide) (by decide)⟩
  · refine XS.aloadN X0.here hx rfl (oh hby D54 0 rfl) rfl rfl ?_
    refine XS.aloadN X0.here hx rfl (oh hby D54 1 rfl) rfl rfl ?_
    refine XS.aconstNull X0.here hx rfl (oh hby D54 2 rfl) ?_
    refine st1.trans ?_
    show oS p e below T1 (mkF m 6 #[vR xs, vR xb] []) _
    exact X1.returnOut hx Bd.returns (oh hby D54 4 rfl) hr
  · show Q_strSBL Z xs xb va ka ps G h0 n0 _ T1.heap _
    exact ⟨tt_1, kt_1, rfl, N1, ((Keep.refl h0 ([xs] : List Addr)).trans K1 (allS (Or.inl (by simp)) all0)), f1_0, f1_1, (Nat.le_trans (Nat.le_refl _) f1_2), f1_3⟩
theorem pd_34 : parseMethodDescriptor "(Ljava/lang/StringBuilder;)V" = some ⟨[(.object "java/lang/StringBuilder")], none⟩ := by decide +kernel
def Q_toStrL (Z : State) (xb : Addr) (va : Addr) (ka : ClassId) (ps : List Int32) (G : Int32) (h0 : Heap) (n0 : Nat) (v : Option Value) (h : Heap) (L : List Loc) : Prop := ∃ (xr : Addr) (tt : Addr) (kt : ClassId), (v = some (.ref xr)) ∧ (Fr n0 L) ∧ (Keep h0 h ([] : List Addr)) ∧ (h0.size ≤ xr) ∧ (h0.size ≤ tt) ∧ (eS Z h xr) ∧ (fV Z h xr (.ref tt)) ∧ (fC Z h xr (.int 0)) ∧ (Arv Z h tt kt .byte (43 : Int32) (own_bs (ps ++ own_dots)) (.int 0))
set_option maxRecDepth 65536 in
set_option maxHeartbeats 40000000 in
theorem rm_toStrL (l : Launch) (Z : State) (a0 : Array Value) (hw : HW Z a0) (ws : List Jvm.Cond) (xb : Addr) (va : Addr) (ka : ClassId) (ps : List Int32) (G : Int32) (h0 : Heap) (n0 : Nat) (Z0 : n0 ≤ h0.size) (q0 : sC Z G) (hCS : ¬ (G = (0 : Int32))) (q2 : Old Z n0 h0) (q3 : Exa Z h0 xb "java/lang/StringBuilder") (q4 : fB Z h0 xb "value" "[B" (.ref va)) (q5 : fB Z h0 xb "coder" "B" (.int 0)) (q6 : fB Z h0 xb "count" "I" (.int 43)) (q7 : fB Z h0 xb "maybeLatin1" "Z" (.int 0)) (q8 : Arv Z h0 va ka .byte (82 : Int32) ((own_bs ps ++ (List.replicate 42 (Value.int 0))).take 40 ++ own_bs own_dots ++ (own_bs ps ++ (List.replicate 42 (Value.int 0))).drop 43) (.int 0)) (hpl : ps.length = 40) :
    mF l y_56 jdk_67_method_42_code 1 (some (.object "java/lang/String")) ws (rmk 5 2 92 79) #[(.ref xb)] Z h0 (Q_toStrL Z xb va ka ps G h0 n0) := by
  refine MetFree.of_bodySF (plainFor_of_name pn_3) hisR ?_
  intro p e s m args below meth c s₁ Bd hml0 hP hK
  obtain ⟨rfl, hZ, hh⟩ := hP
  have hx := Bd.exec
  have hby := Bd.bytes
  have hml : c.maxLocals = 1 := hml0
  have hown : s.vm.findClass "java/lang/StringBuilder" = some m.cls := findClass_of_methodNamed Bd.named
  have hnm := (name_of_methodNamed Bd.named Bd.method).1
  have X0 : Stand p l e (rmk 5 2 92 79) s m #[(.ref xb)] below meth c s₁ [] 0 0 := Stand.of_body Bd
  have e0 : s₁.heap = h0 := by rw [← hh, Bd.state]; rfl
  have N0 := Fr.nil n0
  have pre0 : ∀ t, oS p e below s₁ (mkF m 0 #[vR xb] []) t → oS p e below s₁ (entryFrame m #[(.ref xb)] 1) t := fun t k => castTop (ef_8 m xb) k
  obtain ⟨T1, h1, X1, e1, E1, A1, D1, -, st1⟩ := newO X0 hx hZ hown (ow hw 175 rfl) (ow hw 3 rfl) (ow hw 4 rfl) e0 (g := (mkF m 0 #[vR xb] [])) rfl (oh hby D55 0 rfl) (by decide) (by decide)
  obtain ⟨b1, g1⟩ : ∃ z, z = h0.size := ⟨_, rfl⟩
  rw [← g1] at A1 D1 st1
  have D1_value : fV Z h1 b1 .null := D1 (Or.inr (ow hw 17 rfl)) (ty := (.array .byte)) (by decide)
  have D1_coder : fC Z h1 b1 (.int 0) := D1 (Or.inr (ow hw 18 rfl)) (ty := .byte) (by decide)
  have c2 := (q2.ext E1)
  have c3 := (q3.ext E1)
  have c4 := (q4.ext E1)
  have c5 := (q5.ext E1)
  have c6 := (q6.ext E1)
  have c7 := (q7.ext E1)
  have c8 := (q8.ext E1)
  have ge9 : n0 ≤ b1 := Nat.le_trans Z0 (Nat.le_trans (Nat.le_refl _) (Nat.le_of_eq g1.symm))
  have ne10 : xb ≠ b1 := Nat.ne_of_lt (Nat.lt_of_lt_of_le q3.lt (Nat.le_of_eq g1.symm))
  have ne11 : va ≠ b1 := Nat.ne_of_lt (Nat.lt_of_lt_of_le q8.lt (Nat.le_of_eq g1.symm))
  obtain ⟨_, _, ⟨T12, L12, k12, n12⟩, -, X12, ⟨Lc12, hQ12, l12, y12, z12⟩, st12⟩ := X1.specialBack hx (y := y_55) rfl hown (mvT hZ (ow hw 176 rfl)) (mvT hZ (ow hw 177 rfl)) (mvT hZ (ow hw 178 rfl)) (by decide) (backOf (W := 1) (rm_strSBL l Z a0 hw [] b1 xb va ka ps G h1 n0 (Nat.le_trans Z0 E1.1) q0 hCS c2 c3 c4 c5 c6 c7 c8 hpl A1 D1_value D1_coder ge9 ne10 ne11) hZ (ow hw 178 rfl) (ow hw 4 rfl) (by decide) (by decide)) (g := (mkF m 5 #[vR xb] [(.ref xb), (.ref b1), (.ref b1)])) rfl (by rw [hml]; rfl) (Steps.refl _) (a := b1) (argsL := [(.ref xb)]) (rest := [(.ref b1)]) (lenOf pd_34 rfl) rfl (by show 2 * 0 + _ ≤ _; exact Nat.le_of_eq rfl) (oh hby D55 3 rfl) (fun _ _ => ⟨rfl, e1, (by decide : 1 + 1 ≤ _), (by decide : 4 + 88 ≤ _)⟩)
  dsimp only [Pt.U, Pt.locs, Pt.cells, Pt.slots] at X12 l12 y12 z12 st12 hQ12
  subst l12 y12 z12
  obtain ⟨tt_12, kt_12, rfl, Nq12, K12, f12_0, f12_1, f12_2, f12_3⟩ := hQ12
  have N12 := Fr.app N0 Nq12
  have c13 := (A1.keep K12)
  obtain ⟨fs, hr, hrun, hended, hW, hsame⟩ := X12.leave (v := some (.ref b1)) (fun h => by rw [Bd.returns] at h; cases h)
  refine ⟨_, _, pre0 _ ?_, hrun, hended, _, _, rfl, ?_, ⟨_, rfl⟩, hW, hsame.mono (by decide) (by decide)⟩
  · refine st1 _ ?_
    show oS p e below T1 (mkF m 3 #[vR xb] [(.ref b1)]) _
    refine XS.dup X1.here hx rfl (oh hby D55 1 rfl) rfl rfl ?_
    refine XS.aloadN X1.here hx rfl (oh hby D55 2 rfl) rfl rfl ?_
    refine st12.trans ?_
    show oS p e below T12 (mkF m 8 #[vR xb] [(.ref b1)]) _
    jvm_step X12.here [X12.here.top, hx, (oh hby D55 4 rfl), X12.method', Bd.returns, Value.isRef, FieldType.isReference]
    first | (intro acts; rw [hr _ acts rfl rfl rfl]) | rw [hr _ _ rfl rfl rfl]
    exact Steps.refl _
  · show Q_toStrL Z xb va ka ps G h0 n0 _ T12.heap _
    exact ⟨b1, tt_12, kt_12, rfl, N12, (((Keep.refl h0 ([] : List Addr)).ext E1).trans K12 (allS (Or.inr (Nat.le_trans (Nat.le_refl _) (Nat.le_of_eq g1.symm))) all0)), (Nat.le_trans (Nat.le_refl _) (Nat.le_of_eq g1.symm)), (Nat.le_trans E1.1 f12_2), c13, f12_0, f12_1, f12_3⟩
def Q_strASBW (Z : State) (xs : Addr) (xb : Addr) (va : Addr) (ka : ClassId) (ps : List Int32) (G : Int32) (h0 : Heap) (n0 : Nat) (v : Option Value) (h : Heap) (L : List Loc) : Prop := ∃ (tt : Addr) (kt : ClassId), (v = none) ∧ (Fr n0 L) ∧ (Keep h0 h ([xs] : List Addr)) ∧ (fV Z h xs (.ref tt)) ∧ (fC Z h xs (.int 1)) ∧ (h0.size ≤ tt) ∧ (Arv Z h tt kt .byte (86 : Int32) (StrChars.Road.wideBytes (ps ++ own_dots)) (.int 0))
set_option maxRecDepth 65536 in
set_option maxHeartbeats 40000000 in
theorem rm_strASBW (l : Launch) (Z : State) (a0 : Array Value) (hw : HW Z a0) (ws : List Jvm.Cond) (xs : Addr) (xb : Addr) (va : Addr) (ka : ClassId) (ps : List Int32) (G : Int32) (h0 : Heap) (n0 : Nat) (Z0 : n0 ≤ h0.size) (q0 : sC Z G) (hCS : ¬ (G = (0 : Int32))) (q2 : Old Z n0 h0) (q3 : Exa Z h0 xb "java/lang/StringBuilder") (q4 : fB Z h0 xb "value" "[B" (.ref va)) (q5 : fB Z h0 xb "coder" "B" (.int 1)) (q6 : fB Z h0 xb "count" "I" (.int 43)) (q7 : fB Z h0 xb "maybeLatin1" "Z" (.int 0)) (q8 : Arv Z h0 va ka .byte (164 : Int32) (StrChars.Road.wideBytes (ps ++ own_dots) ++ (List.replicate 78 (Value.int 0))) (.int 0)) (hpl : ps.length = 40) (q10 : eS Z h0 xs) (q11 : fV Z h0 xs .null) (q12 : fC Z h0 xs (.int 0)) (q13 : n0 ≤ xs) (q14 : xb ≠ xs) (q15 : va ≠ xs) :
    mF l y_54 jdk_42_method_150_code 5 none ws (rmk 3 1 88 49) #[(.ref xs), (.ref xb), .null] Z h0 (Q_strASBW Z xs xb va ka ps G h0 n0) := by
  refine MetFree.of_bodySF (plainFor_of_name pn_1) hisR ?_
  intro p e s m args below meth c s₁ Bd hml0 hP hK
  obtain ⟨rfl, hZ, hh⟩ := hP
  have hx := Bd.exec
  have hby := Bd.bytes
  have hml : c.maxLocals = 5 := hml0
  have hown : s.vm.findClass "java/lang/String" = some m.cls := findClass_of_methodNamed Bd.named
  have hnm := (name_of_methodNamed Bd.named Bd.method).1
  have X0 : Stand p l e (rmk 3 1 88 49) s m #[(.ref xs), (.ref xb), .null] below meth c s₁ [] 0 0 := Stand.of_body Bd
  have e0 : s₁.heap = h0 := by rw [← hh, Bd.state]; rfl
  have N0 := Fr.nil n0
  have pre0 : ∀ t, oS p e below s₁ (mkF m 0 #[vR xs, vR xb, .val .null, .unset, .unset] []) t → oS p e below s₁ (entryFrame m #[(.ref xs), (.ref xb), .null] 5) t := fun t k => castTop (ef_25 m xs xb) k
  obtain ⟨T1, X1, e1, st1⟩ := initO X0 hx hZ hown (ow hw 12 rfl) (ow hw 13 rfl) (ow hw 14 rfl) e0 (g := (mkF m 1 #[vR xs, vR xb, .val .null, .unset, .unset] [(.ref xs)])) rfl (by rw [hml]; rfl) rfl (oh hby D53 1 rfl) (by decide) (W := 0) (by show 2 * 0 + _ ≤ _; exact Nat.le_of_eq rfl) (by decide)
  obtain ⟨cq2, kq2, q2a, q2b, q2c⟩ := isOf hZ e1 q3
  obtain ⟨_, _, ⟨T2, L2, k2, n2⟩, -, X2, ⟨Lc2, hQ2, l2, y2, z2⟩, st2⟩ := X1.virtualBack hx (y := y_12) (z := y_12) hown (mvT hZ (ow hw 182 rfl)) (mvT hZ (ow hw 183 rfl)) (notFace_of_selects (args := #[]) (mvT hZ (ow hw 185 rfl))) (mvT hZ (ow hw 185 rfl)) (mvT hZ (ow hw 184 rfl)) (by decide) (backOf (W := 0) (rm_gval l Z a0 hw [] xb va h0 n0 Z0 q4) hZ (ow hw 186 rfl) (ow hw 64 rfl) (by decide) (by decide)) q2a q2c (g := (mkF m 5 #[vR xs, vR xb, .val .null, .unset, .unset] [(.ref xb)])) rfl (by rw [hml]; rfl) (Steps.refl _) (argsL := []) (rest := []) (lenOf pd_32 rfl) rfl (by show 2 * 0 + _ ≤ _; exact Nat.le_of_eq rfl) (oh hby D53 3 rfl) (fun _ _ => ⟨rfl, e1, (by decide : 0 + 0 ≤ _), (by decide : 0 + 0 ≤ _)⟩)
  dsimp only [Pt.U, Pt.locs, Pt.cells, Pt.slots] at X2 l2 y2 z2 st2 hQ2
  subst l2 y2 z2
  obtain ⟨rfl, Nq2, e2⟩ := hQ2
  have N2 := Fr.app N0 Nq2
  obtain ⟨cq3, kq3, q3a, q3b, q3c⟩ := isOf hZ e2 q3
  obtain ⟨_, _, ⟨T3, L3, k3, n3⟩, -, X3, ⟨Lc3, hQ3, l3, y3, z3⟩, st3⟩ := X2.virtualBack hx (y := y_13) (z := y_14) hown (mvT hZ (ow hw 187 rfl)) (mvT hZ (ow hw 188 rfl)) (own_notface (args := #[]) (z := y_15) rfl (mvT hZ (ow hw 133 rfl))) (mvT hZ (ow hw 190 rfl)) (mvT hZ (ow hw 191 rfl)) (by decide) (backOf (W := 0) (rm_blen l Z a0 hw [] xb (43 : Int32) h0 n0 Z0 q3 q6) hZ (ow hw 192 rfl) (ow hw 56 rfl) (by decide) (by decide)) q3a q3c (g := (mkF m 10 #[vR xs, vR xb, .val .null, vR va, .unset] [(.ref xb)])) rfl (by rw [hml]; rfl) (Steps.refl _) (argsL := []) (rest := []) (lenOf pd_8 rfl) rfl (by show 2 * 0 + _ ≤ _; exact Nat.le_of_eq rfl) (oh hby D53 6 rfl) (fun _ _ => ⟨rfl, e2, (by decide : 0 + 0 ≤ _), (by decide : 0 + 0 ≤ _)⟩)
  dsimp only [Pt.U, Pt.locs, Pt.cells, Pt.slots] at X3 l3 y3 z3 st3 hQ3
  subst l3 y3 z3
  obtain ⟨rfl, Nq3, e3⟩ := hQ3
  have N3 := Fr.app N2 Nq3
  obtain ⟨cq4, kq4, q4a, q4b, q4c⟩ := isOf hZ e3 q3
  obtain ⟨_, _, ⟨T4, L4, k4, n4⟩, -, X4, ⟨Lc4, hQ4, l4, y4, z4⟩, st4⟩ := X3.virtualBack hx (y := y_11) (z := y_11) hown (mvT hZ (ow hw 195 rfl)) (mvT hZ (ow hw 196 rfl)) (notFace_of_selects (args := #[]) (mvT hZ (ow hw 198 rfl))) (mvT hZ (ow hw 198 rfl)) (mvT hZ (ow hw 197 rfl)) (by decide) (backOf (W := 0) (rm_bLatW l Z a0 hw [] xb G h0 n0 Z0 q0 hCS q2 q5) hZ (ow hw 199 rfl) (ow hw 64 rfl) (by decide) (by decide)) q4a q4c (g := (mkF m 16 #[vR xs, vR xb, .val .null, vR va, vI 43] [(.ref xb)])) rfl (by rw [hml]; rfl) (Steps.refl _) (argsL := []) (rest := []) (lenOf pd_14 rfl) rfl (by show 2 * 0 + _ ≤ _; exact Nat.le_of_eq rfl) (oh hby D53 9 rfl) (fun _ _ => ⟨rfl, e3, (by decide : 0 + 0 ≤ _), (by decide : 0 + 0 ≤ _)⟩)
  dsimp only [Pt.U, Pt.locs, Pt.cells, Pt.slots] at X4 l4 y4 z4 st4 hQ4
  subst l4 y4 z4
  obtain ⟨rfl, Nq4, e4⟩ := hQ4
  have N4 := Fr.app N3 Nq4
  obtain ⟨T5, X5, e5, st5⟩ := getS2 X4 hx hZ hown (host := "") (Or.inl (ow hw 37 rfl)) Via.refl e4 (q0.ext q2.2) (g := (mkF m 41 #[vR xs, vR xb, .val .null, vR va, vI 43] [])) rfl (oh hby D53 21 rfl)
  obtain ⟨T6, X6, e6, st6⟩ := getF X5 hx hZ hown (host := "") (Or.inl (ow hw 275 rfl)) Via.refl e5 q7 (g := (mkF m 48 #[vR xs, vR xb, .val .null, vR va, vI 43] [(.ref xb)])) rfl rfl (oh hby D53 24 rfl)
  obtain ⟨T7, h7, X7, e7, W7, st7⟩ := putFN X6 hx hZ hown (ow hw 22 rfl) Via.refl e6 q12 q10 (Or.inr ⟨(ow hw 18 rfl), rfl, hnm⟩) (ow hw 3 rfl) (ty := .byte) (v' := (.int 1)) (by decide) rfl rfl (g := (mkF m 81 #[vR xs, vR xb, .val .null, vR va, vI 43] [(.int 1), (.ref xs)])) rfl rfl (oh hby D53 28 rfl)
  have N7 := Fr.snoc X7 N4 q13
  have F7 : fC Z h7 xs (.int 1) := q12.same W7
  have c8 := (q8.other W7 q15)
  obtain ⟨_, _, ⟨T9, L9, k9, n9⟩, -, X9, ⟨Lc9, hQ9, l9, y9, z9⟩, st9⟩ := Jvm.LawKit.callS X7 hx (y := y_29) hown (mvT hZ (ow hw 200 rfl)) (mvT hZ (ow hw 97 rfl)) (mvT hZ (ow hw 98 rfl)) (mvT hZ (ow hw 99 rfl)) (by decide) (backOf (W := 1) (rm_cor l Z a0 hw [] va 86 ka 164 (StrChars.Road.wideBytes (ps ++ own_dots) ++ (List.replicate 78 (Value.int 0))) h7 n0 (Nat.le_trans Z0 (Keep.of_wr W7).1) c8 (by decide) (by decide) (by decide) ((by rw [List.length_append, own_widelen, own_rs43 hpl]; rfl))) hZ (ow hw 99 rfl) (ow hw 98 rfl) (by decide) (by decide)) (g := (mkF m 91 #[vR xs, vR xb, .val .null, vR va, vI 43] [(.int 86), (.int 0), (.ref va), (.ref xs)])) rfl (by rw [hml]; rfl) (argsL := [(.ref va), (.int 0), (.int 86)]) (rest := [(.ref xs)]) (lenOf pd_16 rfl) rfl (by show 2 * 0 + _ ≤ _; exact Nat.le_of_eq rfl) (oh hby D53 35 rfl) (fun _ _ => ⟨rfl, e7, (by decide : 0 + 1 ≤ _), (by decide : 0 + 88 ≤ _)⟩)
  dsimp only [Pt.U, Pt.locs, Pt.cells, Pt.slots] at X9 l9 y9 z9 st9 hQ9
  subst l9 y9 z9
  obtain ⟨tt_9, kt_9, rfl, Nq9, K9, f9_0, f9_1⟩ := hQ9
  have N9 := Fr.app N7 Nq9
  have R10 : Arv Z T9.heap tt_9 kt_9 .byte (86 : Int32) (StrChars.Road.wideBytes (ps ++ own_dots)) (.int 0) := by have q := f9_1; rw [List.take_append_of_le_length (by rw [own_widelen, own_rs43 hpl]; decide), List.take_of_length_le (by rw [own_widelen, own_rs43 hpl]; decide)] at q; exact q
  have c11 := ((q11.other W7 (Or.inr (slot_ne (Or.inr (ow hw 17 rfl)) (Or.inr (ow hw 18 rfl)) (by decide) (t := (.array .byte)) (t' := .byte) (by decide) (by decide)))).keep K9 nin0)
  have c12 := ((q10.wr W7).keep K9)
  obtain ⟨T13, h13, X13, e13, W13, st13⟩ := putF X9 hx hZ hown (host := "") (Or.inl (ow hw 21 rfl)) Via.refl rfl c11 c12 (Or.inr ⟨(ow hw 17 rfl), rfl, hnm⟩) (ow hw 3 rfl) (ty := (.array .byte)) (by decide) rfl rfl (g := (mkF m 94 #[vR xs, vR xb, .val .null, vR va, vI 43] [(.ref tt_9), (.ref xs)])) rfl rfl (oh hby D53 36 rfl)
  have N13 := Fr.snoc X13 N9 q13
  have F13 : fV Z h13 xs (.ref tt_9) := c11.same W13
  have ne14 : xs ≠ tt_9 := Nat.ne_of_lt (Nat.lt_of_lt_of_le F7.lt f9_0)
  have c15 := (R10.other W13 (Ne.symm ne14))
  have c16 := ((F7.keep K9 nin0).other W13 (Or.inr (slot_ne (Or.inr (ow hw 18 rfl)) (Or.inr (ow hw 17 rfl)) (by decide) (t := .byte) (t' := (.array .byte)) (by decide) (by decide))))
  obtain ⟨fs, hr, hrun, hended, hW, hsame⟩ := X13.leave (v := none) (fun _ => rfl)
  refine ⟨_, _, pre0 _ ?_, hrun, hended, _, _, rfl, ?_, ⟨_, rfl⟩, hW, hsame.mono (by decide) (by decide)⟩
  · refine XS.aloadN X0.here hx rfl (oh hby D53 0 rfl) rfl rfl ?_
    refine st1 _ ?_
    show oS p e below T1 (mkF m 4 #[vR xs, vR xb, .val .null, .unset, .unset] []) _
    refine XS.aloadN X1.here hx rfl (oh hby D53 2 rfl) rfl rfl ?_
    refine st2.trans ?_
    show oS p e below T2 (mkF m 8 #[vR xs, vR xb, .val .null, .unset, .unset] [(.ref va)]) _
    refine XS.astoreN X2.here hx rfl (oh hby D53 4 rfl) rfl rfl (l' := #[vR xs, vR xb, .val .null, vR va, .unset]) rfl ?_
    refine XS.aloadN X2.here hx rfl (oh hby D53 5 rfl) rfl rfl ?_
    refine st3.trans ?_
    show oS p e below T3 (mkF m 13 #[vR xs, vR xb, .val .null, vR va, .unset] [(.int 43)]) _
    refine XS.istore X3.here hx rfl (oh hby D53 7 rfl) rfl (l' := #[vR xs, vR xb, .val .null, vR va, vI 43]) rfl ?_
    refine XS.aloadN X3.here hx rfl (oh hby D53 8 rfl) rfl rfl ?_
    refine st4.trans ?_
    show oS p e below T4 (mkF m 19 #[vR xs, vR xb, .val .null, vR va, vI 43] [(.int 0)]) _
    refine XS.ifYes X4.here hx rfl (pc0 := 19) (pc' := 41) rfl (oh hby D53 10 rfl) rfl ((if0 _ _).trans (teq ((by decide) : (0 : Int32) = (0 : Int32))).1) (by decide) (by decide) ?_
    refine st5 _ ?_
    show oS p e below T5 (mkF m 44 #[vR xs, vR xb, .val .null, vR va, vI 43] [(.int G)]) _
    refine XS.ifNo X5.here hx rfl (oh hby D53 22 rfl) rfl ((if0 _ _).trans (feq (hCS : ¬ (G = (0 : Int32)))).1) ?_
    refine XS.aloadN X5.here hx rfl (oh hby D53 23 rfl) rfl rfl ?_
    refine st6 _ ?_
    show oS p e below T6 (mkF m 51 #[vR xs, vR xb, .val .null, vR va, vI 43] [(.int 0)]) _
    refine XS.ifYes X6.here hx rfl (pc0 := 51) (pc' := 79) rfl (oh hby D53 25 rfl) rfl ((if0 _ _).trans (teq ((by decide) : (0 : Int32) = (0 : Int32))).1) (by decide) (by decide) ?_
    refine XS.aloadN X6.here hx rfl (oh hby D53 26 rfl) rfl rfl ?_
    refine XS.iconst X6.here hx rfl (oh hby D53 27 rfl) ?_
    refine st7 _ ?_
    show oS p e below T7 (mkF m 84 #[vR xs, vR xb, .val .null, vR va, vI 43] []) _
    refine XS.aloadN X7.here hx rfl (oh hby D53 29 rfl) rfl rfl ?_
    refine XS.aloadN X7.here hx rfl (oh hby D53 30 rfl) rfl rfl ?_
    refine XS.iconst X7.here hx rfl (oh hby D53 31 rfl) ?_
    refine XS.iload X7.here hx rfl (oh hby D53 32 rfl) rfl ?_
    refine XS.iconst X7.here hx rfl (oh hby D53 33 rfl) ?_
    show oS p e below T7 (mkF m 90 #[vR xs, vR xb, .val .null, vR va, vI 43] [(.int 1), (.int 43), (.int 0), (.ref va), (.ref xs)]) _
    refine XS.ishl X7.here hx rfl (oh hby D53 34 rfl) rfl ?_
    refine st9 _ ?_
    show oS p e below T9 (mkF m 94 #[vR xs, vR xb, .val .null, vR va, vI 43] [(.ref tt_9), (.ref xs)]) _
    refine st13 _ ?_
    show oS p e below T13 (mkF m 97 #[vR xs, vR xb, .val .null, vR va, vI 43] []) _
    exact X13.returnOut hx Bd.returns (oh hby D53 37 rfl) hr
  · show Q_strASBW Z xs xb va ka ps G h0 n0 _ T13.heap _
    rw [e13]
    exact ⟨tt_9, kt_9, rfl, N13, ((((Keep.refl h0 ([xs] : List Addr)).wr W7 (Or.inl (by simp))).trans K9 all0).wr W13 (Or.inl (by simp))), F13, c16, (Nat.le_trans (Keep.of_wr W7).1 f9_0), c15⟩
def Q_strSBW (Z : State) (xs : Addr) (xb : Addr) (va : Addr) (ka : ClassId) (ps : List Int32) (G : Int32) (h0 : Heap) (n0 : Nat) (v : Option Value) (h : Heap) (L : List Loc) : Prop := ∃ (tt : Addr) (kt : ClassId), (v = none) ∧ (Fr n0 L) ∧ (Keep h0 h ([xs] : List Addr)) ∧ (fV Z h xs (.ref tt)) ∧ (fC Z h xs (.int 1)) ∧ (h0.size ≤ tt) ∧ (Arv Z h tt kt .byte (86 : Int32) (StrChars.Road.wideBytes (ps ++ own_dots)) (.int 0))
set_option maxRecDepth 65536 in
set_option maxHeartbeats 40000000 in
theorem rm_strSBW (l : Launch) (Z : State) (a0 : Array Value) (hw : HW Z a0) (ws : List Jvm.Cond) (xs : Addr) (xb : Addr) (va : Addr) (ka : ClassId) (ps : List Int32) (G : Int32) (h0 : Heap) (n0 : Nat) (Z0 : n0 ≤ h0.size) (q0 : sC Z G) (hCS : ¬ (G = (0 : Int32))) (q2 : Old Z n0 h0) (q3 : Exa Z h0 xb "java/lang/StringBuilder") (q4 : fB Z h0 xb "value" "[B" (.ref va)) (q5 : fB Z h0 xb "coder" "B" (.int 1)) (q6 : fB Z h0 xb "count" "I" (.int 43)) (q7 : fB Z h0 xb "maybeLatin1" "Z" (.int 0)) (q8 : Arv Z h0 va ka .byte (164 : Int32) (StrChars.Road.wideBytes (ps ++ own_dots) ++ (List.replicate 78 (Value.int 0))) (.int 0)) (hpl : ps.length = 40) (q10 : eS Z h0 xs) (q11 : fV Z h0 xs .null) (q12 : fC Z h0 xs (.int 0)) (q13 : n0 ≤ xs) (q14 : xb ≠ xs) (q15 : va ≠ xs) :
    mF l y_55 jdk_42_method_53_code 2 none ws (rmk 4 1 88 65) #[(.ref xs), (.ref xb)] Z h0 (Q_strSBW Z xs xb va ka ps G h0 n0) := by
  refine MetFree.of_bodySF (plainFor_of_name pn_1) hisR ?_
  intro p e s m args below meth c s₁ Bd hml0 hP hK
  obtain ⟨rfl, hZ, hh⟩ := hP
  have hx := Bd.exec
  have hby := Bd.bytes
  have hml : c.maxLocals = 2 := hml0
  have hown : s.vm.findClass "java/lang/String" = some m.cls := findClass_of_methodNamed Bd.named
  have hnm := (name_of_methodNamed Bd.named Bd.method).1
  have X0 : Stand p l e (rmk 4 1 88 65) s m #[(.ref xs), (.ref xb)] below meth c s₁ [] 0 0 := Stand.of_body Bd
  have e0 : s₁.heap = h0 := by rw [← hh, Bd.state]; rfl
  have N0 := Fr.nil n0
  have pre0 : ∀ t, oS p e below s₁ (mkF m 0 #[vR xs, vR xb] []) t → oS p e below s₁ (entryFrame m #[(.ref xs), (.ref xb)] 2) t := fun t k => castTop (ef_7 m xs xb) k
  obtain ⟨_, _, ⟨T1, L1, k1, n1⟩, -, X1, ⟨Lc1, hQ1, l1, y1, z1⟩, st1⟩ := X0.specialBack hx (y := y_54) rfl hown (mvT hZ (ow hw 179 rfl)) (mvT hZ (ow hw 180 rfl)) (mvT hZ (ow hw 181 rfl)) (by decide) (backOf (W := 0) (rm_strASBW l Z a0 hw [] xs xb va ka ps G h0 n0 Z0 q0 hCS q2 q3 q4 q5 q6 q7 q8 hpl q10 q11 q12 q13 q14 q15) hZ (ow hw 181 rfl) (ow hw 4 rfl) (by decide) (by decide)) (g := (mkF m 3 #[vR xs, vR xb] [.null, (.ref xb), (.ref xs)])) rfl (by rw [hml]; rfl) (Steps.refl _) (a := xs) (argsL := [(.ref xb), .null]) (rest := []) (lenOf pd_33 rfl) rfl (by show 2 * 0 + _ ≤ _; exact Nat.le_of_eq rfl) (oh hby D54 3 rfl) (fun _ _ => ⟨rfl, e0, (by decide : 0 + 1 ≤ _), (by decide : 0 + 88 ≤ _)⟩)
  dsimp only [Pt.U, Pt.locs, Pt.cells, Pt.slots] at X1 l1 y1 z1 st1 hQ1
  subst l1 y1 z1
  obtain ⟨tt_1, kt_1, rfl, Nq1, K1, f1_0, f1_1, f1_2, f1_3⟩ := hQ1
  have N1 := Fr.app N0 Nq1
  obtain ⟨fs, hr, hrun, hended, hW, hsame⟩ := X1.leave (v := none) (fun _ => rfl)
  refine ⟨_, _, pre0 _ ?_, hrun, hended, _, _, rfl, ?_, ⟨_, rfl⟩, hW, hsame.mono (by decide) (by decide)⟩
  · refine XS.aloadN X0.here hx rfl (oh hby D54 0 rfl) rfl rfl ?_
    refine XS.aloadN X0.here hx rfl (oh hby D54 1 rfl) rfl rfl ?_
    refine XS.aconstNull X0.here hx rfl (oh hby D54 2 rfl) ?_
    refine st1.trans ?_
    show oS p e below T1 (mkF m 6 #[vR xs, vR xb] []) _
    exact X1.returnOut hx Bd.returns (oh hby D54 4 rfl) hr
  · show Q_strSBW Z xs xb va ka ps G h0 n0 _ T1.heap _
    exact ⟨tt_1, kt_1, rfl, N1, ((Keep.refl h0 ([xs] : List Addr)).trans K1 (allS (Or.inl (by simp)) all0)), f1_0, f1_1, (Nat.le_trans (Nat.le_refl _) f1_2), f1_3⟩
def Q_toStrW (Z : State) (xb : Addr) (va : Addr) (ka : ClassId) (ps : List Int32) (G : Int32) (h0 : Heap) (n0 : Nat) (v : Option Value) (h : Heap) (L : List Loc) : Prop := ∃ (xr : Addr) (tt : Addr) (kt : ClassId), (v = some (.ref xr)) ∧ (Fr n0 L) ∧ (Keep h0 h ([] : List Addr)) ∧ (h0.size ≤ xr) ∧ (h0.size ≤ tt) ∧ (eS Z h xr) ∧ (fV Z h xr (.ref tt)) ∧ (fC Z h xr (.int 1)) ∧ (Arv Z h tt kt .byte (86 : Int32) (StrChars.Road.wideBytes (ps ++ own_dots)) (.int 0))
set_option maxRecDepth 65536 in
set_option maxHeartbeats 40000000 in
theorem rm_toStrW (l : Launch) (Z : State) (a0 : Array Value) (hw : HW Z a0) (ws : List Jvm.Cond) (xb : Addr) (va : Addr) (ka : ClassId) (ps : List Int32) (G : Int32) (h0 : Heap) (n0 : Nat) (Z0 : n0 ≤ h0.size) (q0 : sC Z G) (hCS : ¬ (G = (0 : Int32))) (q2 : Old Z n0 h0) (q3 : Exa Z h0 xb "java/lang/StringBuilder") (q4 : fB Z h0 xb "value" "[B" (.ref va)) (q5 : fB Z h0 xb "coder" "B" (.int 1)) (q6 : fB Z h0 xb "count" "I" (.int 43)) (q7 : fB Z h0 xb "maybeLatin1" "Z" (.int 0)) (q8 : Arv Z h0 va ka .byte (164 : Int32) (StrChars.Road.wideBytes (ps ++ own_dots) ++ (List.replicate 78 (Value.int 0))) (.int 0)) (hpl : ps.length = 40) :
    mF l y_56 jdk_67_method_42_code 1 (some (.object "java/lang/String")) ws (rmk 5 2 92 79) #[(.ref xb)] Z h0 (Q_toStrW Z xb va ka ps G h0 n0) := by
  refine MetFree.of_bodySF (plainFor_of_name pn_3) hisR ?_
  intro p e s m args below meth c s₁ Bd hml0 hP hK
  obtain ⟨rfl, hZ, hh⟩ := hP
  have hx := Bd.exec
  have hby := Bd.bytes
  have hml : c.maxLocals = 1 := hml0
  have hown : s.vm.findClass "java/lang/StringBuilder" = some m.cls := findClass_of_methodNamed Bd.named
  have hnm := (name_of_methodNamed Bd.named Bd.method).1
  have X0 : Stand p l e (rmk 5 2 92 79) s m #[(.ref xb)] below meth c s₁ [] 0 0 := Stand.of_body Bd
  have e0 : s₁.heap = h0 := by rw [← hh, Bd.state]; rfl
  have N0 := Fr.nil n0
  have pre0 : ∀ t, oS p e below s₁ (mkF m 0 #[vR xb] []) t → oS p e below s₁ (entryFrame m #[(.ref xb)] 1) t := fun t k => castTop (ef_8 m xb) k
  obtain ⟨T1, h1, X1, e1, E1, A1, D1, -, st1⟩ := newO X0 hx hZ hown (ow hw 175 rfl) (ow hw 3 rfl) (ow hw 4 rfl) e0 (g := (mkF m 0 #[vR xb] [])) rfl (oh hby D55 0 rfl) (by decide) (by decide)
  obtain ⟨b1, g1⟩ : ∃ z, z = h0.size := ⟨_, rfl⟩
  rw [← g1] at A1 D1 st1
  have D1_value : fV Z h1 b1 .null := D1 (Or.inr (ow hw 17 rfl)) (ty := (.array .byte)) (by decide)
  have D1_coder : fC Z h1 b1 (.int 0) := D1 (Or.inr (ow hw 18 rfl)) (ty := .byte) (by decide)
  have c2 := (q2.ext E1)
  have c3 := (q3.ext E1)
  have c4 := (q4.ext E1)
  have c5 := (q5.ext E1)
  have c6 := (q6.ext E1)
  have c7 := (q7.ext E1)
  have c8 := (q8.ext E1)
  have ge9 : n0 ≤ b1 := Nat.le_trans Z0 (Nat.le_trans (Nat.le_refl _) (Nat.le_of_eq g1.symm))
  have ne10 : xb ≠ b1 := Nat.ne_of_lt (Nat.lt_of_lt_of_le q3.lt (Nat.le_of_eq g1.symm))
  have ne11 : va ≠ b1 := Nat.ne_of_lt (Nat.lt_of_lt_of_le q8.lt (Nat.le_of_eq g1.symm))
  obtain ⟨_, _, ⟨T12, L12, k12, n12⟩, -, X12, ⟨Lc12, hQ12, l12, y12, z12⟩, st12⟩ := X1.specialBack hx (y := y_55) rfl hown (mvT hZ (ow hw 176 rfl)) (mvT hZ (ow hw 177 rfl)) (mvT hZ (ow hw 178 rfl)) (by decide) (backOf (W := 1) (rm_strSBW l Z a0 hw [] b1 xb va ka ps G h1 n0 (Nat.le_trans Z0 E1.1) q0 hCS c2 c3 c4 c5 c6 c7 c8 hpl A1 D1_value D1_coder ge9 ne10 ne11) hZ (ow hw 178 rfl) (ow hw 4 rfl) (by decide) (by decide)) (g := (mkF m 5 #[vR xb] [(.ref xb), (.ref b1), (.ref b1)])) rfl (by rw [hml]; rfl) (Steps.refl _) (a := b1) (argsL := [(.ref xb)]) (rest := [(.ref b1)]) (lenOf pd_34 rfl) rfl (by show 2 * 0 + _ ≤ _; exact Nat.le_of_eq rfl) (oh hby D55 3 rfl) (fun _ _ => ⟨rfl, e1, (by decide : 1 + 1 ≤ _), (by decide : 4 + 88 ≤ _)⟩)
  dsimp only [Pt.U, Pt.locs, Pt.cells, Pt.slots] at X12 l12 y12 z12 st12 hQ12
  subst l12 y12 z12
  obtain ⟨tt_12, kt_12, rfl, Nq12, K12, f12_0, f12_1, f12_2, f12_3⟩ := hQ12
  have N12 := Fr.app N0 Nq12
  have c13 := (A1.keep K12)
  obtain ⟨fs, hr, hrun, hended, hW, hsame⟩ := X12.leave (v := some (.ref b1)) (fun h => by rw [Bd.returns] at h; cases h)
  refine ⟨_, _, pre0 _ ?_, hrun, hended, _, _, rfl, ?_, ⟨_, rfl⟩, hW, hsame.mono (by decide) (by decide)⟩
  · refine st1 _ ?_
    show oS p e below T1 (mkF m 3 #[vR xb] [(.ref b1)]) _
    refine XS.dup X1.here hx rfl (oh hby D55 1 rfl) rfl rfl ?_
    refine XS.aloadN X1.here hx rfl (oh hby D55 2 rfl) rfl rfl ?_
    refine st12.trans ?_
    show oS p e below T12 (mkF m 8 #[vR xb] [(.ref b1)]) _
    jvm_step X12.here [X12.here.top, hx, (oh hby D55 4 rfl), X12.method', Bd.returns, Value.isRef, FieldType.isReference]
    first | (intro acts; rw [hr _ acts rfl rfl rfl]) | rw [hr _ _ rfl rfl rfl]
    exact Steps.refl _
  · show Q_toStrW Z xb va ka ps G h0 n0 _ T12.heap _
    exact ⟨b1, tt_12, kt_12, rfl, N12, (((Keep.refl h0 ([] : List Addr)).ext E1).trans K12 (allS (Or.inr (Nat.le_trans (Nat.le_refl _) (Nat.le_of_eq g1.symm))) all0)), (Nat.le_trans (Nat.le_refl _) (Nat.le_of_eq g1.symm)), (Nat.le_trans E1.1 f12_2), c13, f12_0, f12_1, f12_3⟩
theorem pn_8 : plainName "com/example/holdfast/holdfast/InvalidInputException" = true := by first | (simp [plainName, overriddenIn]; done) | decide +kernel
def Q_quoS (Z : State) (xs : Addr) (t1 : Addr) (k1 : ClassId) (cd : Int32) (nn : Int32) (vs : List Value) (cs : List Int32) (G : Int32) (fm : Value) (h0 : Heap) (n0 : Nat) (v : Option Value) (h : Heap) (L : List Loc) : Prop := (v = some (.ref xs)) ∧ (Fr n0 L) ∧ (Keep h0 h ([] : List Addr))
set_option maxRecDepth 65536 in
set_option maxHeartbeats 40000000 in
theorem rm_quoS (l : Launch) (Z : State) (a0 : Array Value) (hw : HW Z a0) (ws : List Jvm.Cond) (xs : Addr) (t1 : Addr) (k1 : ClassId) (cd : Int32) (nn : Int32) (vs : List Value) (cs : List Int32) (G : Int32) (fm : Value) (h0 : Heap) (n0 : Nat) (Z0 : n0 ≤ h0.size) (q0 : sC Z G) (hCS : ¬ (G = (0 : Int32))) (q2 : sF Z fm) (hFM : fm.isRef = true) (q4 : sA Z) (q5 : sH Z) (q6 : sL Z) (q7 : Old Z n0 h0) (q8 : eS Z h0 xs) (q9 : fV Z h0 xs (.ref t1)) (q10 : fC Z h0 xs (.int cd)) (q11 : Arv Z h0 t1 k1 .byte nn vs (.int 0)) (hcd1 : StrChars.Road.CodA cs cd nn vs) (hbd1 : ∀ c ∈ cs, ¬ c < 0 ∧ ¬ (65535 : Int32) < c) (hle1 : cs.length ≤ 4000) (hs40 : cs.length ≤ 40) :
    MetFree l y_57 (head1 (Jvm.Cond.code y_57 prog_7_method_2_code 1 (some (.object "java/lang/String")) :: ws) (rmk 2 0 0 25)) (fun a₁ U₁ => a₁ = #[(.ref xs)] ∧ Z.Warmed39 U₁.vm ∧ U₁.heap = h0 ∧ CHv Z oEL U₁.vm h0) (fun _ _ _ _ _ => True) (fun _ U₁ o₁ U₂ => ∃ v₁ L₁, o₁ = .returned v₁ ∧ Q_quoS Z xs t1 k1 cd nn vs cs G fm h0 n0 v₁ U₂.heap L₁ ∧ CHr Z oEL U₁.vm U₁.heap U₂.vm U₂.heap ∧ ReturnedEndW U₁ o₁ U₂ L₁ (rmk 2 0 0 25).cells (rmk 2 0 0 25).slots) := by
  refine MetFree.of_bodySF (plainFor_of_name pn_8) hisR ?_
  intro p e s m args below meth c s₁ Bd hml0 hP hK
  obtain ⟨rfl, hZ, hh, CH0⟩ := hP
  have hx := Bd.exec
  have hby := Bd.bytes
  have hml : c.maxLocals = 1 := hml0
  have hown : s.vm.findClass "com/example/holdfast/holdfast/InvalidInputException" = some m.cls := findClass_of_methodNamed Bd.named
  have hnm := (name_of_methodNamed Bd.named Bd.method).1
  have X0 : Stand p l e (rmk 2 0 0 25) (s.setVm s.vm) m #[(.ref xs)] below meth c s₁ [] 0 0 := Stand.of_body Bd
  have e0 : s₁.heap = h0 := by rw [← hh, Bd.state]; rfl
  have N0 := Fr.nil n0
  have hZ0 : Z.Warmed39 (s.setVm s.vm).vm := hZ
  have hown0 : (s.setVm s.vm).vm.findClass "com/example/holdfast/holdfast/InvalidInputException" = some m.cls := hown
  have hS0 : s.Since s.vm h0.size := (State.WarmedH.refl s).since _
  have hk0 : h0.size ≤ h0.size := Nat.le_refl _
  have CR0 : CHr Z oEL s.vm h0 s.vm h0 := CHr.refl CH0
  have pre0 : ∀ t, oS p e below s₁ (mkF m 0 #[vR xs] []) t → oS p e below s₁ (entryFrame m #[(.ref xs)] 1) t := fun t k => castTop (ef_8 m xs) k
  obtain ⟨cq1, kq1, q1a, q1b, q1c⟩ := isOf hZ0 e0 q8
  obtain ⟨_, _, ⟨T1, L1, k1, n1⟩, -, X1, ⟨Lc1, hQ1, l1, y1, z1⟩, st1⟩ := X0.virtualBack hx (y := y_40) (z := y_40) hown0 (mvT hZ0 (ow hw 27 rfl)) (mvT hZ0 (ow hw 28 rfl)) (notFace_of_selects (args := #[]) (mvT hZ0 (ow hw 30 rfl))) (mvT hZ0 (ow hw 30 rfl)) (mvT hZ0 (ow hw 29 rfl)) (by decide) (StrChars.Road.lenW (W := 0) hZ0 (own_hw_lenW hw) (kI := 4) (ow hw 3 rfl) q8 q9 q10 q11 hcd1 hbd1 (q0.ext q7.2) hCS hle1 (by decide) (by decide)) q1a q1c (g := (mkF m 1 #[vR xs] [(.ref xs)])) rfl (by rw [hml]; rfl) (Steps.refl _) (argsL := []) (rest := []) (lenOf pd_8 rfl) rfl (by show 2 * 0 + _ ≤ _; exact Nat.le_of_eq rfl) (oh hby D56 1 rfl) (fun _ _ => ⟨rfl, e0, (by decide : 0 + 0 ≤ _), (by decide : 0 + 0 ≤ _)⟩)
  dsimp only [Pt.U, Pt.locs, Pt.cells, Pt.slots] at X1 l1 y1 z1 st1 hQ1
  subst l1 y1 z1
  obtain ⟨rfl, rfl, e1⟩ := hQ1
  have N1 := Fr.app N0 (Fr.nil n0)
  obtain ⟨fs, hr, hrun, hended, hEnd⟩ := X1.leaveW hS0 (by rw [e1]; exact hk0) (v := some (.ref xs)) (fun h => by rw [Bd.returns] at h; cases h)
  refine ⟨_, _, pre0 _ ?_, hrun, hended, _, _, rfl, ?_, (by rw [hh]; show CHr Z oEL s.vm h0 T1.vm T1.heap; rw [e1]; exact CR0.trans (CHv.at X1 hZ0 (own_EW hw) CR0.1)), hEnd.1, hEnd.2.1, hEnd.2.2.1, hEnd.2.2.2.mono (by decide) (by decide)⟩
  · refine XS.aloadN X0.here hx rfl (oh hby D56 0 rfl) rfl rfl ?_
    refine st1.trans ?_
    show oS p e below T1 (mkF m 4 #[vR xs] [(.int (Int32.ofNat (cs).length))]) _
    refine XS.bipush X1.here hx rfl (oh hby D56 2 rfl) ?_
    refine XS.icmpNo X1.here hx rfl (oh hby D56 3 rfl) rfl (flt ((own_nlt (i := 40) (by omega) (by omega)) : ¬ ((40 : Int32) < (Int32.ofNat (cs).length)))).2.2.1 ?_
    refine XS.aloadN X1.here hx rfl (oh hby D56 4 rfl) rfl rfl ?_
    refine XS.goto X1.here hx rfl (pc0 := 10) (pc' := 38) rfl (oh hby D56 5 rfl) (by decide) (by decide) ?_
    show oS p e below T1 (mkF m 38 #[vR xs] [(.ref xs)]) _
    jvm_step X1.here [X1.here.top, hx, (oh hby D56 17 rfl), X1.method', Bd.returns, Value.isRef, FieldType.isReference]
    first | (intro acts; rw [hr _ acts rfl rfl rfl]) | rw [hr _ _ rfl rfl rfl]
    exact Steps.refl _
  · show Q_quoS Z xs t1 k1 cd nn vs cs G fm h0 n0 _ T1.heap _
    rw [e1]
    exact ⟨rfl, N1, (Keep.refl h0 ([] : List Addr))⟩
theorem pd_35 : parseMethodDescriptor "(II)Ljava/lang/String;" = some ⟨[.int, .int], some (.object "java/lang/String")⟩ := by decide +kernel
theorem pd_36 : parseMethodDescriptor "(Ljava/lang/String;)Ljava/lang/StringBuilder;" = some ⟨[(.object "java/lang/String")], some (.object "java/lang/StringBuilder")⟩ := by decide +kernel
theorem pd_37 : parseMethodDescriptor "()Ljava/lang/String;" = some ⟨[], some (.object "java/lang/String")⟩ := by decide +kernel
def Q_quoL (Z : State) (xs : Addr) (t1 : Addr) (k1 : ClassId) (cd : Int32) (nn : Int32) (vs : List Value) (cs : List Int32) (G : Int32) (fm : Value) (h0 : Heap) (n0 : Nat) (v : Option Value) (h : Heap) (L : List Loc) : Prop := ∃ (xr : Addr) (tt : Addr) (kt : ClassId) (cq : Int32) (nq : Int32) (vq : List Value), (v = some (.ref xr)) ∧ (Fr n0 L) ∧ (Keep h0 h ([] : List Addr)) ∧ (h0.size ≤ xr) ∧ (eS Z h xr) ∧ (fV Z h xr (.ref tt)) ∧ (fC Z h xr (.int cq)) ∧ (Arv Z h tt kt .byte nq vq (.int 0)) ∧ (StrChars.Road.CodA (cs.take 40 ++ own_dots) cq nq vq)
set_option maxRecDepth 65536 in
set_option maxHeartbeats 40000000 in
theorem rm_quoL (l : Launch) (Z : State) (a0 : Array Value) (hw : HW Z a0) (ws : List Jvm.Cond) (xs : Addr) (t1 : Addr) (k1 : ClassId) (cd : Int32) (nn : Int32) (vs : List Value) (cs : List Int32) (G : Int32) (fm : Value) (h0 : Heap) (n0 : Nat) (Z0 : n0 ≤ h0.size) (q0 : sC Z G) (hCS : ¬ (G = (0 : Int32))) (q2 : sF Z fm) (hFM : fm.isRef = true) (q4 : sA Z) (q5 : sH Z) (q6 : sL Z) (q7 : Old Z n0 h0) (q8 : eS Z h0 xs) (q9 : fV Z h0 xs (.ref t1)) (q10 : fC Z h0 xs (.int cd)) (q11 : Arv Z h0 t1 k1 .byte nn vs (.int 0)) (hcd1 : StrChars.Road.CodA cs cd nn vs) (hbd1 : ∀ c ∈ cs, ¬ c < 0 ∧ ¬ (65535 : Int32) < c) (hle1 : cs.length ≤ 4000) (hG40 : 40 < cs.length) (hG44 : cs.length ≤ 44) :
    MetFree l y_57 (head1 (Jvm.Cond.code y_57 prog_7_method_2_code 1 (some (.object "java/lang/String")) :: ws) (rmk 10 12 676 143)) (fun a₁ U₁ => a₁ = #[(.ref xs)] ∧ Z.Warmed39 U₁.vm ∧ U₁.heap = h0 ∧ CHv Z oEL U₁.vm h0) (fun _ _ _ _ _ => True) (fun _ U₁ o₁ U₂ => ∃ v₁ L₁, o₁ = .returned v₁ ∧ Q_quoL Z xs t1 k1 cd nn vs cs G fm h0 n0 v₁ U₂.heap L₁ ∧ CHr Z oEL U₁.vm U₁.heap U₂.vm U₂.heap ∧ ReturnedEndW U₁ o₁ U₂ L₁ (rmk 10 12 676 143).cells (rmk 10 12 676 143).slots) := by
  refine MetFree.of_bodySF (plainFor_of_name pn_8) hisR ?_
  intro p e s m args below meth c s₁ Bd hml0 hP hK
  obtain ⟨rfl, hZ, hh, CH0⟩ := hP
  have hx := Bd.exec
  have hby := Bd.bytes
  have hml : c.maxLocals = 1 := hml0
  have hown : s.vm.findClass "com/example/holdfast/holdfast/InvalidInputException" = some m.cls := findClass_of_methodNamed Bd.named
  have hnm := (name_of_methodNamed Bd.named Bd.method).1
  have X0 : Stand p l e (rmk 10 12 676 143) (s.setVm s.vm) m #[(.ref xs)] below meth c s₁ [] 0 0 := Stand.of_body Bd
  have e0 : s₁.heap = h0 := by rw [← hh, Bd.state]; rfl
  have N0 := Fr.nil n0
  have hZ0 : Z.Warmed39 (s.setVm s.vm).vm := hZ
  have hown0 : (s.setVm s.vm).vm.findClass "com/example/holdfast/holdfast/InvalidInputException" = some m.cls := hown
  have hS0 : s.Since s.vm h0.size := (State.WarmedH.refl s).since _
  have hk0 : h0.size ≤ h0.size := Nat.le_refl _
  have CR0 : CHr Z oEL s.vm h0 s.vm h0 := CHr.refl CH0
  have pre0 : ∀ t, oS p e below s₁ (mkF m 0 #[vR xs] []) t → oS p e below s₁ (entryFrame m #[(.ref xs)] 1) t := fun t k => castTop (ef_8 m xs) k
  have hpl : (cs.take 40).length = 40 := own_take40 hG40
  have hr43 : (cs.take 40 ++ own_dots).length = 43 := own_rs43 hpl
  have hbp : ∀ c ∈ cs.take 40, ¬ c < 0 ∧ ¬ (65535 : Int32) < c := fun c hc => hbd1 c (List.mem_of_mem_take hc)
  obtain ⟨cq1, kq1, q1a, q1b, q1c⟩ := isOf hZ0 e0 q8
  obtain ⟨_, _, ⟨T1, L1, k1, n1⟩, -, X1, ⟨Lc1, hQ1, l1, y1, z1⟩, st1⟩ := X0.virtualBack hx (y := y_40) (z := y_40) hown0 (mvT hZ0 (ow hw 27 rfl)) (mvT hZ0 (ow hw 28 rfl)) (notFace_of_selects (args := #[]) (mvT hZ0 (ow hw 30 rfl))) (mvT hZ0 (ow hw 30 rfl)) (mvT hZ0 (ow hw 29 rfl)) (by decide) (StrChars.Road.lenW (W := 0) hZ0 (own_hw_lenW hw) (kI := 4) (ow hw 3 rfl) q8 q9 q10 q11 hcd1 hbd1 (q0.ext q7.2) hCS hle1 (by decide) (by decide)) q1a q1c (g := (mkF m 1 #[vR xs] [(.ref xs)])) rfl (by rw [hml]; rfl) (Steps.refl _) (argsL := []) (rest := []) (lenOf pd_8 rfl) rfl (by show 2 * 0 + _ ≤ _; exact Nat.le_of_eq rfl) (oh hby D56 1 rfl) (fun _ _ => ⟨rfl, e0, (by decide : 0 + 0 ≤ _), (by decide : 0 + 0 ≤ _)⟩)
  dsimp only [Pt.U, Pt.locs, Pt.cells, Pt.slots] at X1 l1 y1 z1 st1 hQ1
  subst l1 y1 z1
  obtain ⟨rfl, rfl, e1⟩ := hQ1
  have N1 := Fr.app N0 (Fr.nil n0)
  obtain ⟨T2, h2, X2, e2, E2, A2, D2, -, st2⟩ := newO X1 hx hZ0 hown0 (ow hw 54 rfl) (ow hw 55 rfl) (ow hw 56 rfl) e1 (g := (mkF m 13 #[vR xs] [])) rfl (oh hby D56 6 rfl) (by decide) (by decide)
  obtain ⟨b2, g2⟩ : ∃ z, z = h0.size := ⟨_, rfl⟩
  rw [← g2] at A2 D2 st2
  have sf3 : Safe Z oEL s.vm h0 b2 := Safe.new (Nat.le_of_eq g2.symm)
  have CR4 : CHr Z oEL s.vm h0 s.vm h2 := CR0.trans (CHr.ext E2 CR0.1)
  have sf5 : Safe Z oEL s.vm h2 b2 := Safe.ext E2 CR0.1 sf3
  have D2_value : fB Z h2 b2 "value" "[B" .null := D2 (Or.inl (ow hw 69 rfl)) (ty := (.array .byte)) (by decide)
  have D2_coder : fB Z h2 b2 "coder" "B" (.int 0) := D2 (Or.inl (ow hw 71 rfl)) (ty := .byte) (by decide)
  have D2_count : fB Z h2 b2 "count" "I" (.int 0) := D2 (Or.inl (ow hw 129 rfl)) (ty := .int) (by decide)
  have D2_maybeLatin1 : fB Z h2 b2 "maybeLatin1" "Z" (.int 0) := D2 (Or.inl (ow hw 276 rfl)) (ty := .boolean) (by decide)
  have c6 := (q7.ext E2)
  have ge7 : n0 ≤ b2 := Nat.le_trans Z0 (Nat.le_trans (Nat.le_refl _) (Nat.le_of_eq g2.symm))
  obtain ⟨_, _, ⟨T8, L8, k8, n8⟩, -, X8, ⟨Lc8, hQ8, l8, y8, z8⟩, st8⟩ := X2.specialBack hx (y := y_42) rfl hown0 (mvT hZ0 (ow hw 57 rfl)) (mvT hZ0 (ow hw 58 rfl)) (mvT hZ0 (ow hw 59 rfl)) (by decide) (backOf (W := 1) (rm_sbI l Z a0 hw [] b2 G h2 n0 (Nat.le_trans Z0 E2.1) q0 hCS c6 A2 D2_value D2_coder D2_count D2_maybeLatin1 ge7) hZ0 (ow hw 59 rfl) (ow hw 56 rfl) (by decide) (by decide)) (g := (mkF m 17 #[vR xs] [(.ref b2), (.ref b2)])) rfl (by rw [hml]; rfl) (Steps.refl _) (a := b2) (argsL := []) (rest := [(.ref b2)]) (lenOf pd_27 rfl) rfl (by show 2 * 0 + _ ≤ _; exact Nat.le_of_eq rfl) (oh hby D56 8 rfl) (fun _ _ => ⟨rfl, e2, (by decide : 1 + 1 ≤ _), (by decide : 4 + 16 ≤ _)⟩)
  dsimp only [Pt.U, Pt.locs, Pt.cells, Pt.slots] at X8 l8 y8 z8 st8 hQ8
  subst l8 y8 z8
  obtain ⟨vb_8, kb_8, rfl, Nq8, K8, f8_0, f8_1, f8_2, f8_3, f8_4, f8_5⟩ := hQ8
  have N8 := Fr.app N1 Nq8
  have sf9 : Safe Z oEL s.vm h2 vb_8 := Safe.new f8_4
  have CR10 : CHr Z oEL s.vm h0 s.vm T8.heap := CR4.trans (CHr.keep K8 (sfS sf5 sf0) CR4.1)
  have sf11 : Safe Z oEL s.vm T8.heap b2 := Safe.keep K8 (sfS sf5 sf0) CR4.1 sf5
  have sf12 : Safe Z oEL s.vm T8.heap vb_8 := Safe.keep K8 (sfS sf5 sf0) CR4.1 sf9
  have c13 := ((q8.ext E2).keep K8)
  have c14 := (c6.keep K8 (allS ge7 all0))
  have ne15 : xs ≠ b2 := Nat.ne_of_lt (Nat.lt_of_lt_of_le q9.lt (Nat.le_of_eq g2.symm))
  have c16 := ((q9.ext E2).keep K8 (ninS ne15 nin0))
  have c17 := ((q10.ext E2).keep K8 (ninS ne15 nin0))
  have ne18 : t1 ≠ b2 := Nat.ne_of_lt (Nat.lt_of_lt_of_le q11.lt (Nat.le_of_eq g2.symm))
  have c19 := ((q11.ext E2).keep K8 (ninS ne18 nin0))
  obtain ⟨cq20, kq20, q20a, q20b, q20c⟩ := isOf hZ0 rfl c13
  obtain ⟨_, _, ⟨T20, L20, k20, n20⟩, -, X20, ⟨Lc20, hQ20, l20, y20, z20⟩, st20⟩ := X8.virtualBack hx (y := y_39) (z := y_39) hown0 (mvT hZ0 (ow hw 72 rfl)) (mvT hZ0 (ow hw 73 rfl)) (notFace_of_selects (args := #[]) (mvT hZ0 (ow hw 75 rfl))) (mvT hZ0 (ow hw 75 rfl)) (mvT hZ0 (ow hw 74 rfl)) (by decide) (backOf (W := 1) (rm_sub40 l Z a0 hw [] xs t1 k1 cd nn vs cs G fm T8.heap n0 (Nat.le_trans Z0 (Nat.le_trans E2.1 K8.1)) q0 hCS q2 hFM q4 q5 q6 c14 c13 c16 c17 c19 hcd1 hbd1 hle1 hG40 hG44) hZ0 (ow hw 76 rfl) (ow hw 4 rfl) (by decide) (by decide)) q20a q20c (g := (mkF m 24 #[vR xs] [(.int 40), (.int 0), (.ref xs), (.ref b2)])) rfl (by rw [hml]; rfl) (Steps.refl _) (argsL := [(.int 0), (.int 40)]) (rest := [(.ref b2)]) (lenOf pd_35 rfl) rfl (by show 2 * 0 + _ ≤ _; exact Nat.le_of_eq rfl) (oh hby D56 12 rfl) (fun _ _ => ⟨rfl, rfl, (by decide : 2 + 3 ≤ _), (by decide : 20 + 132 ≤ _)⟩)
  dsimp only [Pt.U, Pt.locs, Pt.cells, Pt.slots] at X20 l20 y20 z20 st20 hQ20
  subst l20 y20 z20
  obtain ⟨xr_20, tt_20, kt_20, cq_20, nq_20, vq_20, rfl, Nq20, K20, f20_0, f20_1, f20_2, f20_3, f20_4, f20_5, f20_6⟩ := hQ20
  have N20 := Fr.app N8 Nq20
  have sf21 : Safe Z oEL s.vm T8.heap xr_20 := Safe.new f20_0
  have sf22 : Safe Z oEL s.vm T8.heap tt_20 := Safe.new f20_1
  have CR23 : CHr Z oEL s.vm h0 s.vm T20.heap := CR10.trans (CHr.keep K20 sf0 CR10.1)
  have sf24 : Safe Z oEL s.vm T20.heap b2 := Safe.keep K20 sf0 CR10.1 sf11
  have sf25 : Safe Z oEL s.vm T20.heap vb_8 := Safe.keep K20 sf0 CR10.1 sf12
  have sf26 : Safe Z oEL s.vm T20.heap xr_20 := Safe.keep K20 sf0 CR10.1 sf21
  have sf27 : Safe Z oEL s.vm T20.heap tt_20 := Safe.keep K20 sf0 CR10.1 sf22
  have pre28 : ∀ t, oS p e below T20 (mkF m 27 #[vR xs] [(.ref xr_20), (.ref b2)]) t → oS p e below s₁ (entryFrame m #[(.ref xs)] 1) t := fun t kk => pre0 t (by
    refine XS.aloadN X0.here hx rfl (oh hby D56 0 rfl) rfl rfl ?_
    refine st1.trans ?_
    show oS p e below T1 (mkF m 4 #[vR xs] [(.int (Int32.ofNat (cs).length))]) _
    refine XS.bipush X1.here hx rfl (oh hby D56 2 rfl) ?_
    refine XS.icmpYes X1.here hx rfl (pc0 := 6) (pc' := 13) rfl (oh hby D56 3 rfl) rfl (tlt ((own_inb (i := 40) (by omega) (by omega)).2 : (40 : Int32) < (Int32.ofNat (cs).length))).2.2.1 (by decide) (by decide) ?_
    refine st2 _ ?_
    show oS p e below T2 (mkF m 16 #[vR xs] [(.ref b2)]) _
    refine XS.dup X2.here hx rfl (oh hby D56 7 rfl) rfl rfl ?_
    refine st8.trans ?_
    show oS p e below T8 (mkF m 20 #[vR xs] [(.ref b2)]) _
    refine XS.aloadN X8.here hx rfl (oh hby D56 9 rfl) rfl rfl ?_
    refine XS.iconst X8.here hx rfl (oh hby D56 10 rfl) ?_
    refine XS.bipush X8.here hx rfl (oh hby D56 11 rfl) ?_
    refine st20.trans ?_
    show oS p e below T20 (mkF m 27 #[vR xs] [(.ref xr_20), (.ref b2)]) _
    exact kk)
  rcases f20_6 with ⟨hq1, hq2, hq3, hq4⟩ | ⟨hq1, hq2, hq3, hq4⟩
  · subst hq1
    subst hq2
    subst hq3
    have c29 := ((A2.keep K8).keep K20)
    have c30 := (c14.keep K20 all0)
    have c31 := (f8_0.keep K20 nin0)
    have c32 := (f8_1.keep K20 nin0)
    have c33 := (f8_2.keep K20 nin0)
    have c34 := (f8_3.keep K20 nin0)
    have c35 := (f8_5.keep K20 nin0)
    have ne36 : b2 ≠ vb_8 := Nat.ne_of_lt (Nat.lt_of_lt_of_le A2.lt f8_4)
    have ne37 : vb_8 ≠ tt_20 := Nat.ne_of_lt (Nat.lt_of_lt_of_le f8_5.lt f20_1)
    have ne38 : b2 ≠ xr_20 := Nat.ne_of_lt (Nat.lt_of_lt_of_le (Nat.lt_of_lt_of_le A2.lt K8.1) f20_0)
    have ne39 : vb_8 ≠ xr_20 := Nat.ne_of_lt (Nat.lt_of_lt_of_le f8_5.lt f20_0)
    have ne40 : b2 ≠ tt_20 := Nat.ne_of_lt (Nat.lt_of_lt_of_le (Nat.lt_of_lt_of_le A2.lt K8.1) f20_1)
    obtain ⟨cq41, kq41, q41a, q41b, q41c⟩ := isOf hZ0 rfl c29
    obtain ⟨_, _, ⟨T41, L41, k41, n41⟩, -, X41, ⟨Lc41, hQ41, l41, y41, z41⟩, st41⟩ := X20.virtualBack hx (y := y_53) (z := y_53) hown0 (mvT hZ0 (ow hw 117 rfl)) (mvT hZ0 (ow hw 118 rfl)) (notFace_of_selects (args := #[]) (mvT hZ0 (ow hw 120 rfl))) (mvT hZ0 (ow hw 120 rfl)) (mvT hZ0 (ow hw 119 rfl)) (by decide) (backOf (W := 0) (rm_ap1L l Z a0 hw [] b2 xr_20 tt_20 kt_20 vb_8 kb_8 (cs.take 40) G fm T20.heap n0 (Nat.le_trans Z0 (Nat.le_trans (Nat.le_trans E2.1 K8.1) K20.1)) q0 hCS q2 hFM q4 q5 q6 c30 f20_2 f20_3 f20_4 f20_5 c29 c31 c32 c33 c34 c35 ge7 (Ne.symm ne36) (Ne.symm ne37) (Ne.symm ne38) (Ne.symm ne39) (Ne.symm ne40) (by first | assumption | decide) ((Or.inl ⟨rfl, by rw [hpl]; rfl, rfl, hq4⟩)) (hbp)) hZ0 (ow hw 121 rfl) (ow hw 56 rfl) (by decide) (by decide)) q41a q41c (g := (mkF m 27 #[vR xs] [(.ref xr_20), (.ref b2)])) rfl (by rw [hml]; rfl) (Steps.refl _) (argsL := [(.ref xr_20)]) (rest := []) (lenOf pd_36 rfl) rfl (by show 2 * 0 + _ ≤ _; exact Nat.le_of_eq rfl) (oh hby D56 13 rfl) (fun _ _ => ⟨rfl, rfl, (by decide : 5 + 1 ≤ _), (by decide : 152 + 164 ≤ _)⟩)
    dsimp only [Pt.U, Pt.locs, Pt.cells, Pt.slots] at X41 l41 y41 z41 st41 hQ41
    subst l41 y41 z41
    obtain ⟨vb_41, kb_41, rfl, Nq41, K41, f41_0, f41_1, f41_2, f41_3, f41_4, f41_5⟩ := hQ41
    have N41 := Fr.app N20 Nq41
    have sf42 : Safe Z oEL s.vm T20.heap vb_41 := Safe.new f41_4
    have CR43 : CHr Z oEL s.vm h0 s.vm T41.heap := CR23.trans (CHr.keep K41 (sfS sf24 sf0) CR23.1)
    have sf44 : Safe Z oEL s.vm T41.heap b2 := Safe.keep K41 (sfS sf24 sf0) CR23.1 sf24
    have sf45 : Safe Z oEL s.vm T41.heap vb_8 := Safe.keep K41 (sfS sf24 sf0) CR23.1 sf25
    have sf46 : Safe Z oEL s.vm T41.heap xr_20 := Safe.keep K41 (sfS sf24 sf0) CR23.1 sf26
    have sf47 : Safe Z oEL s.vm T41.heap tt_20 := Safe.keep K41 (sfS sf24 sf0) CR23.1 sf27
    have sf48 : Safe Z oEL s.vm T41.heap vb_41 := Safe.keep K41 (sfS sf24 sf0) CR23.1 sf42
    obtain ⟨b49, T49, h49, kk49, bb49, kb49, X49, e49, E49, hS49, hk49, hZ49, hown49, fE49, fC49, fV49, fA49, la49, lb49, ch49, li49, sx49, st49⟩ := ldcCH X41 hx hZ0 hown0 (ow hw 169 rfl) (own_hw_str hw) rfl hS0 (Nat.le_trans hk0 (Nat.le_trans (Nat.le_trans (Nat.le_trans E2.1 K8.1) K20.1) K41.1)) (own_EW hw) (by decide) CR43.1 (vs := [(.int 46), (.int 46), (.int 46)]) (z := (3 : Int32)) ⟨by decide, rfl⟩ (by decide) rfl (g := (mkF m 30 #[vR xs] [(.ref b2)])) rfl (oh hby D56 14 rfl) (n := 12) (by decide) (by decide) (by decide) (by decide)
    have CR50 : CHr Z oEL s.vm h0 T49.vm h49 := CR43.trans ch49
    have sf51 : Safe Z oEL T49.vm h49 b2 := ch49.safe (Nat.lt_of_lt_of_le c29.lt K41.1) sf44
    have sf52 : Safe Z oEL T49.vm h49 vb_8 := ch49.safe (Nat.lt_of_lt_of_le c35.lt K41.1) sf45
    have sf53 : Safe Z oEL T49.vm h49 xr_20 := ch49.safe (Nat.lt_of_lt_of_le f20_2.lt K41.1) sf46
    have sf54 : Safe Z oEL T49.vm h49 tt_20 := ch49.safe (Nat.lt_of_lt_of_le f20_5.lt K41.1) sf47
    have sf55 : Safe Z oEL T49.vm h49 vb_41 := ch49.safe f41_5.lt sf48
    have c56 := ((c29.keep K41).ext E49)
    have c57 := ((c30.keep K41 (allS ge7 all0)).ext E49)
    have c58 := (f41_0.ext E49)
    have c59 := (f41_1.ext E49)
    have c60 := (f41_2.ext E49)
    have c61 := (f41_3.ext E49)
    have c62 := (f41_5.ext E49)
    have ne63 : b2 ≠ vb_41 := Nat.ne_of_lt (Nat.lt_of_lt_of_le (Nat.lt_of_lt_of_le A2.lt (Nat.le_trans K8.1 K20.1)) f41_4)
    obtain ⟨cq64, kq64, q64a, q64b, q64c⟩ := isOf hZ49 e49 c56
    obtain ⟨_, _, ⟨T64, L64, k64, n64⟩, -, X64, ⟨Lc64, hQ64, l64, y64, z64⟩, st64⟩ := X49.virtualBack hx (y := y_53) (z := y_53) hown49 (mvT hZ49 (ow hw 117 rfl)) (mvT hZ49 (ow hw 118 rfl)) (notFace_of_selects (args := #[]) (mvT hZ49 (ow hw 120 rfl))) (mvT hZ49 (ow hw 120 rfl)) (mvT hZ49 (ow hw 119 rfl)) (by decide) (backOf (W := 0) (rm_ap2L l Z a0 hw [] b2 b49 bb49 kb49 vb_41 kb_41 (cs.take 40) G fm h49 n0 (Nat.le_trans Z0 (Nat.le_trans (Nat.le_trans (Nat.le_trans (Nat.le_trans E2.1 K8.1) K20.1) K41.1) E49.1)) q0 hCS q2 hFM q4 q5 q6 c57 fE49 fV49 fC49 fA49 c56 c58 c59 c60 c61 c62 ge7 (Ne.symm ne63) (Ne.symm (sx49 vb_41 sf55).2) (Ne.symm (sx49 b2 sf51).1) (Ne.symm (sx49 vb_41 sf55).1) (Ne.symm (sx49 b2 sf51).2) (by first | assumption | decide) (Or.inl ⟨rfl, rfl, rfl, fun c hc => (own_dotsW c hc).2⟩) (fun c hc => (own_dotsW c hc).1)) hZ49 (ow hw 121 rfl) (ow hw 56 rfl) (by decide) (by decide)) q64a q64c (g := (mkF m 32 #[vR xs] [(.ref b49), (.ref b2)])) rfl (by rw [hml]; rfl) (Steps.refl _) (argsL := [(.ref b49)]) (rest := []) (lenOf pd_36 rfl) rfl (by show 2 * 0 + _ ≤ _; exact Nat.le_of_eq rfl) (oh hby D56 15 rfl) (fun _ _ => ⟨rfl, e49, (by decide : 8 + 1 ≤ _), (by decide : 332 + 164 ≤ _)⟩)
    dsimp only [Pt.U, Pt.locs, Pt.cells, Pt.slots] at X64 l64 y64 z64 st64 hQ64
    subst l64 y64 z64
    obtain ⟨vb_64, kb_64, rfl, Nq64, K64, f64_0, f64_1, f64_2, f64_3, f64_4, f64_5⟩ := hQ64
    have N64 := Fr.app N41 Nq64
    have sf65 : Safe Z oEL T49.vm h49 vb_64 := Safe.new f64_4
    have CR66 : CHr Z oEL s.vm h0 T49.vm T64.heap := CR50.trans (CHr.keep K64 (sfS sf51 sf0) CR50.1)
    have sf67 : Safe Z oEL T49.vm T64.heap b2 := Safe.keep K64 (sfS sf51 sf0) CR50.1 sf51
    have sf68 : Safe Z oEL T49.vm T64.heap vb_8 := Safe.keep K64 (sfS sf51 sf0) CR50.1 sf52
    have sf69 : Safe Z oEL T49.vm T64.heap xr_20 := Safe.keep K64 (sfS sf51 sf0) CR50.1 sf53
    have sf70 : Safe Z oEL T49.vm T64.heap tt_20 := Safe.keep K64 (sfS sf51 sf0) CR50.1 sf54
    have sf71 : Safe Z oEL T49.vm T64.heap vb_41 := Safe.keep K64 (sfS sf51 sf0) CR50.1 sf55
    have sf72 : Safe Z oEL T49.vm T64.heap vb_64 := Safe.keep K64 (sfS sf51 sf0) CR50.1 sf65
    have c73 := (c56.keep K64)
    have c74 := (c57.keep K64 (allS ge7 all0))
    obtain ⟨cq75, kq75, q75a, q75b, q75c⟩ := isOf hZ49 rfl c73
    obtain ⟨_, _, ⟨T75, L75, k75, n75⟩, -, X75, ⟨Lc75, hQ75, l75, y75, z75⟩, st75⟩ := X64.virtualBack hx (y := y_56) (z := y_56) hown49 (mvT hZ49 (ow hw 170 rfl)) (mvT hZ49 (ow hw 171 rfl)) (notFace_of_selects (args := #[]) (mvT hZ49 (ow hw 173 rfl))) (mvT hZ49 (ow hw 173 rfl)) (mvT hZ49 (ow hw 172 rfl)) (by decide) (backOf (W := 0) (rm_toStrL l Z a0 hw [] b2 vb_64 kb_64 (cs.take 40) G T64.heap n0 (Nat.le_trans Z0 (Nat.le_trans (Nat.le_trans (Nat.le_trans (Nat.le_trans (Nat.le_trans E2.1 K8.1) K20.1) K41.1) E49.1) K64.1)) q0 hCS c74 c73 f64_0 f64_1 f64_2 f64_3 f64_5 (by first | assumption | decide)) hZ49 (ow hw 174 rfl) (ow hw 56 rfl) (by decide) (by decide)) q75a q75c (g := (mkF m 35 #[vR xs] [(.ref b2)])) rfl (by rw [hml]; rfl) (Steps.refl _) (argsL := []) (rest := []) (lenOf pd_37 rfl) rfl (by show 2 * 0 + _ ≤ _; exact Nat.le_of_eq rfl) (oh hby D56 16 rfl) (fun _ _ => ⟨rfl, rfl, (by decide : 9 + 2 ≤ _), (by decide : 496 + 92 ≤ _)⟩)
    dsimp only [Pt.U, Pt.locs, Pt.cells, Pt.slots] at X75 l75 y75 z75 st75 hQ75
    subst l75 y75 z75
    obtain ⟨xr_75, tt_75, kt_75, rfl, Nq75, K75, f75_0, f75_1, f75_2, f75_3, f75_4, f75_5⟩ := hQ75
    have N75 := Fr.app N64 Nq75
    have sf76 : Safe Z oEL T49.vm T64.heap xr_75 := Safe.new f75_0
    have sf77 : Safe Z oEL T49.vm T64.heap tt_75 := Safe.new f75_1
    have CR78 : CHr Z oEL s.vm h0 T49.vm T75.heap := CR66.trans (CHr.keep K75 sf0 CR66.1)
    have sf79 : Safe Z oEL T49.vm T75.heap b2 := Safe.keep K75 sf0 CR66.1 sf67
    have sf80 : Safe Z oEL T49.vm T75.heap vb_8 := Safe.keep K75 sf0 CR66.1 sf68
    have sf81 : Safe Z oEL T49.vm T75.heap xr_20 := Safe.keep K75 sf0 CR66.1 sf69
    have sf82 : Safe Z oEL T49.vm T75.heap tt_20 := Safe.keep K75 sf0 CR66.1 sf70
    have sf83 : Safe Z oEL T49.vm T75.heap vb_41 := Safe.keep K75 sf0 CR66.1 sf71
    have sf84 : Safe Z oEL T49.vm T75.heap vb_64 := Safe.keep K75 sf0 CR66.1 sf72
    have sf85 : Safe Z oEL T49.vm T75.heap xr_75 := Safe.keep K75 sf0 CR66.1 sf76
    have sf86 : Safe Z oEL T49.vm T75.heap tt_75 := Safe.keep K75 sf0 CR66.1 sf77
    obtain ⟨fs, hr, hrun, hended, hEnd⟩ := X75.leaveW hS49 (Nat.le_trans hk49 (Nat.le_trans K64.1 K75.1)) (v := some (.ref xr_75)) (fun h => by rw [Bd.returns] at h; cases h)
    refine ⟨_, _, pre28 _ ?_, hrun, hended, _, _, rfl, ?_, (by rw [hh]; show CHr Z oEL s.vm h0 T75.vm T75.heap; exact CR78.trans (CHv.at X75 hZ49 (own_EW hw) CR78.1)), hEnd.1, hEnd.2.1, hEnd.2.2.1, hEnd.2.2.2.mono (by decide) (by decide)⟩
    · refine st41.trans ?_
      show oS p e below T41 (mkF m 30 #[vR xs] [(.ref b2)]) _
      refine st49 _ ?_
      show oS p e below T49 (mkF m 32 #[vR xs] [(.ref b49), (.ref b2)]) _
      refine st64.trans ?_
      show oS p e below T64 (mkF m 35 #[vR xs] [(.ref b2)]) _
      refine st75.trans ?_
      show oS p e below T75 (mkF m 38 #[vR xs] [(.ref xr_75)]) _
      jvm_step X75.here [X75.here.top, hx, (oh hby D56 17 rfl), X75.method', Bd.returns, Value.isRef, FieldType.isReference]
      first | (intro acts; rw [hr _ acts rfl rfl rfl]) | rw [hr _ _ rfl rfl rfl]
      exact Steps.refl _
    · show Q_quoL Z xs t1 k1 cd nn vs cs G fm h0 n0 _ T75.heap _
      exact ⟨xr_75, tt_75, kt_75, (0 : Int32), (43 : Int32), (own_bs ((cs.take 40) ++ own_dots)), rfl, N75, ((((((((Keep.refl h0 ([] : List Addr)).ext E2).trans K8 (allS (Or.inr (Nat.le_trans (Nat.le_refl _) (Nat.le_of_eq g2.symm))) all0)).trans K20 all0).trans K41 (allS (Or.inr (Nat.le_trans (Nat.le_refl _) (Nat.le_of_eq g2.symm))) all0)).ext E49).trans K64 (allS (Or.inr (Nat.le_trans (Nat.le_refl _) (Nat.le_of_eq g2.symm))) all0)).trans K75 all0), (Nat.le_trans (Nat.le_trans (Nat.le_trans (Nat.le_trans (Nat.le_trans (Nat.le_trans E2.1 K8.1) K20.1) K41.1) E49.1) K64.1) f75_0), f75_2, f75_3, f75_4, f75_5, (Or.inl ⟨rfl, by rw [hr43]; rfl, rfl, fun c hc => (List.mem_append.mp hc).elim (hq4 c) (fun q => (own_dotsW c q).2)⟩)⟩
  · subst hq1
    subst hq2
    subst hq3
    have c87 := ((A2.keep K8).keep K20)
    have c88 := (c14.keep K20 all0)
    have c89 := (f8_0.keep K20 nin0)
    have c90 := (f8_1.keep K20 nin0)
    have c91 := (f8_2.keep K20 nin0)
    have c92 := (f8_3.keep K20 nin0)
    have c93 := (f8_5.keep K20 nin0)
    have ne94 : b2 ≠ vb_8 := Nat.ne_of_lt (Nat.lt_of_lt_of_le A2.lt f8_4)
    have ne95 : vb_8 ≠ tt_20 := Nat.ne_of_lt (Nat.lt_of_lt_of_le f8_5.lt f20_1)
    have ne96 : b2 ≠ xr_20 := Nat.ne_of_lt (Nat.lt_of_lt_of_le (Nat.lt_of_lt_of_le A2.lt K8.1) f20_0)
    have ne97 : vb_8 ≠ xr_20 := Nat.ne_of_lt (Nat.lt_of_lt_of_le f8_5.lt f20_0)
    have ne98 : b2 ≠ tt_20 := Nat.ne_of_lt (Nat.lt_of_lt_of_le (Nat.lt_of_lt_of_le A2.lt K8.1) f20_1)
    obtain ⟨cq99, kq99, q99a, q99b, q99c⟩ := isOf hZ0 rfl c87
    obtain ⟨_, _, ⟨T99, L99, k99, n99⟩, -, X99, ⟨Lc99, hQ99, l99, y99, z99⟩, st99⟩ := X20.virtualBack hx (y := y_53) (z := y_53) hown0 (mvT hZ0 (ow hw 117 rfl)) (mvT hZ0 (ow hw 118 rfl)) (notFace_of_selects (args := #[]) (mvT hZ0 (ow hw 120 rfl))) (mvT hZ0 (ow hw 120 rfl)) (mvT hZ0 (ow hw 119 rfl)) (by decide) (backOf (W := 0) (rm_ap1W l Z a0 hw [] b2 xr_20 tt_20 kt_20 vb_8 kb_8 (cs.take 40) G fm T20.heap n0 (Nat.le_trans Z0 (Nat.le_trans (Nat.le_trans E2.1 K8.1) K20.1)) q0 hCS q2 hFM q4 q5 q6 c88 f20_2 f20_3 f20_4 f20_5 c87 c89 c90 c91 c92 c93 ge7 (Ne.symm ne94) (Ne.symm ne95) (Ne.symm ne96) (Ne.symm ne97) (Ne.symm ne98) (by first | assumption | decide) ((Or.inr ⟨rfl, by rw [hpl]; rfl, rfl, hq4⟩)) (hbp)) hZ0 (ow hw 121 rfl) (ow hw 56 rfl) (by decide) (by decide)) q99a q99c (g := (mkF m 27 #[vR xs] [(.ref xr_20), (.ref b2)])) rfl (by rw [hml]; rfl) (Steps.refl _) (argsL := [(.ref xr_20)]) (rest := []) (lenOf pd_36 rfl) rfl (by show 2 * 0 + _ ≤ _; exact Nat.le_of_eq rfl) (oh hby D56 13 rfl) (fun _ _ => ⟨rfl, rfl, (by decide : 5 + 2 ≤ _), (by decide : 152 + 252 ≤ _)⟩)
    dsimp only [Pt.U, Pt.locs, Pt.cells, Pt.slots] at X99 l99 y99 z99 st99 hQ99
    subst l99 y99 z99
    obtain ⟨vb_99, kb_99, rfl, Nq99, K99, f99_0, f99_1, f99_2, f99_3, f99_4, f99_5⟩ := hQ99
    have N99 := Fr.app N20 Nq99
    have sf100 : Safe Z oEL s.vm T20.heap vb_99 := Safe.new f99_4
    have CR101 : CHr Z oEL s.vm h0 s.vm T99.heap := CR23.trans (CHr.keep K99 (sfS sf24 sf0) CR23.1)
    have sf102 : Safe Z oEL s.vm T99.heap b2 := Safe.keep K99 (sfS sf24 sf0) CR23.1 sf24
    have sf103 : Safe Z oEL s.vm T99.heap vb_8 := Safe.keep K99 (sfS sf24 sf0) CR23.1 sf25
    have sf104 : Safe Z oEL s.vm T99.heap xr_20 := Safe.keep K99 (sfS sf24 sf0) CR23.1 sf26
    have sf105 : Safe Z oEL s.vm T99.heap tt_20 := Safe.keep K99 (sfS sf24 sf0) CR23.1 sf27
    have sf106 : Safe Z oEL s.vm T99.heap vb_99 := Safe.keep K99 (sfS sf24 sf0) CR23.1 sf100
    obtain ⟨b107, T107, h107, kk107, bb107, kb107, X107, e107, E107, hS107, hk107, hZ107, hown107, fE107, fC107, fV107, fA107, la107, lb107, ch107, li107, sx107, st107⟩ := ldcCH X99 hx hZ0 hown0 (ow hw 169 rfl) (own_hw_str hw) rfl hS0 (Nat.le_trans hk0 (Nat.le_trans (Nat.le_trans (Nat.le_trans E2.1 K8.1) K20.1) K99.1)) (own_EW hw) (by decide) CR101.1 (vs := [(.int 46), (.int 46), (.int 46)]) (z := (3 : Int32)) ⟨by decide, rfl⟩ (by decide) rfl (g := (mkF m 30 #[vR xs] [(.ref b2)])) rfl (oh hby D56 14 rfl) (n := 12) (by decide) (by decide) (by decide) (by decide)
    have CR108 : CHr Z oEL s.vm h0 T107.vm h107 := CR101.trans ch107
    have sf109 : Safe Z oEL T107.vm h107 b2 := ch107.safe (Nat.lt_of_lt_of_le c87.lt K99.1) sf102
    have sf110 : Safe Z oEL T107.vm h107 vb_8 := ch107.safe (Nat.lt_of_lt_of_le c93.lt K99.1) sf103
    have sf111 : Safe Z oEL T107.vm h107 xr_20 := ch107.safe (Nat.lt_of_lt_of_le f20_2.lt K99.1) sf104
    have sf112 : Safe Z oEL T107.vm h107 tt_20 := ch107.safe (Nat.lt_of_lt_of_le f20_5.lt K99.1) sf105
    have sf113 : Safe Z oEL T107.vm h107 vb_99 := ch107.safe f99_5.lt sf106
    have c114 := ((c87.keep K99).ext E107)
    have c115 := ((c88.keep K99 (allS ge7 all0)).ext E107)
    have c116 := (f99_0.ext E107)
    have c117 := (f99_1.ext E107)
    have c118 := (f99_2.ext E107)
    have c119 := (f99_3.ext E107)
    have c120 := (f99_5.ext E107)
    have ne121 : b2 ≠ vb_99 := Nat.ne_of_lt (Nat.lt_of_lt_of_le (Nat.lt_of_lt_of_le A2.lt (Nat.le_trans K8.1 K20.1)) f99_4)
    obtain ⟨cq122, kq122, q122a, q122b, q122c⟩ := isOf hZ107 e107 c114
    obtain ⟨_, _, ⟨T122, L122, k122, n122⟩, -, X122, ⟨Lc122, hQ122, l122, y122, z122⟩, st122⟩ := X107.virtualBack hx (y := y_53) (z := y_53) hown107 (mvT hZ107 (ow hw 117 rfl)) (mvT hZ107 (ow hw 118 rfl)) (notFace_of_selects (args := #[]) (mvT hZ107 (ow hw 120 rfl))) (mvT hZ107 (ow hw 120 rfl)) (mvT hZ107 (ow hw 119 rfl)) (by decide) (backOf (W := 0) (rm_ap2W l Z a0 hw [] b2 b107 bb107 kb107 vb_99 kb_99 (cs.take 40) G fm h107 n0 (Nat.le_trans Z0 (Nat.le_trans (Nat.le_trans (Nat.le_trans (Nat.le_trans E2.1 K8.1) K20.1) K99.1) E107.1)) q0 hCS q2 hFM q4 q5 q6 c115 fE107 fV107 fC107 fA107 c114 c116 c117 c118 c119 c120 ge7 (Ne.symm ne121) (Ne.symm (sx107 vb_99 sf113).2) (Ne.symm (sx107 b2 sf109).1) (Ne.symm (sx107 vb_99 sf113).1) (Ne.symm (sx107 b2 sf109).2) (by first | assumption | decide) (Or.inl ⟨rfl, rfl, rfl, fun c hc => (own_dotsW c hc).2⟩) (fun c hc => (own_dotsW c hc).1)) hZ107 (ow hw 121 rfl) (ow hw 56 rfl) (by decide) (by decide)) q122a q122c (g := (mkF m 32 #[vR xs] [(.ref b107), (.ref b2)])) rfl (by rw [hml]; rfl) (Steps.refl _) (argsL := [(.ref b107)]) (rest := []) (lenOf pd_36 rfl) rfl (by show 2 * 0 + _ ≤ _; exact Nat.le_of_eq rfl) (oh hby D56 15 rfl) (fun _ _ => ⟨rfl, e107, (by decide : 9 + 1 ≤ _), (by decide : 420 + 164 ≤ _)⟩)
    dsimp only [Pt.U, Pt.locs, Pt.cells, Pt.slots] at X122 l122 y122 z122 st122 hQ122
    subst l122 y122 z122
    obtain ⟨vb_122, kb_122, rfl, Nq122, K122, f122_0, f122_1, f122_2, f122_3, f122_4, f122_5⟩ := hQ122
    have N122 := Fr.app N99 Nq122
    have sf123 : Safe Z oEL T107.vm h107 vb_122 := Safe.new f122_4
    have CR124 : CHr Z oEL s.vm h0 T107.vm T122.heap := CR108.trans (CHr.keep K122 (sfS sf109 sf0) CR108.1)
    have sf125 : Safe Z oEL T107.vm T122.heap b2 := Safe.keep K122 (sfS sf109 sf0) CR108.1 sf109
    have sf126 : Safe Z oEL T107.vm T122.heap vb_8 := Safe.keep K122 (sfS sf109 sf0) CR108.1 sf110
    have sf127 : Safe Z oEL T107.vm T122.heap xr_20 := Safe.keep K122 (sfS sf109 sf0) CR108.1 sf111
    have sf128 : Safe Z oEL T107.vm T122.heap tt_20 := Safe.keep K122 (sfS sf109 sf0) CR108.1 sf112
    have sf129 : Safe Z oEL T107.vm T122.heap vb_99 := Safe.keep K122 (sfS sf109 sf0) CR108.1 sf113
    have sf130 : Safe Z oEL T107.vm T122.heap vb_122 := Safe.keep K122 (sfS sf109 sf0) CR108.1 sf123
    have c131 := (c114.keep K122)
    have c132 := (c115.keep K122 (allS ge7 all0))
    obtain ⟨cq133, kq133, q133a, q133b, q133c⟩ := isOf hZ107 rfl c131
    obtain ⟨_, _, ⟨T133, L133, k133, n133⟩, -, X133, ⟨Lc133, hQ133, l133, y133, z133⟩, st133⟩ := X122.virtualBack hx (y := y_56) (z := y_56) hown107 (mvT hZ107 (ow hw 170 rfl)) (mvT hZ107 (ow hw 171 rfl)) (notFace_of_selects (args := #[]) (mvT hZ107 (ow hw 173 rfl))) (mvT hZ107 (ow hw 173 rfl)) (mvT hZ107 (ow hw 172 rfl)) (by decide) (backOf (W := 0) (rm_toStrW l Z a0 hw [] b2 vb_122 kb_122 (cs.take 40) G T122.heap n0 (Nat.le_trans Z0 (Nat.le_trans (Nat.le_trans (Nat.le_trans (Nat.le_trans (Nat.le_trans E2.1 K8.1) K20.1) K99.1) E107.1) K122.1)) q0 hCS c132 c131 f122_0 f122_1 f122_2 f122_3 f122_5 (by first | assumption | decide)) hZ107 (ow hw 174 rfl) (ow hw 56 rfl) (by decide) (by decide)) q133a q133c (g := (mkF m 35 #[vR xs] [(.ref b2)])) rfl (by rw [hml]; rfl) (Steps.refl _) (argsL := []) (rest := []) (lenOf pd_37 rfl) rfl (by show 2 * 0 + _ ≤ _; exact Nat.le_of_eq rfl) (oh hby D56 16 rfl) (fun _ _ => ⟨rfl, rfl, (by decide : 10 + 2 ≤ _), (by decide : 584 + 92 ≤ _)⟩)
    dsimp only [Pt.U, Pt.locs, Pt.cells, Pt.slots] at X133 l133 y133 z133 st133 hQ133
    subst l133 y133 z133
    obtain ⟨xr_133, tt_133, kt_133, rfl, Nq133, K133, f133_0, f133_1, f133_2, f133_3, f133_4, f133_5⟩ := hQ133
    have N133 := Fr.app N122 Nq133
    have sf134 : Safe Z oEL T107.vm T122.heap xr_133 := Safe.new f133_0
    have sf135 : Safe Z oEL T107.vm T122.heap tt_133 := Safe.new f133_1
    have CR136 : CHr Z oEL s.vm h0 T107.vm T133.heap := CR124.trans (CHr.keep K133 sf0 CR124.1)
    have sf137 : Safe Z oEL T107.vm T133.heap b2 := Safe.keep K133 sf0 CR124.1 sf125
    have sf138 : Safe Z oEL T107.vm T133.heap vb_8 := Safe.keep K133 sf0 CR124.1 sf126
    have sf139 : Safe Z oEL T107.vm T133.heap xr_20 := Safe.keep K133 sf0 CR124.1 sf127
    have sf140 : Safe Z oEL T107.vm T133.heap tt_20 := Safe.keep K133 sf0 CR124.1 sf128
    have sf141 : Safe Z oEL T107.vm T133.heap vb_99 := Safe.keep K133 sf0 CR124.1 sf129
    have sf142 : Safe Z oEL T107.vm T133.heap vb_122 := Safe.keep K133 sf0 CR124.1 sf130
    have sf143 : Safe Z oEL T107.vm T133.heap xr_133 := Safe.keep K133 sf0 CR124.1 sf134
    have sf144 : Safe Z oEL T107.vm T133.heap tt_133 := Safe.keep K133 sf0 CR124.1 sf135
    obtain ⟨fs, hr, hrun, hended, hEnd⟩ := X133.leaveW hS107 (Nat.le_trans hk107 (Nat.le_trans K122.1 K133.1)) (v := some (.ref xr_133)) (fun h => by rw [Bd.returns] at h; cases h)
    refine ⟨_, _, pre28 _ ?_, hrun, hended, _, _, rfl, ?_, (by rw [hh]; show CHr Z oEL s.vm h0 T133.vm T133.heap; exact CR136.trans (CHv.at X133 hZ107 (own_EW hw) CR136.1)), hEnd.1, hEnd.2.1, hEnd.2.2.1, hEnd.2.2.2.mono (by decide) (by decide)⟩
    · refine st99.trans ?_
      show oS p e below T99 (mkF m 30 #[vR xs] [(.ref b2)]) _
      refine st107 _ ?_
      show oS p e below T107 (mkF m 32 #[vR xs] [(.ref b107), (.ref b2)]) _
      refine st122.trans ?_
      show oS p e below T122 (mkF m 35 #[vR xs] [(.ref b2)]) _
      refine st133.trans ?_
      show oS p e below T133 (mkF m 38 #[vR xs] [(.ref xr_133)]) _
      jvm_step X133.here [X133.here.top, hx, (oh hby D56 17 rfl), X133.method', Bd.returns, Value.isRef, FieldType.isReference]
      first | (intro acts; rw [hr _ acts rfl rfl rfl]) | rw [hr _ _ rfl rfl rfl]
      exact Steps.refl _
    · show Q_quoL Z xs t1 k1 cd nn vs cs G fm h0 n0 _ T133.heap _
      exact ⟨xr_133, tt_133, kt_133, (1 : Int32), (86 : Int32), (StrChars.Road.wideBytes ((cs.take 40) ++ own_dots)), rfl, N133, ((((((((Keep.refl h0 ([] : List Addr)).ext E2).trans K8 (allS (Or.inr (Nat.le_trans (Nat.le_refl _) (Nat.le_of_eq g2.symm))) all0)).trans K20 all0).trans K99 (allS (Or.inr (Nat.le_trans (Nat.le_refl _) (Nat.le_of_eq g2.symm))) all0)).ext E107).trans K122 (allS (Or.inr (Nat.le_trans (Nat.le_refl _) (Nat.le_of_eq g2.symm))) all0)).trans K133 all0), (Nat.le_trans (Nat.le_trans (Nat.le_trans (Nat.le_trans (Nat.le_trans (Nat.le_trans E2.1 K8.1) K20.1) K99.1) E107.1) K122.1) f133_0), f133_2, f133_3, f133_4, f133_5, (Or.inr ⟨rfl, by rw [hr43]; rfl, rfl, hq4.elim fun c q => ⟨c, List.mem_append.mpr (Or.inl q.1), q.2⟩⟩)⟩
def Q_eqS (Z : State) (xs : Addr) (h0 : Heap) (n0 : Nat) (v : Option Value) (h : Heap) (L : List Loc) : Prop := (v = some (.int 1)) ∧ (Fr n0 L) ∧ (h = h0)
set_option maxRecDepth 65536 in
set_option maxHeartbeats 40000000 in
theorem rm_eqS (l : Launch) (Z : State) (a0 : Array Value) (hw : HW Z a0) (ws : List Jvm.Cond) (xs : Addr) (h0 : Heap) (n0 : Nat) (Z0 : n0 ≤ h0.size) :
    mF l y_58 jdk_42_method_66_code 3 (some .boolean) ws (rmk 0 0 0 0) #[(.ref xs), (.ref xs)] Z h0 (Q_eqS Z xs h0 n0) := by
  refine MetFree.of_bodySF (plainFor_of_name pn_1) hisR ?_
  intro p e s m args below meth c s₁ Bd hml0 hP hK
  obtain ⟨rfl, hZ, hh⟩ := hP
  have hx := Bd.exec
  have hby := Bd.bytes
  have hml : c.maxLocals = 3 := hml0
  have hown : s.vm.findClass "java/lang/String" = some m.cls := findClass_of_methodNamed Bd.named
  have hnm := (name_of_methodNamed Bd.named Bd.method).1
  have X0 : Stand p l e (rmk 0 0 0 0) s m #[(.ref xs), (.ref xs)] below meth c s₁ [] 0 0 := Stand.of_body Bd
  have e0 : s₁.heap = h0 := by rw [← hh, Bd.state]; rfl
  have N0 := Fr.nil n0
  have pre0 : ∀ t, oS p e below s₁ (mkF m 0 #[vR xs, vR xs, .unset] []) t → oS p e below s₁ (entryFrame m #[(.ref xs), (.ref xs)] 3) t := fun t k => castTop (ef_24 m xs xs) k
  obtain ⟨fs, hr, hrun, hended, hW, hsame⟩ := X0.leave (v := some (.int 1)) (fun h => by rw [Bd.returns] at h; cases h)
  refine ⟨_, _, pre0 _ ?_, hrun, hended, _, _, rfl, ?_, ⟨_, rfl⟩, hW, hsame.mono (by decide) (by decide)⟩
  · refine XS.aloadN X0.here hx rfl (oh hby D57 0 rfl) rfl rfl ?_
    refine XS.aloadN X0.here hx rfl (oh hby D57 1 rfl) rfl rfl ?_
    show oS p e below s₁ (mkF m 2 #[vR xs, vR xs, .unset] [(.ref xs), (.ref xs)]) _
    refine Jvm.RoadKit.acmp (g := (mkF m 2 #[vR xs, vR xs, .unset] [(.ref xs), (.ref xs)])) X0 hx rfl rfl rfl (pc0 := 2) (pc' := 5) (same := true) rfl (oh hby D57 2 rfl) rfl (decide_eq_true rfl) (by decide) (by decide) ?_
    show oS p e below s₁ (mkF m 5 #[vR xs, vR xs, .unset] []) _
    refine XS.iconst X0.here hx rfl (oh hby D57 3 rfl) ?_
    show oS p e below s₁ (mkF m 6 #[vR xs, vR xs, .unset] [(.int 1)]) _
    exact retN X0 hx (t := .boolean) Bd.returns (by simp) (oh hby D57 4 rfl) hr
  · show Q_eqS Z xs h0 n0 _ s₁.heap _
    rw [e0]
    exact ⟨rfl, N0, rfl⟩
theorem pd_38 : parseMethodDescriptor "(I)C" = some ⟨[.int], some .char⟩ := by decide +kernel
set_option maxRecDepth 65536 in
set_option maxHeartbeats 40000000 in
theorem lp_tail2 {p : Program} {l : Launch} {e : Env} {R : Room} {s : State} {m : MethodId} {args : Array Value} {below : List Frame} {meth : Method} {c : Code} {cells slots : Nat} {Z : State} {a0 : Array Value} {n0 : Nat} (i0 : Int32) (i1 : Int32) (i2 : Int32) (i3 : Int32) (i4 : Int32) (i5 : Int32) (k6_ : Int32) (pa : Addr) (nI : Int32) (xs : Addr) (xr : Addr) (tA : Addr) (kA : ClassId) (nA : Int32) (vA : List Value) (cda : Int32) (tB : Addr) (kB : ClassId) (nB : Int32) (vB : List Value) (cdb : Int32) (cs : List Int32) (pp : Nat) (G : Int32) (fm : Value) (qq : Nat) (hx : p.tables.exec = Jvm.exec) (hZ : Z.Warmed39 s.vm) (hw : HW Z a0) (hby : c.code = code) (hml : c.maxLocals = 14) (hown : s.vm.findClass "com/example/holdfast/holdfast/InvalidInputExceptionQuotedPinLaw" = some m.cls) (hcl : cells ≤ R.cells) (hsl : slots ≤ R.slots) (hfr : 5 ≤ R.frames) (hlo : 67 ≤ R.locals) (hy0 : sC Z G) (hCS : ¬ (G = (0 : Int32))) (hy2 : sF Z fm) (hFM : fm.isRef = true) (hy4 : sA Z) (hy5 : sH Z) (hy6 : sL Z) (hcd1 : StrChars.Road.CodA cs cda nA vA) (hbd1 : ∀ c ∈ cs, ¬ c < 0 ∧ ¬ (65535 : Int32) < c) (hle1 : cs.length ≤ 4000) (hcd2 : StrChars.Road.CodA (cs.take 40 ++ own_dots) cdb nB vB) (hbd2 : ∀ c ∈ (cs.take 40 ++ own_dots), ¬ c < 0 ∧ ¬ (65535 : Int32) < c) (hle2 : (cs.take 40 ++ own_dots).length ≤ 4000) (hG40 : 40 < cs.length) (hb_qq : qq < 40) :
    ∀ (k : Nat) (T0 : State) (h0 : Heap) (locs : List Loc), Stand p l e R s m args below meth c T0 locs cells slots → T0.heap = h0 → Fr n0 locs → n0 ≤ h0.size → eS Z h0 xs → fV Z h0 xs (.ref tA) → fC Z h0 xs (.int cda) → Arv Z h0 tA kA .byte nA vA (.int 0) → eS Z h0 xr → fV Z h0 xr (.ref tB) → fC Z h0 xr (.int cdb) → Arv Z h0 tB kB .byte nB vB (.int 0) → Old Z n0 h0 → (k = 0) → ∃ (T' : State) (h' : Heap) (locs' : List Loc), Stand p l e R s m args below meth c T' locs' cells slots ∧ T'.heap = h' ∧ Fr n0 locs' ∧ Keep h0 h' ([] : List Addr) ∧ ∀ t, Steps p.tables e below (T'.setTop (mkF m 337 #[vI i0, vI i1, vI i2, vI i3, vI i4, vI i5, vI k6_, vR pa, vI nI, vR xs, vR xr, vI (Int32.ofNat qq), vI (Int32.ofNat pp), vI 1] [(.int 1)])) t → oS p e below T0 (mkF m 278 #[vI i0, vI i1, vI i2, vI i3, vI i4, vI i5, vI k6_, vR pa, vI nI, vR xs, vR xr, vI (Int32.ofNat qq), vI (Int32.ofNat pp), vI 1] []) t := by
  intro k
  induction k with
  | zero =>
    intro  T0 h0 locs X0 e0 N0 Z0 q0 q1 q2 q3 q4 q5 q6 q7 q8 hk
    have pre0 : ∀ t, oS p e below T0 (mkF m 278 #[vI i0, vI i1, vI i2, vI i3, vI i4, vI i5, vI k6_, vR pa, vI nI, vR xs, vR xr, vI (Int32.ofNat qq), vI (Int32.ofNat pp), vI 1] []) t → oS p e below T0 (mkF m 278 #[vI i0, vI i1, vI i2, vI i3, vI i4, vI i5, vI k6_, vR pa, vI nI, vR xs, vR xr, vI (Int32.ofNat qq), vI (Int32.ofNat pp), vI 1] []) t := fun _ kk => kk
    have hr43 : (cs.take 40 ++ own_dots).length = 43 := own_rs43 (own_take40 hG40)
    obtain ⟨cq1, kq1, q1a, q1b, q1c⟩ := isOf hZ e0 q4
    obtain ⟨_, _, ⟨T1, L1, k1, n1⟩, -, X1, ⟨Lc1, hQ1, l1, y1, z1⟩, st1⟩ := X0.virtualBack hx (y := y_24) (z := y_24) hown (mvT hZ (ow hw 202 rfl)) (mvT hZ (ow hw 203 rfl)) (notFace_of_selects (args := #[]) (mvT hZ (ow hw 205 rfl))) (mvT hZ (ow hw 205 rfl)) (mvT hZ (ow hw 204 rfl)) (by decide) (backOf (W := 0) (rm_chA l Z a0 hw [] xr 0 tB kB cdb nB vB (cs.take 40 ++ own_dots) G fm h0 n0 Z0 hy0 hCS hy2 hFM hy4 hy5 hy6 q8 q4 q5 q6 q7 (hcd2) (hbd2) (hle2) (by omega)) hZ (ow hw 206 rfl) (ow hw 4 rfl) (Nat.le_trans (by decide) hfr) (Nat.le_trans (by decide) hlo)) q1a q1c (g := (mkF m 281 #[vI i0, vI i1, vI i2, vI i3, vI i4, vI i5, vI k6_, vR pa, vI nI, vR xs, vR xr, vI (Int32.ofNat qq), vI (Int32.ofNat pp), vI 1] [(.int 0), (.ref xr)])) rfl (by rw [hml]; rfl) (Steps.refl _) (argsL := [(.int 0)]) (rest := []) (lenOf pd_38 rfl) rfl (by show 2 * 0 + _ ≤ _; exact Nat.le_of_eq rfl) (hb hby at_281) (fun _ _ => ⟨rfl, e0, hcl, hsl⟩)
    dsimp only [Pt.U, Pt.locs, Pt.cells, Pt.slots] at X1 l1 y1 z1 st1 hQ1
    subst l1 y1 z1
    obtain ⟨rfl, Nq1, e1⟩ := hQ1
    have N1 := Fr.app N0 Nq1
    obtain ⟨cq2, kq2, q2a, q2b, q2c⟩ := isOf hZ e1 q0
    obtain ⟨_, _, ⟨T2, L2, k2, n2⟩, -, X2, ⟨Lc2, hQ2, l2, y2, z2⟩, st2⟩ := X1.virtualBack hx (y := y_24) (z := y_24) hown (mvT hZ (ow hw 202 rfl)) (mvT hZ (ow hw 203 rfl)) (notFace_of_selects (args := #[]) (mvT hZ (ow hw 205 rfl))) (mvT hZ (ow hw 205 rfl)) (mvT hZ (ow hw 204 rfl)) (by decide) (backOf (W := 1) (rm_chA l Z a0 hw [] xs 0 tA kA cda nA vA cs G fm h0 n0 Z0 hy0 hCS hy2 hFM hy4 hy5 hy6 q8 q0 q1 q2 q3 (hcd1) (hbd1) (hle1) (by omega)) hZ (ow hw 206 rfl) (ow hw 4 rfl) (Nat.le_trans (by decide) hfr) (Nat.le_trans (by decide) hlo)) q2a q2c (g := (mkF m 287 #[vI i0, vI i1, vI i2, vI i3, vI i4, vI i5, vI k6_, vR pa, vI nI, vR xs, vR xr, vI (Int32.ofNat qq), vI (Int32.ofNat pp), vI 1] [(.int 0), (.ref xs), (.int ((cs.take 40 ++ own_dots).getD 0 0))])) rfl (by rw [hml]; rfl) (Steps.refl _) (argsL := [(.int 0)]) (rest := [(.int ((cs.take 40 ++ own_dots).getD 0 0))]) (lenOf pd_38 rfl) rfl (by show 2 * 0 + _ ≤ _; exact Nat.le_of_eq rfl) (hb hby at_287) (fun _ _ => ⟨rfl, e1, hcl, hsl⟩)
    dsimp only [Pt.U, Pt.locs, Pt.cells, Pt.slots] at X2 l2 y2 z2 st2 hQ2
    subst l2 y2 z2
    obtain ⟨rfl, Nq2, e2⟩ := hQ2
    have N2 := Fr.app N1 Nq2
    obtain ⟨cq3, kq3, q3a, q3b, q3c⟩ := isOf hZ e2 q4
    obtain ⟨_, _, ⟨T3, L3, k3, n3⟩, -, X3, ⟨Lc3, hQ3, l3, y3, z3⟩, st3⟩ := X2.virtualBack hx (y := y_24) (z := y_24) hown (mvT hZ (ow hw 202 rfl)) (mvT hZ (ow hw 203 rfl)) (notFace_of_selects (args := #[]) (mvT hZ (ow hw 205 rfl))) (mvT hZ (ow hw 205 rfl)) (mvT hZ (ow hw 204 rfl)) (by decide) (backOf (W := 0) (rm_chA l Z a0 hw [] xr 39 tB kB cdb nB vB (cs.take 40 ++ own_dots) G fm h0 n0 Z0 hy0 hCS hy2 hFM hy4 hy5 hy6 q8 q4 q5 q6 q7 (hcd2) (hbd2) (hle2) (by omega)) hZ (ow hw 206 rfl) (ow hw 4 rfl) (Nat.le_trans (by decide) hfr) (Nat.le_trans (by decide) hlo)) q3a q3c (g := (mkF m 297 #[vI i0, vI i1, vI i2, vI i3, vI i4, vI i5, vI k6_, vR pa, vI nI, vR xs, vR xr, vI (Int32.ofNat qq), vI (Int32.ofNat pp), vI 1] [(.int 39), (.ref xr)])) rfl (by rw [hml]; rfl) (Steps.refl _) (argsL := [(.int 39)]) (rest := []) (lenOf pd_38 rfl) rfl (by show 2 * 0 + _ ≤ _; exact Nat.le_of_eq rfl) (hb hby at_297) (fun _ _ => ⟨rfl, e2, hcl, hsl⟩)
    dsimp only [Pt.U, Pt.locs, Pt.cells, Pt.slots] at X3 l3 y3 z3 st3 hQ3
    subst l3 y3 z3
    obtain ⟨rfl, Nq3, e3⟩ := hQ3
    have N3 := Fr.app N2 Nq3
    obtain ⟨cq4, kq4, q4a, q4b, q4c⟩ := isOf hZ e3 q0
    obtain ⟨_, _, ⟨T4, L4, k4, n4⟩, -, X4, ⟨Lc4, hQ4, l4, y4, z4⟩, st4⟩ := X3.virtualBack hx (y := y_24) (z := y_24) hown (mvT hZ (ow hw 202 rfl)) (mvT hZ (ow hw 203 rfl)) (notFace_of_selects (args := #[]) (mvT hZ (ow hw 205 rfl))) (mvT hZ (ow hw 205 rfl)) (mvT hZ (ow hw 204 rfl)) (by decide) (backOf (W := 1) (rm_chA l Z a0 hw [] xs 39 tA kA cda nA vA cs G fm h0 n0 Z0 hy0 hCS hy2 hFM hy4 hy5 hy6 q8 q0 q1 q2 q3 (hcd1) (hbd1) (hle1) (by omega)) hZ (ow hw 206 rfl) (ow hw 4 rfl) (Nat.le_trans (by decide) hfr) (Nat.le_trans (by decide) hlo)) q4a q4c (g := (mkF m 304 #[vI i0, vI i1, vI i2, vI i3, vI i4, vI i5, vI k6_, vR pa, vI nI, vR xs, vR xr, vI (Int32.ofNat qq), vI (Int32.ofNat pp), vI 1] [(.int 39), (.ref xs), (.int ((cs.take 40 ++ own_dots).getD 39 0))])) rfl (by rw [hml]; rfl) (Steps.refl _) (argsL := [(.int 39)]) (rest := [(.int ((cs.take 40 ++ own_dots).getD 39 0))]) (lenOf pd_38 rfl) rfl (by show 2 * 0 + _ ≤ _; exact Nat.le_of_eq rfl) (hb hby at_304) (fun _ _ => ⟨rfl, e3, hcl, hsl⟩)
    dsimp only [Pt.U, Pt.locs, Pt.cells, Pt.slots] at X4 l4 y4 z4 st4 hQ4
    subst l4 y4 z4
    obtain ⟨rfl, Nq4, e4⟩ := hQ4
    have N4 := Fr.app N3 Nq4
    obtain ⟨cq5, kq5, q5a, q5b, q5c⟩ := isOf hZ e4 q4
    obtain ⟨_, _, ⟨T5, L5, k5, n5⟩, -, X5, ⟨Lc5, hQ5, l5, y5, z5⟩, st5⟩ := X4.virtualBack hx (y := y_24) (z := y_24) hown (mvT hZ (ow hw 202 rfl)) (mvT hZ (ow hw 203 rfl)) (notFace_of_selects (args := #[]) (mvT hZ (ow hw 205 rfl))) (mvT hZ (ow hw 205 rfl)) (mvT hZ (ow hw 204 rfl)) (by decide) (backOf (W := 0) (rm_chA l Z a0 hw [] xr qq tB kB cdb nB vB (cs.take 40 ++ own_dots) G fm h0 n0 Z0 hy0 hCS hy2 hFM hy4 hy5 hy6 q8 q4 q5 q6 q7 (hcd2) (hbd2) (hle2) (by omega)) hZ (ow hw 206 rfl) (ow hw 4 rfl) (Nat.le_trans (by decide) hfr) (Nat.le_trans (by decide) hlo)) q5a q5c (g := (mkF m 314 #[vI i0, vI i1, vI i2, vI i3, vI i4, vI i5, vI k6_, vR pa, vI nI, vR xs, vR xr, vI (Int32.ofNat qq), vI (Int32.ofNat pp), vI 1] [(.int (Int32.ofNat qq)), (.ref xr)])) rfl (by rw [hml]; rfl) (Steps.refl _) (argsL := [(.int (Int32.ofNat qq))]) (rest := []) (lenOf pd_38 rfl) rfl (by show 2 * 0 + _ ≤ _; exact Nat.le_of_eq rfl) (hb hby at_314) (fun _ _ => ⟨rfl, e4, hcl, hsl⟩)
    dsimp only [Pt.U, Pt.locs, Pt.cells, Pt.slots] at X5 l5 y5 z5 st5 hQ5
    subst l5 y5 z5
    obtain ⟨rfl, Nq5, e5⟩ := hQ5
    have N5 := Fr.app N4 Nq5
    obtain ⟨cq6, kq6, q6a, q6b, q6c⟩ := isOf hZ e5 q0
    obtain ⟨_, _, ⟨T6, L6, k6, n6⟩, -, X6, ⟨Lc6, hQ6, l6, y6, z6⟩, st6⟩ := X5.virtualBack hx (y := y_24) (z := y_24) hown (mvT hZ (ow hw 202 rfl)) (mvT hZ (ow hw 203 rfl)) (notFace_of_selects (args := #[]) (mvT hZ (ow hw 205 rfl))) (mvT hZ (ow hw 205 rfl)) (mvT hZ (ow hw 204 rfl)) (by decide) (backOf (W := 1) (rm_chA l Z a0 hw [] xs qq tA kA cda nA vA cs G fm h0 n0 Z0 hy0 hCS hy2 hFM hy4 hy5 hy6 q8 q0 q1 q2 q3 (hcd1) (hbd1) (hle1) (by omega)) hZ (ow hw 206 rfl) (ow hw 4 rfl) (Nat.le_trans (by decide) hfr) (Nat.le_trans (by decide) hlo)) q6a q6c (g := (mkF m 321 #[vI i0, vI i1, vI i2, vI i3, vI i4, vI i5, vI k6_, vR pa, vI nI, vR xs, vR xr, vI (Int32.ofNat qq), vI (Int32.ofNat pp), vI 1] [(.int (Int32.ofNat qq)), (.ref xs), (.int ((cs.take 40 ++ own_dots).getD qq 0))])) rfl (by rw [hml]; rfl) (Steps.refl _) (argsL := [(.int (Int32.ofNat qq))]) (rest := [(.int ((cs.take 40 ++ own_dots).getD qq 0))]) (lenOf pd_38 rfl) rfl (by show 2 * 0 + _ ≤ _; exact Nat.le_of_eq rfl) (hb hby at_321) (fun _ _ => ⟨rfl, e5, hcl, hsl⟩)
    dsimp only [Pt.U, Pt.locs, Pt.cells, Pt.slots] at X6 l6 y6 z6 st6 hQ6
    subst l6 y6 z6
    obtain ⟨rfl, Nq6, e6⟩ := hQ6
    have N6 := Fr.app N5 Nq6
    have pre7 : ∀ t, oS p e below T6 (mkF m 337 #[vI i0, vI i1, vI i2, vI i3, vI i4, vI i5, vI k6_, vR pa, vI nI, vR xs, vR xr, vI (Int32.ofNat qq), vI (Int32.ofNat pp), vI 1] [(.int 1)]) t → oS p e below T0 (mkF m 278 #[vI i0, vI i1, vI i2, vI i3, vI i4, vI i5, vI k6_, vR pa, vI nI, vR xs, vR xr, vI (Int32.ofNat qq), vI (Int32.ofNat pp), vI 1] []) t := fun t kk => pre0 t (by
      refine XS.aload X0.here hx rfl (hb hby at_278) rfl rfl ?_
      refine XS.iconst X0.here hx rfl (hb hby at_280) ?_
      refine st1.trans ?_
      show oS p e below T1 (mkF m 284 #[vI i0, vI i1, vI i2, vI i3, vI i4, vI i5, vI k6_, vR pa, vI nI, vR xs, vR xr, vI (Int32.ofNat qq), vI (Int32.ofNat pp), vI 1] [(.int ((cs.take 40 ++ own_dots).getD 0 0))]) _
      refine XS.aload X1.here hx rfl (hb hby at_284) rfl rfl ?_
      refine XS.iconst X1.here hx rfl (hb hby at_286) ?_
      refine st2.trans ?_
      show oS p e below T2 (mkF m 290 #[vI i0, vI i1, vI i2, vI i3, vI i4, vI i5, vI k6_, vR pa, vI nI, vR xs, vR xr, vI (Int32.ofNat qq), vI (Int32.ofNat pp), vI 1] [(.int (cs.getD 0 0)), (.int ((cs.take 40 ++ own_dots).getD 0 0))]) _
      refine XS.icmpNo X2.here hx rfl (hb hby at_290) rfl (teq ((own_rsget (k := 0) (by decide) (by omega)) : ((cs.take 40 ++ own_dots).getD 0 0) = (cs.getD 0 0))).2 ?_
      refine XS.aload X2.here hx rfl (hb hby at_293) rfl rfl ?_
      refine XS.bipush X2.here hx rfl (hb hby at_295) ?_
      refine st3.trans ?_
      show oS p e below T3 (mkF m 300 #[vI i0, vI i1, vI i2, vI i3, vI i4, vI i5, vI k6_, vR pa, vI nI, vR xs, vR xr, vI (Int32.ofNat qq), vI (Int32.ofNat pp), vI 1] [(.int ((cs.take 40 ++ own_dots).getD 39 0))]) _
      refine XS.aload X3.here hx rfl (hb hby at_300) rfl rfl ?_
      refine XS.bipush X3.here hx rfl (hb hby at_302) ?_
      refine st4.trans ?_
      show oS p e below T4 (mkF m 307 #[vI i0, vI i1, vI i2, vI i3, vI i4, vI i5, vI k6_, vR pa, vI nI, vR xs, vR xr, vI (Int32.ofNat qq), vI (Int32.ofNat pp), vI 1] [(.int (cs.getD 39 0)), (.int ((cs.take 40 ++ own_dots).getD 39 0))]) _
      refine XS.icmpNo X4.here hx rfl (hb hby at_307) rfl (teq ((own_rsget (k := 39) (by decide) (by omega)) : ((cs.take 40 ++ own_dots).getD 39 0) = (cs.getD 39 0))).2 ?_
      refine XS.aload X4.here hx rfl (hb hby at_310) rfl rfl ?_
      refine XS.iload X4.here hx rfl (hb hby at_312) rfl ?_
      refine st5.trans ?_
      show oS p e below T5 (mkF m 317 #[vI i0, vI i1, vI i2, vI i3, vI i4, vI i5, vI k6_, vR pa, vI nI, vR xs, vR xr, vI (Int32.ofNat qq), vI (Int32.ofNat pp), vI 1] [(.int ((cs.take 40 ++ own_dots).getD qq 0))]) _
      refine XS.aload X5.here hx rfl (hb hby at_317) rfl rfl ?_
      refine XS.iload X5.here hx rfl (hb hby at_319) rfl ?_
      refine st6.trans ?_
      show oS p e below T6 (mkF m 324 #[vI i0, vI i1, vI i2, vI i3, vI i4, vI i5, vI k6_, vR pa, vI nI, vR xs, vR xr, vI (Int32.ofNat qq), vI (Int32.ofNat pp), vI 1] [(.int (cs.getD qq 0)), (.int ((cs.take 40 ++ own_dots).getD qq 0))]) _
      refine XS.icmpNo X6.here hx rfl (hb hby at_324) rfl (teq ((own_rsget hb_qq (by omega)) : ((cs.take 40 ++ own_dots).getD qq 0) = (cs.getD qq 0))).2 ?_
      refine XS.iload X6.here hx rfl (hb hby at_327) rfl ?_
      refine XS.ifNo X6.here hx rfl (hb hby at_329) rfl ((if0 _ _).trans (feq ((by decide) : ¬ ((1 : Int32) = (0 : Int32)))).1) ?_
      refine XS.iconst X6.here hx rfl (hb hby at_332) ?_
      refine XS.goto X6.here hx rfl (pc0 := 333) (pc' := 337) rfl (hb hby at_333) (by decide) (by decide) ?_
      show oS p e below T6 (mkF m 337 #[vI i0, vI i1, vI i2, vI i3, vI i4, vI i5, vI k6_, vR pa, vI nI, vR xs, vR xr, vI (Int32.ofNat qq), vI (Int32.ofNat pp), vI 1] [(.int 1)]) _
      exact kk)
    exact ⟨T6, h0, _, X6, e6, N6, (Keep.refl h0 ([] : List Addr)), pre7⟩
  | succ k ih =>
    intro  T0 h0 locs X0 e0 N0 Z0 q0 q1 q2 q3 q4 q5 q6 q7 q8 hk
    have pre0 : ∀ t, oS p e below T0 (mkF m 278 #[vI i0, vI i1, vI i2, vI i3, vI i4, vI i5, vI k6_, vR pa, vI nI, vR xs, vR xr, vI (Int32.ofNat qq), vI (Int32.ofNat pp), vI 1] []) t → oS p e below T0 (mkF m 278 #[vI i0, vI i1, vI i2, vI i3, vI i4, vI i5, vI k6_, vR pa, vI nI, vR xs, vR xr, vI (Int32.ofNat qq), vI (Int32.ofNat pp), vI 1] []) t := fun _ kk => kk
    exact absurd hk (by omega)
set_option maxRecDepth 65536 in
set_option maxHeartbeats 40000000 in
theorem lp_tail {p : Program} {l : Launch} {e : Env} {R : Room} {s : State} {m : MethodId} {args : Array Value} {below : List Frame} {meth : Method} {c : Code} {cells slots : Nat} {Z : State} {a0 : Array Value} {n0 : Nat} (i0 : Int32) (i1 : Int32) (i2 : Int32) (i3 : Int32) (i4 : Int32) (i5 : Int32) (k6_ : Int32) (pa : Addr) (nI : Int32) (xs : Addr) (xr : Addr) (tA : Addr) (kA : ClassId) (nA : Int32) (vA : List Value) (cda : Int32) (tB : Addr) (kB : ClassId) (nB : Int32) (vB : List Value) (cdb : Int32) (cs : List Int32) (pp : Nat) (G : Int32) (fm : Value) (hx : p.tables.exec = Jvm.exec) (hZ : Z.Warmed39 s.vm) (hw : HW Z a0) (hby : c.code = code) (hml : c.maxLocals = 14) (hown : s.vm.findClass "com/example/holdfast/holdfast/InvalidInputExceptionQuotedPinLaw" = some m.cls) (hcl : cells ≤ R.cells) (hsl : slots ≤ R.slots) (hfr : 5 ≤ R.frames) (hlo : 67 ≤ R.locals) (hy0 : sC Z G) (hCS : ¬ (G = (0 : Int32))) (hy2 : sF Z fm) (hFM : fm.isRef = true) (hy4 : sA Z) (hy5 : sH Z) (hy6 : sL Z) (hcd1 : StrChars.Road.CodA cs cda nA vA) (hbd1 : ∀ c ∈ cs, ¬ c < 0 ∧ ¬ (65535 : Int32) < c) (hle1 : cs.length ≤ 4000) (hcd2 : StrChars.Road.CodA (cs.take 40 ++ own_dots) cdb nB vB) (hbd2 : ∀ c ∈ (cs.take 40 ++ own_dots), ¬ c < 0 ∧ ¬ (65535 : Int32) < c) (hle2 : (cs.take 40 ++ own_dots).length ≤ 4000) (hG40 : 40 < cs.length) (hG44 : cs.length ≤ 44) (hnI : nI = Int32.ofNat cs.length) (h_pp : ((i3 &&& (2147483647 : Int32)) % nI) = Int32.ofNat pp) (hb_pp : pp < cs.length) :
    ∀ (k : Nat) (T0 : State) (h0 : Heap) (locs : List Loc), Stand p l e R s m args below meth c T0 locs cells slots → T0.heap = h0 → Fr n0 locs → n0 ≤ h0.size → eS Z h0 xs → fV Z h0 xs (.ref tA) → fC Z h0 xs (.int cda) → Arv Z h0 tA kA .byte nA vA (.int 0) → eS Z h0 xr → fV Z h0 xr (.ref tB) → fC Z h0 xr (.int cdb) → Arv Z h0 tB kB .byte nB vB (.int 0) → Old Z n0 h0 → (k = 0) → ∃ qq : Nat, ∃ (T' : State) (h' : Heap) (locs' : List Loc), Stand p l e R s m args below meth c T' locs' cells slots ∧ T'.heap = h' ∧ Fr n0 locs' ∧ Keep h0 h' ([] : List Addr) ∧ ∀ t, Steps p.tables e below (T'.setTop (mkF m 337 #[vI i0, vI i1, vI i2, vI i3, vI i4, vI i5, vI k6_, vR pa, vI nI, vR xs, vR xr, vI (Int32.ofNat qq), vI (Int32.ofNat pp), vI 1] [(.int 1)])) t → oS p e below T0 (mkF m 178 #[vI i0, vI i1, vI i2, vI i3, vI i4, vI i5, vI k6_, vR pa, vI nI, vR xs, vR xr, .unset, .unset, .unset] []) t := by
  intro k
  induction k with
  | zero =>
    intro  T0 h0 locs X0 e0 N0 Z0 q0 q1 q2 q3 q4 q5 q6 q7 q8 hk
    have pre0 : ∀ t, oS p e below T0 (mkF m 178 #[vI i0, vI i1, vI i2, vI i3, vI i4, vI i5, vI k6_, vR pa, vI nI, vR xs, vR xr, .unset, .unset, .unset] []) t → oS p e below T0 (mkF m 178 #[vI i0, vI i1, vI i2, vI i3, vI i4, vI i5, vI k6_, vR pa, vI nI, vR xs, vR xr, .unset, .unset, .unset] []) t := fun _ kk => kk
    have hpl : (cs.take 40).length = 40 := own_take40 hG40
    have hr43 : (cs.take 40 ++ own_dots).length = 43 := own_rs43 hpl
    have hnz : nI ≠ 0 := by rw [hnI]; exact fun q => absurd (own_oinj (n := 0) (by omega) (by omega) q) (by omega)
    obtain ⟨cq1, kq1, q1a, q1b, q1c⟩ := isOf hZ e0 q4
    obtain ⟨_, _, ⟨T1, L1, k1, n1⟩, -, X1, ⟨Lc1, hQ1, l1, y1, z1⟩, st1⟩ := X0.virtualBack hx (y := y_40) (z := y_40) hown (mvT hZ (ow hw 201 rfl)) (mvT hZ (ow hw 28 rfl)) (notFace_of_selects (args := #[]) (mvT hZ (ow hw 30 rfl))) (mvT hZ (ow hw 30 rfl)) (mvT hZ (ow hw 29 rfl)) (by decide) (StrChars.Road.lenW (W := 0) hZ (own_hw_lenW hw) (kI := 4) (ow hw 3 rfl) q4 q5 q6 q7 hcd2 hbd2 (hy0.ext q8.2) hCS hle2 (Nat.le_trans (by decide) hfr) (Nat.le_trans (by decide) hlo)) q1a q1c (g := (mkF m 180 #[vI i0, vI i1, vI i2, vI i3, vI i4, vI i5, vI k6_, vR pa, vI nI, vR xs, vR xr, .unset, .unset, .unset] [(.ref xr)])) rfl (by rw [hml]; rfl) (Steps.refl _) (argsL := []) (rest := []) (lenOf pd_8 rfl) rfl (by show 2 * 0 + _ ≤ _; exact Nat.le_of_eq rfl) (hb hby at_180) (fun _ _ => ⟨rfl, e0, hcl, hsl⟩)
    dsimp only [Pt.U, Pt.locs, Pt.cells, Pt.slots] at X1 l1 y1 z1 st1 hQ1
    subst l1 y1 z1
    obtain ⟨rfl, rfl, e1⟩ := hQ1
    have N1 := Fr.app N0 (Fr.nil n0)
    obtain ⟨cq2, kq2, q2a, q2b, q2c⟩ := isOf hZ e1 q4
    obtain ⟨_, _, ⟨T2, L2, k2, n2⟩, -, X2, ⟨Lc2, hQ2, l2, y2, z2⟩, st2⟩ := X1.virtualBack hx (y := y_24) (z := y_24) hown (mvT hZ (ow hw 202 rfl)) (mvT hZ (ow hw 203 rfl)) (notFace_of_selects (args := #[]) (mvT hZ (ow hw 205 rfl))) (mvT hZ (ow hw 205 rfl)) (mvT hZ (ow hw 204 rfl)) (by decide) (backOf (W := 0) (rm_chA l Z a0 hw [] xr 40 tB kB cdb nB vB (cs.take 40 ++ own_dots) G fm h0 n0 Z0 hy0 hCS hy2 hFM hy4 hy5 hy6 q8 q4 q5 q6 q7 (hcd2) (hbd2) (hle2) (by omega)) hZ (ow hw 206 rfl) (ow hw 4 rfl) (Nat.le_trans (by decide) hfr) (Nat.le_trans (by decide) hlo)) q2a q2c (g := (mkF m 194 #[vI i0, vI i1, vI i2, vI i3, vI i4, vI i5, vI k6_, vR pa, vI nI, vR xs, vR xr, .unset, .unset, .unset] [(.int 40), (.ref xr)])) rfl (by rw [hml]; rfl) (Steps.refl _) (argsL := [(.int 40)]) (rest := []) (lenOf pd_38 rfl) rfl (by show 2 * 0 + _ ≤ _; exact Nat.le_of_eq rfl) (hb hby at_194) (fun _ _ => ⟨rfl, e1, hcl, hsl⟩)
    dsimp only [Pt.U, Pt.locs, Pt.cells, Pt.slots] at X2 l2 y2 z2 st2 hQ2
    subst l2 y2 z2
    obtain ⟨rfl, Nq2, e2⟩ := hQ2
    have N2 := Fr.app N1 Nq2
    obtain ⟨cq3, kq3, q3a, q3b, q3c⟩ := isOf hZ e2 q4
    obtain ⟨_, _, ⟨T3, L3, k3, n3⟩, -, X3, ⟨Lc3, hQ3, l3, y3, z3⟩, st3⟩ := X2.virtualBack hx (y := y_24) (z := y_24) hown (mvT hZ (ow hw 202 rfl)) (mvT hZ (ow hw 203 rfl)) (notFace_of_selects (args := #[]) (mvT hZ (ow hw 205 rfl))) (mvT hZ (ow hw 205 rfl)) (mvT hZ (ow hw 204 rfl)) (by decide) (backOf (W := 0) (rm_chA l Z a0 hw [] xr 41 tB kB cdb nB vB (cs.take 40 ++ own_dots) G fm h0 n0 Z0 hy0 hCS hy2 hFM hy4 hy5 hy6 q8 q4 q5 q6 q7 (hcd2) (hbd2) (hle2) (by omega)) hZ (ow hw 206 rfl) (ow hw 4 rfl) (Nat.le_trans (by decide) hfr) (Nat.le_trans (by decide) hlo)) q3a q3c (g := (mkF m 206 #[vI i0, vI i1, vI i2, vI i3, vI i4, vI i5, vI k6_, vR pa, vI nI, vR xs, vR xr, .unset, .unset, .unset] [(.int 41), (.ref xr)])) rfl (by rw [hml]; rfl) (Steps.refl _) (argsL := [(.int 41)]) (rest := []) (lenOf pd_38 rfl) rfl (by show 2 * 0 + _ ≤ _; exact Nat.le_of_eq rfl) (hb hby at_206) (fun _ _ => ⟨rfl, e2, hcl, hsl⟩)
    dsimp only [Pt.U, Pt.locs, Pt.cells, Pt.slots] at X3 l3 y3 z3 st3 hQ3
    subst l3 y3 z3
    obtain ⟨rfl, Nq3, e3⟩ := hQ3
    have N3 := Fr.app N2 Nq3
    obtain ⟨cq4, kq4, q4a, q4b, q4c⟩ := isOf hZ e3 q4
    obtain ⟨_, _, ⟨T4, L4, k4, n4⟩, -, X4, ⟨Lc4, hQ4, l4, y4, z4⟩, st4⟩ := X3.virtualBack hx (y := y_24) (z := y_24) hown (mvT hZ (ow hw 202 rfl)) (mvT hZ (ow hw 203 rfl)) (notFace_of_selects (args := #[]) (mvT hZ (ow hw 205 rfl))) (mvT hZ (ow hw 205 rfl)) (mvT hZ (ow hw 204 rfl)) (by decide) (backOf (W := 0) (rm_chA l Z a0 hw [] xr 42 tB kB cdb nB vB (cs.take 40 ++ own_dots) G fm h0 n0 Z0 hy0 hCS hy2 hFM hy4 hy5 hy6 q8 q4 q5 q6 q7 (hcd2) (hbd2) (hle2) (by omega)) hZ (ow hw 206 rfl) (ow hw 4 rfl) (Nat.le_trans (by decide) hfr) (Nat.le_trans (by decide) hlo)) q4a q4c (g := (mkF m 218 #[vI i0, vI i1, vI i2, vI i3, vI i4, vI i5, vI k6_, vR pa, vI nI, vR xs, vR xr, .unset, .unset, .unset] [(.int 42), (.ref xr)])) rfl (by rw [hml]; rfl) (Steps.refl _) (argsL := [(.int 42)]) (rest := []) (lenOf pd_38 rfl) rfl (by show 2 * 0 + _ ≤ _; exact Nat.le_of_eq rfl) (hb hby at_218) (fun _ _ => ⟨rfl, e3, hcl, hsl⟩)
    dsimp only [Pt.U, Pt.locs, Pt.cells, Pt.slots] at X4 l4 y4 z4 st4 hQ4
    subst l4 y4 z4
    obtain ⟨rfl, Nq4, e4⟩ := hQ4
    have N4 := Fr.app N3 Nq4
    have pre5 : ∀ t, oS p e below T4 (mkF m 238 #[vI i0, vI i1, vI i2, vI i3, vI i4, vI i5, vI k6_, vR pa, vI nI, vR xs, vR xr, vI ((i5 &&& (2147483647 : Int32)) % (40 : Int32)), .unset, .unset] []) t → oS p e below T0 (mkF m 178 #[vI i0, vI i1, vI i2, vI i3, vI i4, vI i5, vI k6_, vR pa, vI nI, vR xs, vR xr, .unset, .unset, .unset] []) t := fun t kk => pre0 t (by
      refine XS.aload X0.here hx rfl (hb hby at_178) rfl rfl ?_
      refine st1.trans ?_
      show oS p e below T1 (mkF m 183 #[vI i0, vI i1, vI i2, vI i3, vI i4, vI i5, vI k6_, vR pa, vI nI, vR xs, vR xr, .unset, .unset, .unset] [(.int (Int32.ofNat ((cs.take 40 ++ own_dots)).length))]) _
      refine XS.bipush X1.here hx rfl (hb hby at_183) ?_
      refine XS.icmpYes X1.here hx rfl (pc0 := 185) (pc' := 190) rfl (hb hby at_185) rfl (teq ((congrArg Int32.ofNat hr43) : (Int32.ofNat ((cs.take 40 ++ own_dots)).length) = (43 : Int32))).1 (by decide) (by decide) ?_
      refine XS.aload X1.here hx rfl (hb hby at_190) rfl rfl ?_
      refine XS.bipush X1.here hx rfl (hb hby at_192) ?_
      refine st2.trans ?_
      show oS p e below T2 (mkF m 197 #[vI i0, vI i1, vI i2, vI i3, vI i4, vI i5, vI k6_, vR pa, vI nI, vR xs, vR xr, .unset, .unset, .unset] [(.int ((cs.take 40 ++ own_dots).getD 40 0))]) _
      refine XS.bipush X2.here hx rfl (hb hby at_197) ?_
      refine XS.icmpNo X2.here hx rfl (hb hby at_199) rfl (teq ((own_rsdot hpl (by decide) (by decide)) : ((cs.take 40 ++ own_dots).getD 40 0) = (46 : Int32))).2 ?_
      refine XS.aload X2.here hx rfl (hb hby at_202) rfl rfl ?_
      refine XS.bipush X2.here hx rfl (hb hby at_204) ?_
      refine st3.trans ?_
      show oS p e below T3 (mkF m 209 #[vI i0, vI i1, vI i2, vI i3, vI i4, vI i5, vI k6_, vR pa, vI nI, vR xs, vR xr, .unset, .unset, .unset] [(.int ((cs.take 40 ++ own_dots).getD 41 0))]) _
      refine XS.bipush X3.here hx rfl (hb hby at_209) ?_
      refine XS.icmpNo X3.here hx rfl (hb hby at_211) rfl (teq ((own_rsdot hpl (by decide) (by decide)) : ((cs.take 40 ++ own_dots).getD 41 0) = (46 : Int32))).2 ?_
      refine XS.aload X3.here hx rfl (hb hby at_214) rfl rfl ?_
      refine XS.bipush X3.here hx rfl (hb hby at_216) ?_
      refine st4.trans ?_
      show oS p e below T4 (mkF m 221 #[vI i0, vI i1, vI i2, vI i3, vI i4, vI i5, vI k6_, vR pa, vI nI, vR xs, vR xr, .unset, .unset, .unset] [(.int ((cs.take 40 ++ own_dots).getD 42 0))]) _
      refine XS.bipush X4.here hx rfl (hb hby at_221) ?_
      refine XS.icmpYes X4.here hx rfl (pc0 := 223) (pc' := 228) rfl (hb hby at_223) rfl (teq ((own_rsdot hpl (by decide) (by decide)) : ((cs.take 40 ++ own_dots).getD 42 0) = (46 : Int32))).1 (by decide) (by decide) ?_
      refine XS.iload X4.here hx rfl (hb hby at_228) rfl ?_
      show oS p e below T4 (mkF m 230 #[vI i0, vI i1, vI i2, vI i3, vI i4, vI i5, vI k6_, vR pa, vI nI, vR xs, vR xr, .unset, .unset, .unset] [(.int i5)]) _
      refine X4.ldcInt hx hown (mvT hZ (ow hw 0 rfl)) (g := (mkF m 230 #[vI i0, vI i1, vI i2, vI i3, vI i4, vI i5, vI k6_, vR pa, vI nI, vR xs, vR xr, .unset, .unset, .unset] [(.int i5)])) rfl (hb hby at_230) _ ?_
      show oS p e below T4 (mkF m 232 #[vI i0, vI i1, vI i2, vI i3, vI i4, vI i5, vI k6_, vR pa, vI nI, vR xs, vR xr, .unset, .unset, .unset] [(.int 2147483647), (.int i5)]) _
      refine XS.iand X4.here hx rfl (hb hby at_232) rfl ?_
      refine XS.bipush X4.here hx rfl (hb hby at_233) ?_
      show oS p e below T4 (mkF m 235 #[vI i0, vI i1, vI i2, vI i3, vI i4, vI i5, vI k6_, vR pa, vI nI, vR xs, vR xr, .unset, .unset, .unset] [(.int 40), (.int (i5 &&& (2147483647 : Int32)))]) _
      refine iremM X4 hx rfl (hb hby at_235) rfl (by decide) ?_
      show oS p e below T4 (mkF m 236 #[vI i0, vI i1, vI i2, vI i3, vI i4, vI i5, vI k6_, vR pa, vI nI, vR xs, vR xr, .unset, .unset, .unset] [(.int ((i5 &&& (2147483647 : Int32)) % (40 : Int32)))]) _
      refine XS.istore X4.here hx rfl (hb hby at_236) rfl (l' := #[vI i0, vI i1, vI i2, vI i3, vI i4, vI i5, vI k6_, vR pa, vI nI, vR xs, vR xr, vI ((i5 &&& (2147483647 : Int32)) % (40 : Int32)), .unset, .unset]) rfl ?_
      show oS p e below T4 (mkF m 238 #[vI i0, vI i1, vI i2, vI i3, vI i4, vI i5, vI k6_, vR pa, vI nI, vR xs, vR xr, vI ((i5 &&& (2147483647 : Int32)) % (40 : Int32)), .unset, .unset] []) _
      exact kk)
    obtain ⟨qq, h_qq, hb_qq⟩ : ∃ qq : Nat, ((i5 &&& (2147483647 : Int32)) % (40 : Int32)) = Int32.ofNat qq ∧ (qq < 40) := own_modn _ 40 (by decide) (by decide)
    rw [h_qq] at pre5
    have pre7 : ∀ t, oS p e below T4 (mkF m 251 #[vI i0, vI i1, vI i2, vI i3, vI i4, vI i5, vI k6_, vR pa, vI nI, vR xs, vR xr, vI (Int32.ofNat qq), vI (Int32.ofNat pp), .unset] [(.int 40), (.int (Int32.ofNat pp))]) t → oS p e below T0 (mkF m 178 #[vI i0, vI i1, vI i2, vI i3, vI i4, vI i5, vI k6_, vR pa, vI nI, vR xs, vR xr, .unset, .unset, .unset] []) t := fun t kk => pre5 t (by
      refine XS.iloadN X4.here hx rfl (hb hby at_238) rfl ?_
      show oS p e below T4 (mkF m 239 #[vI i0, vI i1, vI i2, vI i3, vI i4, vI i5, vI k6_, vR pa, vI nI, vR xs, vR xr, vI (Int32.ofNat qq), .unset, .unset] [(.int i3)]) _
      refine X4.ldcInt hx hown (mvT hZ (ow hw 0 rfl)) (g := (mkF m 239 #[vI i0, vI i1, vI i2, vI i3, vI i4, vI i5, vI k6_, vR pa, vI nI, vR xs, vR xr, vI (Int32.ofNat qq), .unset, .unset] [(.int i3)])) rfl (hb hby at_239) _ ?_
      show oS p e below T4 (mkF m 241 #[vI i0, vI i1, vI i2, vI i3, vI i4, vI i5, vI k6_, vR pa, vI nI, vR xs, vR xr, vI (Int32.ofNat qq), .unset, .unset] [(.int 2147483647), (.int i3)]) _
      refine XS.iand X4.here hx rfl (hb hby at_241) rfl ?_
      refine XS.iload X4.here hx rfl (hb hby at_242) rfl ?_
      show oS p e below T4 (mkF m 244 #[vI i0, vI i1, vI i2, vI i3, vI i4, vI i5, vI k6_, vR pa, vI nI, vR xs, vR xr, vI (Int32.ofNat qq), .unset, .unset] [(.int nI), (.int (i3 &&& (2147483647 : Int32)))]) _
      refine iremM X4 hx rfl (hb hby at_244) rfl hnz ?_
      show oS p e below T4 (mkF m 245 #[vI i0, vI i1, vI i2, vI i3, vI i4, vI i5, vI k6_, vR pa, vI nI, vR xs, vR xr, vI (Int32.ofNat qq), .unset, .unset] [(.int ((i3 &&& (2147483647 : Int32)) % nI))]) _
      rw [h_pp]
      show oS p e below T4 (mkF m 245 #[vI i0, vI i1, vI i2, vI i3, vI i4, vI i5, vI k6_, vR pa, vI nI, vR xs, vR xr, vI (Int32.ofNat qq), .unset, .unset] [(.int (Int32.ofNat pp))]) _
      refine XS.istore X4.here hx rfl (hb hby at_245) rfl (l' := #[vI i0, vI i1, vI i2, vI i3, vI i4, vI i5, vI k6_, vR pa, vI nI, vR xs, vR xr, vI (Int32.ofNat qq), vI (Int32.ofNat pp), .unset]) rfl ?_
      refine XS.iload X4.here hx rfl (hb hby at_247) rfl ?_
      refine XS.bipush X4.here hx rfl (hb hby at_249) ?_
      show oS p e below T4 (mkF m 251 #[vI i0, vI i1, vI i2, vI i3, vI i4, vI i5, vI k6_, vR pa, vI nI, vR xs, vR xr, vI (Int32.ofNat qq), vI (Int32.ofNat pp), .unset] [(.int 40), (.int (Int32.ofNat pp))]) _
      exact kk)
    by_cases gp : pp < 40
    · obtain ⟨cq8, kq8, q8a, q8b, q8c⟩ := isOf hZ e4 q4
      obtain ⟨_, _, ⟨T8, L8, k8, n8⟩, -, X8, ⟨Lc8, hQ8, l8, y8, z8⟩, st8⟩ := X4.virtualBack hx (y := y_24) (z := y_24) hown (mvT hZ (ow hw 202 rfl)) (mvT hZ (ow hw 203 rfl)) (notFace_of_selects (args := #[]) (mvT hZ (ow hw 205 rfl))) (mvT hZ (ow hw 205 rfl)) (mvT hZ (ow hw 204 rfl)) (by decide) (backOf (W := 0) (rm_chA l Z a0 hw [] xr pp tB kB cdb nB vB (cs.take 40 ++ own_dots) G fm h0 n0 Z0 hy0 hCS hy2 hFM hy4 hy5 hy6 q8 q4 q5 q6 q7 (hcd2) (hbd2) (hle2) (by omega)) hZ (ow hw 206 rfl) (ow hw 4 rfl) (Nat.le_trans (by decide) hfr) (Nat.le_trans (by decide) hlo)) q8a q8c (g := (mkF m 258 #[vI i0, vI i1, vI i2, vI i3, vI i4, vI i5, vI k6_, vR pa, vI nI, vR xs, vR xr, vI (Int32.ofNat qq), vI (Int32.ofNat pp), .unset] [(.int (Int32.ofNat pp)), (.ref xr)])) rfl (by rw [hml]; rfl) (Steps.refl _) (argsL := [(.int (Int32.ofNat pp))]) (rest := []) (lenOf pd_38 rfl) rfl (by show 2 * 0 + _ ≤ _; exact Nat.le_of_eq rfl) (hb hby at_258) (fun _ _ => ⟨rfl, e4, hcl, hsl⟩)
      dsimp only [Pt.U, Pt.locs, Pt.cells, Pt.slots] at X8 l8 y8 z8 st8 hQ8
      subst l8 y8 z8
      obtain ⟨rfl, Nq8, e8⟩ := hQ8
      have N8 := Fr.app N4 Nq8
      obtain ⟨cq9, kq9, q9a, q9b, q9c⟩ := isOf hZ e8 q0
      obtain ⟨_, _, ⟨T9, L9, k9, n9⟩, -, X9, ⟨Lc9, hQ9, l9, y9, z9⟩, st9⟩ := X8.virtualBack hx (y := y_24) (z := y_24) hown (mvT hZ (ow hw 202 rfl)) (mvT hZ (ow hw 203 rfl)) (notFace_of_selects (args := #[]) (mvT hZ (ow hw 205 rfl))) (mvT hZ (ow hw 205 rfl)) (mvT hZ (ow hw 204 rfl)) (by decide) (backOf (W := 1) (rm_chA l Z a0 hw [] xs pp tA kA cda nA vA cs G fm h0 n0 Z0 hy0 hCS hy2 hFM hy4 hy5 hy6 q8 q0 q1 q2 q3 (hcd1) (hbd1) (hle1) (by omega)) hZ (ow hw 206 rfl) (ow hw 4 rfl) (Nat.le_trans (by decide) hfr) (Nat.le_trans (by decide) hlo)) q9a q9c (g := (mkF m 265 #[vI i0, vI i1, vI i2, vI i3, vI i4, vI i5, vI k6_, vR pa, vI nI, vR xs, vR xr, vI (Int32.ofNat qq), vI (Int32.ofNat pp), .unset] [(.int (Int32.ofNat pp)), (.ref xs), (.int ((cs.take 40 ++ own_dots).getD pp 0))])) rfl (by rw [hml]; rfl) (Steps.refl _) (argsL := [(.int (Int32.ofNat pp))]) (rest := [(.int ((cs.take 40 ++ own_dots).getD pp 0))]) (lenOf pd_38 rfl) rfl (by show 2 * 0 + _ ≤ _; exact Nat.le_of_eq rfl) (hb hby at_265) (fun _ _ => ⟨rfl, e8, hcl, hsl⟩)
      dsimp only [Pt.U, Pt.locs, Pt.cells, Pt.slots] at X9 l9 y9 z9 st9 hQ9
      subst l9 y9 z9
      obtain ⟨rfl, Nq9, e9⟩ := hQ9
      have N9 := Fr.app N8 Nq9
      have pre10 : ∀ t, oS p e below T9 (mkF m 278 #[vI i0, vI i1, vI i2, vI i3, vI i4, vI i5, vI k6_, vR pa, vI nI, vR xs, vR xr, vI (Int32.ofNat qq), vI (Int32.ofNat pp), vI 1] []) t → oS p e below T0 (mkF m 178 #[vI i0, vI i1, vI i2, vI i3, vI i4, vI i5, vI k6_, vR pa, vI nI, vR xs, vR xr, .unset, .unset, .unset] []) t := fun t kk => pre7 t (by
        refine XS.icmpNo X4.here hx rfl (hb hby at_251) rfl (tlt ((own_inb (n := 40) gp (by decide)).2 : (Int32.ofNat pp) < (40 : Int32))).2.1 ?_
        refine XS.aload X4.here hx rfl (hb hby at_254) rfl rfl ?_
        refine XS.iload X4.here hx rfl (hb hby at_256) rfl ?_
        refine st8.trans ?_
        show oS p e below T8 (mkF m 261 #[vI i0, vI i1, vI i2, vI i3, vI i4, vI i5, vI k6_, vR pa, vI nI, vR xs, vR xr, vI (Int32.ofNat qq), vI (Int32.ofNat pp), .unset] [(.int ((cs.take 40 ++ own_dots).getD pp 0))]) _
        refine XS.aload X8.here hx rfl (hb hby at_261) rfl rfl ?_
        refine XS.iload X8.here hx rfl (hb hby at_263) rfl ?_
        refine st9.trans ?_
        show oS p e below T9 (mkF m 268 #[vI i0, vI i1, vI i2, vI i3, vI i4, vI i5, vI k6_, vR pa, vI nI, vR xs, vR xr, vI (Int32.ofNat qq), vI (Int32.ofNat pp), .unset] [(.int (cs.getD pp 0)), (.int ((cs.take 40 ++ own_dots).getD pp 0))]) _
        refine XS.icmpNo X9.here hx rfl (hb hby at_268) rfl (teq ((own_rsget gp (by omega)) : ((cs.take 40 ++ own_dots).getD pp 0) = (cs.getD pp 0))).2 ?_
        refine XS.iconst X9.here hx rfl (hb hby at_271) ?_
        refine XS.goto X9.here hx rfl (pc0 := 272) (pc' := 276) rfl (hb hby at_272) (by decide) (by decide) ?_
        refine XS.istore X9.here hx rfl (hb hby at_276) rfl (l' := #[vI i0, vI i1, vI i2, vI i3, vI i4, vI i5, vI k6_, vR pa, vI nI, vR xs, vR xr, vI (Int32.ofNat qq), vI (Int32.ofNat pp), vI 1]) rfl ?_
        show oS p e below T9 (mkF m 278 #[vI i0, vI i1, vI i2, vI i3, vI i4, vI i5, vI k6_, vR pa, vI nI, vR xs, vR xr, vI (Int32.ofNat qq), vI (Int32.ofNat pp), vI 1] []) _
        exact kk)
      have preh11 : ∀ t, oS p e below T9 (mkF m 278 #[vI i0, vI i1, vI i2, vI i3, vI i4, vI i5, vI k6_, vR pa, vI nI, vR xs, vR xr, vI (Int32.ofNat qq), vI (Int32.ofNat pp), vI 1] []) t → oS p e below T0 (mkF m 178 #[vI i0, vI i1, vI i2, vI i3, vI i4, vI i5, vI k6_, vR pa, vI nI, vR xs, vR xr, .unset, .unset, .unset] []) t := by
        exact pre10
      obtain ⟨T11, h11, lo11, X11, e11, N11, K11, st11⟩ := lp_tail2 (i0) (i1) (i2) (i3) (i4) (i5) (k6_) (pa) (nI) (xs) (xr) (tA) (kA) (nA) (vA) (cda) (tB) (kB) (nB) (vB) (cdb) (cs) (pp) (G) (fm) (qq) hx hZ hw hby hml hown hcl hsl (Nat.le_trans (by decide) hfr) (Nat.le_trans (by decide) hlo) hy0 hCS hy2 hFM hy4 hy5 hy6 hcd1 hbd1 hle1 hcd2 hbd2 hle2 hG40 (by first | assumption | decide) 0  T9 h0 _ X9 e9 N9 Z0 q0 q1 q2 q3 q4 q5 q6 q7 q8 (rfl)
      have pre12 : ∀ t, oS p e below T11 (mkF m 337 #[vI i0, vI i1, vI i2, vI i3, vI i4, vI i5, vI k6_, vR pa, vI nI, vR xs, vR xr, vI (Int32.ofNat qq), vI (Int32.ofNat pp), vI 1] [(.int 1)]) t → oS p e below T0 (mkF m 178 #[vI i0, vI i1, vI i2, vI i3, vI i4, vI i5, vI k6_, vR pa, vI nI, vR xs, vR xr, .unset, .unset, .unset] []) t := fun t kk => preh11 t (by
        refine st11 _ ?_
        show oS p e below T11 (mkF m 337 #[vI i0, vI i1, vI i2, vI i3, vI i4, vI i5, vI k6_, vR pa, vI nI, vR xs, vR xr, vI (Int32.ofNat qq), vI (Int32.ofNat pp), vI 1] [(.int 1)]) _
        exact kk)
      exact ⟨qq, T11, h11, _, X11, e11, N11, ((Keep.refl h0 ([] : List Addr)).trans K11 all0), pre12⟩
    · have pre13 : ∀ t, oS p e below T4 (mkF m 278 #[vI i0, vI i1, vI i2, vI i3, vI i4, vI i5, vI k6_, vR pa, vI nI, vR xs, vR xr, vI (Int32.ofNat qq), vI (Int32.ofNat pp), vI 1] []) t → oS p e below T0 (mkF m 178 #[vI i0, vI i1, vI i2, vI i3, vI i4, vI i5, vI k6_, vR pa, vI nI, vR xs, vR xr, .unset, .unset, .unset] []) t := fun t kk => pre7 t (by
        refine XS.icmpYes X4.here hx rfl (pc0 := 251) (pc' := 271) rfl (hb hby at_251) rfl (flt ((own_nlt (n := 40) (by omega) (by omega)) : ¬ ((Int32.ofNat pp) < (40 : Int32)))).2.1 (by decide) (by decide) ?_
        refine XS.iconst X4.here hx rfl (hb hby at_271) ?_
        refine XS.goto X4.here hx rfl (pc0 := 272) (pc' := 276) rfl (hb hby at_272) (by decide) (by decide) ?_
        refine XS.istore X4.here hx rfl (hb hby at_276) rfl (l' := #[vI i0, vI i1, vI i2, vI i3, vI i4, vI i5, vI k6_, vR pa, vI nI, vR xs, vR xr, vI (Int32.ofNat qq), vI (Int32.ofNat pp), vI 1]) rfl ?_
        show oS p e below T4 (mkF m 278 #[vI i0, vI i1, vI i2, vI i3, vI i4, vI i5, vI k6_, vR pa, vI nI, vR xs, vR xr, vI (Int32.ofNat qq), vI (Int32.ofNat pp), vI 1] []) _
        exact kk)
      have preh14 : ∀ t, oS p e below T4 (mkF m 278 #[vI i0, vI i1, vI i2, vI i3, vI i4, vI i5, vI k6_, vR pa, vI nI, vR xs, vR xr, vI (Int32.ofNat qq), vI (Int32.ofNat pp), vI 1] []) t → oS p e below T0 (mkF m 178 #[vI i0, vI i1, vI i2, vI i3, vI i4, vI i5, vI k6_, vR pa, vI nI, vR xs, vR xr, .unset, .unset, .unset] []) t := by
        exact pre13
      obtain ⟨T14, h14, lo14, X14, e14, N14, K14, st14⟩ := lp_tail2 (i0) (i1) (i2) (i3) (i4) (i5) (k6_) (pa) (nI) (xs) (xr) (tA) (kA) (nA) (vA) (cda) (tB) (kB) (nB) (vB) (cdb) (cs) (pp) (G) (fm) (qq) hx hZ hw hby hml hown hcl hsl (Nat.le_trans (by decide) hfr) (Nat.le_trans (by decide) hlo) hy0 hCS hy2 hFM hy4 hy5 hy6 hcd1 hbd1 hle1 hcd2 hbd2 hle2 hG40 (by first | assumption | decide) 0  T4 h0 _ X4 e4 N4 Z0 q0 q1 q2 q3 q4 q5 q6 q7 q8 (rfl)
      have pre15 : ∀ t, oS p e below T14 (mkF m 337 #[vI i0, vI i1, vI i2, vI i3, vI i4, vI i5, vI k6_, vR pa, vI nI, vR xs, vR xr, vI (Int32.ofNat qq), vI (Int32.ofNat pp), vI 1] [(.int 1)]) t → oS p e below T0 (mkF m 178 #[vI i0, vI i1, vI i2, vI i3, vI i4, vI i5, vI k6_, vR pa, vI nI, vR xs, vR xr, .unset, .unset, .unset] []) t := fun t kk => preh14 t (by
        refine st14 _ ?_
        show oS p e below T14 (mkF m 337 #[vI i0, vI i1, vI i2, vI i3, vI i4, vI i5, vI k6_, vR pa, vI nI, vR xs, vR xr, vI (Int32.ofNat qq), vI (Int32.ofNat pp), vI 1] [(.int 1)]) _
        exact kk)
      exact ⟨qq, T14, h14, _, X14, e14, N14, ((Keep.refl h0 ([] : List Addr)).trans K14 all0), pre15⟩
  | succ k ih =>
    intro  T0 h0 locs X0 e0 N0 Z0 q0 q1 q2 q3 q4 q5 q6 q7 q8 hk
    have pre0 : ∀ t, oS p e below T0 (mkF m 178 #[vI i0, vI i1, vI i2, vI i3, vI i4, vI i5, vI k6_, vR pa, vI nI, vR xs, vR xr, .unset, .unset, .unset] []) t → oS p e below T0 (mkF m 178 #[vI i0, vI i1, vI i2, vI i3, vI i4, vI i5, vI k6_, vR pa, vI nI, vR xs, vR xr, .unset, .unset, .unset] []) t := fun _ kk => kk
    exact absurd hk (by omega)
set_option maxRecDepth 65536 in
set_option maxHeartbeats 40000000 in
theorem lp_head_ {p : Program} {l : Launch} {e : Env} {R : Room} {s : State} {m : MethodId} {args : Array Value} {below : List Frame} {meth : Method} {c : Code} {cells slots : Nat} {Z : State} {a0 : Array Value} {n0 : Nat} (i0 : Int32) (i1 : Int32) (i2 : Int32) (i3 : Int32) (i4 : Int32) (i5 : Int32) (k6_ : Int32) (hx : p.tables.exec = Jvm.exec) (hZ : Z.Warmed39 s.vm) (hw : HW Z a0) (hby : c.code = code) (hml : c.maxLocals = 14) (hown : s.vm.findClass "com/example/holdfast/holdfast/InvalidInputExceptionQuotedPinLaw" = some m.cls) (hcl : cells + 1 ≤ R.cells) (hsl : slots + 44 ≤ R.slots) (hfr : 0 ≤ R.frames) (hlo : 0 ≤ R.locals) (hk6 : k6_ = (0 : Int32) ∨ k6_ = (1 : Int32) ∨ k6_ = (2 : Int32) ∨ k6_ = (3 : Int32) ∨ k6_ = (4 : Int32) ∨ k6_ = (5 : Int32)) :
    ∀ (k : Nat) (T0 : State) (h0 : Heap) (locs : List Loc), Stand p l e R s m args below meth c T0 locs cells slots → T0.heap = h0 → Fr n0 locs → n0 ≤ h0.size → (k = 0) → ∃ pa : Addr, ∃ kp : ClassId, ∃ N_ : Nat, ∃ (T' : State) (h' : Heap) (locs' : List Loc), Stand p l e R s m args below meth c T' locs' (cells + 1) (slots + 44) ∧ T'.heap = h' ∧ Fr n0 locs' ∧ Keep h0 h' ([] : List Addr) ∧ (h0.size ≤ pa) ∧ (Arv Z h' pa kp .char (Int32.ofNat N_) ((List.replicate N_ (0 : Int32)).map Value.int) (.int 0)) ∧ (N_ = 0 ∨ N_ = 1 ∨ N_ = 39 ∨ N_ = 40 ∨ N_ = 41 ∨ N_ = 44) ∧ ∀ t, Steps p.tables e below (T'.setTop (mkF m 87 #[vI i0, vI i1, vI i2, vI i3, vI i4, vI i5, vI k6_, vR pa, .unset, .unset, .unset, .unset, .unset, .unset] [])) t → oS p e below T0 (mkF m 9 #[vI i0, vI i1, vI i2, vI i3, vI i4, vI i5, vI k6_, .unset, .unset, .unset, .unset, .unset, .unset, .unset] []) t := by
  intro k
  induction k with
  | zero =>
    intro  T0 h0 locs X0 e0 N0 Z0 hk
    have pre0 : ∀ t, oS p e below T0 (mkF m 9 #[vI i0, vI i1, vI i2, vI i3, vI i4, vI i5, vI k6_, .unset, .unset, .unset, .unset, .unset, .unset, .unset] []) t → oS p e below T0 (mkF m 9 #[vI i0, vI i1, vI i2, vI i3, vI i4, vI i5, vI k6_, .unset, .unset, .unset, .unset, .unset, .unset, .unset] []) t := fun _ kk => kk
    rcases hk6 with hk6 | hk6 | hk6 | hk6 | hk6 | hk6
    · subst hk6
      obtain ⟨T1, h1, ky1, X1, e1, E1, A1, st1⟩ := newP X0 hx hZ (ow hw 1 rfl) e0 (g := (mkF m 15 #[vI i0, vI i1, vI i2, vI i3, vI i4, vI i5, vI 0, .unset, .unset, .unset, .unset, .unset, .unset, .unset] [(.int 0)])) rfl (hb hby at_15) rfl ((by decide) : ¬ ((0 : Int32) < (0 : Int32))) (cap := 44) ((by decide) : (0 : Int32).toNatClampNeg ≤ 44) (by decide) hcl hsl
      obtain ⟨b1, g1⟩ : ∃ z, z = h0.size := ⟨_, rfl⟩
      rw [← g1] at A1 st1
      have V1 : Arv Z h1 b1 ky1 .char (0 : Int32) [] (.int 0) := Arv.new A1 (by decide)
      have R2 : Arv Z h1 b1 ky1 .char (Int32.ofNat 0) ((List.replicate 0 (0 : Int32)).map Value.int) (.int 0) := by have q := V1; exact q
      have pre3 : ∀ t, oS p e below T1 (mkF m 87 #[vI i0, vI i1, vI i2, vI i3, vI i4, vI i5, vI 0, vR b1, .unset, .unset, .unset, .unset, .unset, .unset] []) t → oS p e below T0 (mkF m 9 #[vI i0, vI i1, vI i2, vI i3, vI i4, vI i5, vI 0, .unset, .unset, .unset, .unset, .unset, .unset, .unset] []) t := fun t kk => pre0 t (by
        refine XS.iload X0.here hx rfl (hb hby at_9) rfl ?_
        refine XS.ifNo X0.here hx rfl (hb hby at_11) rfl ((if0 _ _).trans (teq ((by decide) : (0 : Int32) = (0 : Int32))).2) ?_
        refine XS.iconst X0.here hx rfl (hb hby at_14) ?_
        refine st1 _ ?_
        show oS p e below T1 (mkF m 17 #[vI i0, vI i1, vI i2, vI i3, vI i4, vI i5, vI 0, .unset, .unset, .unset, .unset, .unset, .unset, .unset] [(.ref b1)]) _
        refine XS.astore X1.here hx rfl (hb hby at_17) rfl rfl (l' := #[vI i0, vI i1, vI i2, vI i3, vI i4, vI i5, vI 0, vR b1, .unset, .unset, .unset, .unset, .unset, .unset]) rfl ?_
        refine XS.goto X1.here hx rfl (pc0 := 19) (pc' := 87) rfl (hb hby at_19) (by decide) (by decide) ?_
        show oS p e below T1 (mkF m 87 #[vI i0, vI i1, vI i2, vI i3, vI i4, vI i5, vI 0, vR b1, .unset, .unset, .unset, .unset, .unset, .unset] []) _
        exact kk)
      exact ⟨b1, ky1, 0, T1, h1, _, X1, e1, N0, ((Keep.refl h0 ([] : List Addr)).ext E1), (Nat.le_trans (Nat.le_refl _) (Nat.le_of_eq g1.symm)), R2, (by decide), pre3⟩
    · subst hk6
      obtain ⟨T4, h4, ky4, X4, e4, E4, A4, st4⟩ := newP X0 hx hZ (ow hw 1 rfl) e0 (g := (mkF m 29 #[vI i0, vI i1, vI i2, vI i3, vI i4, vI i5, vI 1, .unset, .unset, .unset, .unset, .unset, .unset, .unset] [(.int 1)])) rfl (hb hby at_29) rfl ((by decide) : ¬ ((1 : Int32) < (0 : Int32))) (cap := 44) ((by decide) : (1 : Int32).toNatClampNeg ≤ 44) (by decide) hcl hsl
      obtain ⟨b4, g4⟩ : ∃ z, z = h0.size := ⟨_, rfl⟩
      rw [← g4] at A4 st4
      have V4 : Arv Z h4 b4 ky4 .char (1 : Int32) [] (.int 0) := Arv.new A4 (by decide)
      have U4 : Arv Z h4 b4 ky4 .char (1 : Int32) [(.int 0)] (.int 0) := V4.pad (pad_rep [] (.int 0) 1)
      have R5 : Arv Z h4 b4 ky4 .char (Int32.ofNat 1) ((List.replicate 1 (0 : Int32)).map Value.int) (.int 0) := by have q := U4; exact q
      have pre6 : ∀ t, oS p e below T4 (mkF m 87 #[vI i0, vI i1, vI i2, vI i3, vI i4, vI i5, vI 1, vR b4, .unset, .unset, .unset, .unset, .unset, .unset] []) t → oS p e below T0 (mkF m 9 #[vI i0, vI i1, vI i2, vI i3, vI i4, vI i5, vI 1, .unset, .unset, .unset, .unset, .unset, .unset, .unset] []) t := fun t kk => pre0 t (by
        refine XS.iload X0.here hx rfl (hb hby at_9) rfl ?_
        refine XS.ifYes X0.here hx rfl (pc0 := 11) (pc' := 22) rfl (hb hby at_11) rfl ((if0 _ _).trans (feq ((by decide) : ¬ ((1 : Int32) = (0 : Int32)))).2) (by decide) (by decide) ?_
        refine XS.iload X0.here hx rfl (hb hby at_22) rfl ?_
        refine XS.iconst X0.here hx rfl (hb hby at_24) ?_
        refine XS.icmpNo X0.here hx rfl (hb hby at_25) rfl (teq ((by decide) : (1 : Int32) = (1 : Int32))).2 ?_
        show oS p e below T0 (mkF m 28 #[vI i0, vI i1, vI i2, vI i3, vI i4, vI i5, vI 1, .unset, .unset, .unset, .unset, .unset, .unset, .unset] []) _
        refine XS.iconst X0.here hx rfl (hb hby at_28) ?_
        refine st4 _ ?_
        show oS p e below T4 (mkF m 31 #[vI i0, vI i1, vI i2, vI i3, vI i4, vI i5, vI 1, .unset, .unset, .unset, .unset, .unset, .unset, .unset] [(.ref b4)]) _
        refine XS.astore X4.here hx rfl (hb hby at_31) rfl rfl (l' := #[vI i0, vI i1, vI i2, vI i3, vI i4, vI i5, vI 1, vR b4, .unset, .unset, .unset, .unset, .unset, .unset]) rfl ?_
        refine XS.goto X4.here hx rfl (pc0 := 33) (pc' := 87) rfl (hb hby at_33) (by decide) (by decide) ?_
        show oS p e below T4 (mkF m 87 #[vI i0, vI i1, vI i2, vI i3, vI i4, vI i5, vI 1, vR b4, .unset, .unset, .unset, .unset, .unset, .unset] []) _
        exact kk)
      exact ⟨b4, ky4, 1, T4, h4, _, X4, e4, N0, ((Keep.refl h0 ([] : List Addr)).ext E4), (Nat.le_trans (Nat.le_refl _) (Nat.le_of_eq g4.symm)), R5, (by decide), pre6⟩
    · subst hk6
      obtain ⟨T7, h7, ky7, X7, e7, E7, A7, st7⟩ := newP X0 hx hZ (ow hw 1 rfl) e0 (g := (mkF m 44 #[vI i0, vI i1, vI i2, vI i3, vI i4, vI i5, vI 2, .unset, .unset, .unset, .unset, .unset, .unset, .unset] [(.int 39)])) rfl (hb hby at_44) rfl ((by decide) : ¬ ((39 : Int32) < (0 : Int32))) (cap := 44) ((by decide) : (39 : Int32).toNatClampNeg ≤ 44) (by decide) hcl hsl
      obtain ⟨b7, g7⟩ : ∃ z, z = h0.size := ⟨_, rfl⟩
      rw [← g7] at A7 st7
      have V7 : Arv Z h7 b7 ky7 .char (39 : Int32) [] (.int 0) := Arv.new A7 (by decide)
      have U7 : Arv Z h7 b7 ky7 .char (39 : Int32) [(.int 0), (.int 0), (.int 0), (.int 0), (.int 0), (.int 0), (.int 0), (.int 0), (.int 0), (.int 0), (.int 0), (.int 0), (.int 0), (.int 0), (.int 0), (.int 0), (.int 0), (.int 0), (.int 0), (.int 0), (.int 0), (.int 0), (.int 0), (.int 0), (.int 0), (.int 0), (.int 0), (.int 0), (.int 0), (.int 0), (.int 0), (.int 0), (.int 0), (.int 0), (.int 0), (.int 0), (.int 0), (.int 0), (.int 0)] (.int 0) := V7.pad (pad_rep [] (.int 0) 39)
      have R8 : Arv Z h7 b7 ky7 .char (Int32.ofNat 39) ((List.replicate 39 (0 : Int32)).map Value.int) (.int 0) := by have q := U7; exact q
      have pre9 : ∀ t, oS p e below T7 (mkF m 87 #[vI i0, vI i1, vI i2, vI i3, vI i4, vI i5, vI 2, vR b7, .unset, .unset, .unset, .unset, .unset, .unset] []) t → oS p e below T0 (mkF m 9 #[vI i0, vI i1, vI i2, vI i3, vI i4, vI i5, vI 2, .unset, .unset, .unset, .unset, .unset, .unset, .unset] []) t := fun t kk => pre0 t (by
        refine XS.iload X0.here hx rfl (hb hby at_9) rfl ?_
        refine XS.ifYes X0.here hx rfl (pc0 := 11) (pc' := 22) rfl (hb hby at_11) rfl ((if0 _ _).trans (feq ((by decide) : ¬ ((2 : Int32) = (0 : Int32)))).2) (by decide) (by decide) ?_
        refine XS.iload X0.here hx rfl (hb hby at_22) rfl ?_
        refine XS.iconst X0.here hx rfl (hb hby at_24) ?_
        refine XS.icmpYes X0.here hx rfl (pc0 := 25) (pc' := 36) rfl (hb hby at_25) rfl (feq ((by decide) : ¬ ((2 : Int32) = (1 : Int32)))).2 (by decide) (by decide) ?_
        show oS p e below T0 (mkF m 36 #[vI i0, vI i1, vI i2, vI i3, vI i4, vI i5, vI 2, .unset, .unset, .unset, .unset, .unset, .unset, .unset] []) _
        refine XS.iload X0.here hx rfl (hb hby at_36) rfl ?_
        refine XS.iconst X0.here hx rfl (hb hby at_38) ?_
        refine XS.icmpNo X0.here hx rfl (hb hby at_39) rfl (teq ((by decide) : (2 : Int32) = (2 : Int32))).2 ?_
        refine XS.bipush X0.here hx rfl (hb hby at_42) ?_
        refine st7 _ ?_
        show oS p e below T7 (mkF m 46 #[vI i0, vI i1, vI i2, vI i3, vI i4, vI i5, vI 2, .unset, .unset, .unset, .unset, .unset, .unset, .unset] [(.ref b7)]) _
        refine XS.astore X7.here hx rfl (hb hby at_46) rfl rfl (l' := #[vI i0, vI i1, vI i2, vI i3, vI i4, vI i5, vI 2, vR b7, .unset, .unset, .unset, .unset, .unset, .unset]) rfl ?_
        refine XS.goto X7.here hx rfl (pc0 := 48) (pc' := 87) rfl (hb hby at_48) (by decide) (by decide) ?_
        show oS p e below T7 (mkF m 87 #[vI i0, vI i1, vI i2, vI i3, vI i4, vI i5, vI 2, vR b7, .unset, .unset, .unset, .unset, .unset, .unset] []) _
        exact kk)
      exact ⟨b7, ky7, 39, T7, h7, _, X7, e7, N0, ((Keep.refl h0 ([] : List Addr)).ext E7), (Nat.le_trans (Nat.le_refl _) (Nat.le_of_eq g7.symm)), R8, (by decide), pre9⟩
    · subst hk6
      obtain ⟨T10, h10, ky10, X10, e10, E10, A10, st10⟩ := newP X0 hx hZ (ow hw 1 rfl) e0 (g := (mkF m 59 #[vI i0, vI i1, vI i2, vI i3, vI i4, vI i5, vI 3, .unset, .unset, .unset, .unset, .unset, .unset, .unset] [(.int 40)])) rfl (hb hby at_59) rfl ((by decide) : ¬ ((40 : Int32) < (0 : Int32))) (cap := 44) ((by decide) : (40 : Int32).toNatClampNeg ≤ 44) (by decide) hcl hsl
      obtain ⟨b10, g10⟩ : ∃ z, z = h0.size := ⟨_, rfl⟩
      rw [← g10] at A10 st10
      have V10 : Arv Z h10 b10 ky10 .char (40 : Int32) [] (.int 0) := Arv.new A10 (by decide)
      have U10 : Arv Z h10 b10 ky10 .char (40 : Int32) [(.int 0), (.int 0), (.int 0), (.int 0), (.int 0), (.int 0), (.int 0), (.int 0), (.int 0), (.int 0), (.int 0), (.int 0), (.int 0), (.int 0), (.int 0), (.int 0), (.int 0), (.int 0), (.int 0), (.int 0), (.int 0), (.int 0), (.int 0), (.int 0), (.int 0), (.int 0), (.int 0), (.int 0), (.int 0), (.int 0), (.int 0), (.int 0), (.int 0), (.int 0), (.int 0), (.int 0), (.int 0), (.int 0), (.int 0), (.int 0)] (.int 0) := V10.pad (pad_rep [] (.int 0) 40)
      have R11 : Arv Z h10 b10 ky10 .char (Int32.ofNat 40) ((List.replicate 40 (0 : Int32)).map Value.int) (.int 0) := by have q := U10; exact q
      have pre12 : ∀ t, oS p e below T10 (mkF m 87 #[vI i0, vI i1, vI i2, vI i3, vI i4, vI i5, vI 3, vR b10, .unset, .unset, .unset, .unset, .unset, .unset] []) t → oS p e below T0 (mkF m 9 #[vI i0, vI i1, vI i2, vI i3, vI i4, vI i5, vI 3, .unset, .unset, .unset, .unset, .unset, .unset, .unset] []) t := fun t kk => pre0 t (by
        refine XS.iload X0.here hx rfl (hb hby at_9) rfl ?_
        refine XS.ifYes X0.here hx rfl (pc0 := 11) (pc' := 22) rfl (hb hby at_11) rfl ((if0 _ _).trans (feq ((by decide) : ¬ ((3 : Int32) = (0 : Int32)))).2) (by decide) (by decide) ?_
        refine XS.iload X0.here hx rfl (hb hby at_22) rfl ?_
        refine XS.iconst X0.here hx rfl (hb hby at_24) ?_
        refine XS.icmpYes X0.here hx rfl (pc0 := 25) (pc' := 36) rfl (hb hby at_25) rfl (feq ((by decide) : ¬ ((3 : Int32) = (1 : Int32)))).2 (by decide) (by decide) ?_
        show oS p e below T0 (mkF m 36 #[vI i0, vI i1, vI i2, vI i3, vI i4, vI i5, vI 3, .unset, .unset, .unset, .unset, .unset, .unset, .unset] []) _
        refine XS.iload X0.here hx rfl (hb hby at_36) rfl ?_
        refine XS.iconst X0.here hx rfl (hb hby at_38) ?_
        refine XS.icmpYes X0.here hx rfl (pc0 := 39) (pc' := 51) rfl (hb hby at_39) rfl (feq ((by decide) : ¬ ((3 : Int32) = (2 : Int32)))).2 (by decide) (by decide) ?_
        refine XS.iload X0.here hx rfl (hb hby at_51) rfl ?_
        refine XS.iconst X0.here hx rfl (hb hby at_53) ?_
        show oS p e below T0 (mkF m 54 #[vI i0, vI i1, vI i2, vI i3, vI i4, vI i5, vI 3, .unset, .unset, .unset, .unset, .unset, .unset, .unset] [(.int 3), (.int 3)]) _
        refine XS.icmpNo X0.here hx rfl (hb hby at_54) rfl (teq ((by decide) : (3 : Int32) = (3 : Int32))).2 ?_
        refine XS.bipush X0.here hx rfl (hb hby at_57) ?_
        refine st10 _ ?_
        show oS p e below T10 (mkF m 61 #[vI i0, vI i1, vI i2, vI i3, vI i4, vI i5, vI 3, .unset, .unset, .unset, .unset, .unset, .unset, .unset] [(.ref b10)]) _
        refine XS.astore X10.here hx rfl (hb hby at_61) rfl rfl (l' := #[vI i0, vI i1, vI i2, vI i3, vI i4, vI i5, vI 3, vR b10, .unset, .unset, .unset, .unset, .unset, .unset]) rfl ?_
        refine XS.goto X10.here hx rfl (pc0 := 63) (pc' := 87) rfl (hb hby at_63) (by decide) (by decide) ?_
        show oS p e below T10 (mkF m 87 #[vI i0, vI i1, vI i2, vI i3, vI i4, vI i5, vI 3, vR b10, .unset, .unset, .unset, .unset, .unset, .unset] []) _
        exact kk)
      exact ⟨b10, ky10, 40, T10, h10, _, X10, e10, N0, ((Keep.refl h0 ([] : List Addr)).ext E10), (Nat.le_trans (Nat.le_refl _) (Nat.le_of_eq g10.symm)), R11, (by decide), pre12⟩
    · subst hk6
      obtain ⟨T13, h13, ky13, X13, e13, E13, A13, st13⟩ := newP X0 hx hZ (ow hw 1 rfl) e0 (g := (mkF m 74 #[vI i0, vI i1, vI i2, vI i3, vI i4, vI i5, vI 4, .unset, .unset, .unset, .unset, .unset, .unset, .unset] [(.int 41)])) rfl (hb hby at_74) rfl ((by decide) : ¬ ((41 : Int32) < (0 : Int32))) (cap := 44) ((by decide) : (41 : Int32).toNatClampNeg ≤ 44) (by decide) hcl hsl
      obtain ⟨b13, g13⟩ : ∃ z, z = h0.size := ⟨_, rfl⟩
      rw [← g13] at A13 st13
      have V13 : Arv Z h13 b13 ky13 .char (41 : Int32) [] (.int 0) := Arv.new A13 (by decide)
      have U13 : Arv Z h13 b13 ky13 .char (41 : Int32) [(.int 0), (.int 0), (.int 0), (.int 0), (.int 0), (.int 0), (.int 0), (.int 0), (.int 0), (.int 0), (.int 0), (.int 0), (.int 0), (.int 0), (.int 0), (.int 0), (.int 0), (.int 0), (.int 0), (.int 0), (.int 0), (.int 0), (.int 0), (.int 0), (.int 0), (.int 0), (.int 0), (.int 0), (.int 0), (.int 0), (.int 0), (.int 0), (.int 0), (.int 0), (.int 0), (.int 0), (.int 0), (.int 0), (.int 0), (.int 0), (.int 0)] (.int 0) := V13.pad (pad_rep [] (.int 0) 41)
      have R14 : Arv Z h13 b13 ky13 .char (Int32.ofNat 41) ((List.replicate 41 (0 : Int32)).map Value.int) (.int 0) := by have q := U13; exact q
      have pre15 : ∀ t, oS p e below T13 (mkF m 87 #[vI i0, vI i1, vI i2, vI i3, vI i4, vI i5, vI 4, vR b13, .unset, .unset, .unset, .unset, .unset, .unset] []) t → oS p e below T0 (mkF m 9 #[vI i0, vI i1, vI i2, vI i3, vI i4, vI i5, vI 4, .unset, .unset, .unset, .unset, .unset, .unset, .unset] []) t := fun t kk => pre0 t (by
        refine XS.iload X0.here hx rfl (hb hby at_9) rfl ?_
        refine XS.ifYes X0.here hx rfl (pc0 := 11) (pc' := 22) rfl (hb hby at_11) rfl ((if0 _ _).trans (feq ((by decide) : ¬ ((4 : Int32) = (0 : Int32)))).2) (by decide) (by decide) ?_
        refine XS.iload X0.here hx rfl (hb hby at_22) rfl ?_
        refine XS.iconst X0.here hx rfl (hb hby at_24) ?_
        refine XS.icmpYes X0.here hx rfl (pc0 := 25) (pc' := 36) rfl (hb hby at_25) rfl (feq ((by decide) : ¬ ((4 : Int32) = (1 : Int32)))).2 (by decide) (by decide) ?_
        show oS p e below T0 (mkF m 36 #[vI i0, vI i1, vI i2, vI i3, vI i4, vI i5, vI 4, .unset, .unset, .unset, .unset, .unset, .unset, .unset] []) _
        refine XS.iload X0.here hx rfl (hb hby at_36) rfl ?_
        refine XS.iconst X0.here hx rfl (hb hby at_38) ?_
        refine XS.icmpYes X0.here hx rfl (pc0 := 39) (pc' := 51) rfl (hb hby at_39) rfl (feq ((by decide) : ¬ ((4 : Int32) = (2 : Int32)))).2 (by decide) (by decide) ?_
        refine XS.iload X0.here hx rfl (hb hby at_51) rfl ?_
        refine XS.iconst X0.here hx rfl (hb hby at_53) ?_
        show oS p e below T0 (mkF m 54 #[vI i0, vI i1, vI i2, vI i3, vI i4, vI i5, vI 4, .unset, .unset, .unset, .unset, .unset, .unset, .unset] [(.int 3), (.int 4)]) _
        refine XS.icmpYes X0.here hx rfl (pc0 := 54) (pc' := 66) rfl (hb hby at_54) rfl (feq ((by decide) : ¬ ((4 : Int32) = (3 : Int32)))).2 (by decide) (by decide) ?_
        refine XS.iload X0.here hx rfl (hb hby at_66) rfl ?_
        refine XS.iconst X0.here hx rfl (hb hby at_68) ?_
        refine XS.icmpNo X0.here hx rfl (hb hby at_69) rfl (teq ((by decide) : (4 : Int32) = (4 : Int32))).2 ?_
        refine XS.bipush X0.here hx rfl (hb hby at_72) ?_
        show oS p e below T0 (mkF m 74 #[vI i0, vI i1, vI i2, vI i3, vI i4, vI i5, vI 4, .unset, .unset, .unset, .unset, .unset, .unset, .unset] [(.int 41)]) _
        refine st13 _ ?_
        show oS p e below T13 (mkF m 76 #[vI i0, vI i1, vI i2, vI i3, vI i4, vI i5, vI 4, .unset, .unset, .unset, .unset, .unset, .unset, .unset] [(.ref b13)]) _
        refine XS.astore X13.here hx rfl (hb hby at_76) rfl rfl (l' := #[vI i0, vI i1, vI i2, vI i3, vI i4, vI i5, vI 4, vR b13, .unset, .unset, .unset, .unset, .unset, .unset]) rfl ?_
        refine XS.goto X13.here hx rfl (pc0 := 78) (pc' := 87) rfl (hb hby at_78) (by decide) (by decide) ?_
        show oS p e below T13 (mkF m 87 #[vI i0, vI i1, vI i2, vI i3, vI i4, vI i5, vI 4, vR b13, .unset, .unset, .unset, .unset, .unset, .unset] []) _
        exact kk)
      exact ⟨b13, ky13, 41, T13, h13, _, X13, e13, N0, ((Keep.refl h0 ([] : List Addr)).ext E13), (Nat.le_trans (Nat.le_refl _) (Nat.le_of_eq g13.symm)), R14, (by decide), pre15⟩
    · subst hk6
      obtain ⟨T16, h16, ky16, X16, e16, E16, A16, st16⟩ := newP X0 hx hZ (ow hw 1 rfl) e0 (g := (mkF m 83 #[vI i0, vI i1, vI i2, vI i3, vI i4, vI i5, vI 5, .unset, .unset, .unset, .unset, .unset, .unset, .unset] [(.int 44)])) rfl (hb hby at_83) rfl ((by decide) : ¬ ((44 : Int32) < (0 : Int32))) (cap := 44) ((by decide) : (44 : Int32).toNatClampNeg ≤ 44) (by decide) hcl hsl
      obtain ⟨b16, g16⟩ : ∃ z, z = h0.size := ⟨_, rfl⟩
      rw [← g16] at A16 st16
      have V16 : Arv Z h16 b16 ky16 .char (44 : Int32) [] (.int 0) := Arv.new A16 (by decide)
      have U16 : Arv Z h16 b16 ky16 .char (44 : Int32) [(.int 0), (.int 0), (.int 0), (.int 0), (.int 0), (.int 0), (.int 0), (.int 0), (.int 0), (.int 0), (.int 0), (.int 0), (.int 0), (.int 0), (.int 0), (.int 0), (.int 0), (.int 0), (.int 0), (.int 0), (.int 0), (.int 0), (.int 0), (.int 0), (.int 0), (.int 0), (.int 0), (.int 0), (.int 0), (.int 0), (.int 0), (.int 0), (.int 0), (.int 0), (.int 0), (.int 0), (.int 0), (.int 0), (.int 0), (.int 0), (.int 0), (.int 0), (.int 0), (.int 0)] (.int 0) := V16.pad (pad_rep [] (.int 0) 44)
      have R17 : Arv Z h16 b16 ky16 .char (Int32.ofNat 44) ((List.replicate 44 (0 : Int32)).map Value.int) (.int 0) := by have q := U16; exact q
      have pre18 : ∀ t, oS p e below T16 (mkF m 87 #[vI i0, vI i1, vI i2, vI i3, vI i4, vI i5, vI 5, vR b16, .unset, .unset, .unset, .unset, .unset, .unset] []) t → oS p e below T0 (mkF m 9 #[vI i0, vI i1, vI i2, vI i3, vI i4, vI i5, vI 5, .unset, .unset, .unset, .unset, .unset, .unset, .unset] []) t := fun t kk => pre0 t (by
        refine XS.iload X0.here hx rfl (hb hby at_9) rfl ?_
        refine XS.ifYes X0.here hx rfl (pc0 := 11) (pc' := 22) rfl (hb hby at_11) rfl ((if0 _ _).trans (feq ((by decide) : ¬ ((5 : Int32) = (0 : Int32)))).2) (by decide) (by decide) ?_
        refine XS.iload X0.here hx rfl (hb hby at_22) rfl ?_
        refine XS.iconst X0.here hx rfl (hb hby at_24) ?_
        refine XS.icmpYes X0.here hx rfl (pc0 := 25) (pc' := 36) rfl (hb hby at_25) rfl (feq ((by decide) : ¬ ((5 : Int32) = (1 : Int32)))).2 (by decide) (by decide) ?_
        show oS p e below T0 (mkF m 36 #[vI i0, vI i1, vI i2, vI i3, vI i4, vI i5, vI 5, .unset, .unset, .unset, .unset, .unset, .unset, .unset] []) _
        refine XS.iload X0.here hx rfl (hb hby at_36) rfl ?_
        refine XS.iconst X0.here hx rfl (hb hby at_38) ?_
        refine XS.icmpYes X0.here hx rfl (pc0 := 39) (pc' := 51) rfl (hb hby at_39) rfl (feq ((by decide) : ¬ ((5 : Int32) = (2 : Int32)))).2 (by decide) (by decide) ?_
        refine XS.iload X0.here hx rfl (hb hby at_51) rfl ?_
        refine XS.iconst X0.here hx rfl (hb hby at_53) ?_
        show oS p e below T0 (mkF m 54 #[vI i0, vI i1, vI i2, vI i3, vI i4, vI i5, vI 5, .unset, .unset, .unset, .unset, .unset, .unset, .unset] [(.int 3), (.int 5)]) _
        refine XS.icmpYes X0.here hx rfl (pc0 := 54) (pc' := 66) rfl (hb hby at_54) rfl (feq ((by decide) : ¬ ((5 : Int32) = (3 : Int32)))).2 (by decide) (by decide) ?_
        refine XS.iload X0.here hx rfl (hb hby at_66) rfl ?_
        refine XS.iconst X0.here hx rfl (hb hby at_68) ?_
        refine XS.icmpYes X0.here hx rfl (pc0 := 69) (pc' := 81) rfl (hb hby at_69) rfl (feq ((by decide) : ¬ ((5 : Int32) = (4 : Int32)))).2 (by decide) (by decide) ?_
        refine XS.bipush X0.here hx rfl (hb hby at_81) ?_
        show oS p e below T0 (mkF m 83 #[vI i0, vI i1, vI i2, vI i3, vI i4, vI i5, vI 5, .unset, .unset, .unset, .unset, .unset, .unset, .unset] [(.int 44)]) _
        refine st16 _ ?_
        show oS p e below T16 (mkF m 85 #[vI i0, vI i1, vI i2, vI i3, vI i4, vI i5, vI 5, .unset, .unset, .unset, .unset, .unset, .unset, .unset] [(.ref b16)]) _
        refine XS.astore X16.here hx rfl (hb hby at_85) rfl rfl (l' := #[vI i0, vI i1, vI i2, vI i3, vI i4, vI i5, vI 5, vR b16, .unset, .unset, .unset, .unset, .unset, .unset]) rfl ?_
        show oS p e below T16 (mkF m 87 #[vI i0, vI i1, vI i2, vI i3, vI i4, vI i5, vI 5, vR b16, .unset, .unset, .unset, .unset, .unset, .unset] []) _
        exact kk)
      exact ⟨b16, ky16, 44, T16, h16, _, X16, e16, N0, ((Keep.refl h0 ([] : List Addr)).ext E16), (Nat.le_trans (Nat.le_refl _) (Nat.le_of_eq g16.symm)), R17, (by decide), pre18⟩
  | succ k ih =>
    intro  T0 h0 locs X0 e0 N0 Z0 hk
    have pre0 : ∀ t, oS p e below T0 (mkF m 9 #[vI i0, vI i1, vI i2, vI i3, vI i4, vI i5, vI k6_, .unset, .unset, .unset, .unset, .unset, .unset, .unset] []) t → oS p e below T0 (mkF m 9 #[vI i0, vI i1, vI i2, vI i3, vI i4, vI i5, vI k6_, .unset, .unset, .unset, .unset, .unset, .unset, .unset] []) t := fun _ kk => kk
    exact absurd hk (by omega)
theorem pd_39 : parseMethodDescriptor "([C)V" = some ⟨[(.array .char)], none⟩ := by decide +kernel
theorem pd_40 : parseMethodDescriptor "(Ljava/lang/String;)Ljava/lang/String;" = some ⟨[(.object "java/lang/String")], some (.object "java/lang/String")⟩ := by decide +kernel
theorem pd_41 : parseMethodDescriptor "(Ljava/lang/Object;)Z" = some ⟨[(.object "java/lang/Object")], some .boolean⟩ := by decide +kernel
theorem ef_26 (m : MethodId) (x0 : Int32) (x1 : Int32) (x2 : Int32) (x3 : Int32) (x4 : Int32) (x5 : Int32) : entryFrame m #[(.int x0), (.int x1), (.int x2), (.int x3), (.int x4), (.int x5)] maxLocals = mkF m 0 #[vI x0, vI x1, vI x2, vI x3, vI x4, vI x5, .unset, .unset, .unset, .unset, .unset, .unset, .unset, .unset] [] := by first | (simp [entryFrame, mkF, argsToLocals, Value.category, maxLocals]; done) | rfl
theorem pn_9 : plainName "com/example/holdfast/holdfast/InvalidInputExceptionQuotedPinLaw" = true := by first | (simp [plainName, overriddenIn]; done) | decide +kernel
def Q_law (Z : State) (i0 : Int32) (i1 : Int32) (i2 : Int32) (i3 : Int32) (i4 : Int32) (i5 : Int32) (G : Int32) (fm : Value) (h0 : Heap) (n0 : Nat) (v : Option Value) (h : Heap) (L : List Loc) : Prop := (v = some (.int 1)) ∧ (Fr n0 L)
set_option maxRecDepth 65536 in
set_option maxHeartbeats 40000000 in
theorem rm_law (l : Launch) (Z : State) (a0 : Array Value) (hw : HW Z a0) (ws : List Jvm.Cond) (i0 : Int32) (i1 : Int32) (i2 : Int32) (i3 : Int32) (i4 : Int32) (i5 : Int32) (G : Int32) (fm : Value) (h0 : Heap) (n0 : Nat) (Z0 : n0 ≤ h0.size) (q0 : sC Z G) (hCS : ¬ (G = (0 : Int32))) (q2 : sF Z fm) (hFM : fm.isRef = true) (q4 : sA Z) (q5 : sH Z) (q6 : sL Z) (q7 : Old Z n0 h0) :
    MetFree l x (head1 (Jvm.Cond.code x code maxLocals ret :: ws) room_1) (fun a₁ U₁ => a₁ = #[(.int i0), (.int i1), (.int i2), (.int i3), (.int i4), (.int i5)] ∧ Z.Warmed39 U₁.vm ∧ U₁.heap = h0 ∧ CHv Z oEL U₁.vm h0) (fun _ _ _ _ _ => True) (fun _ U₁ o₁ U₂ => ∃ v₁ L₁, o₁ = .returned v₁ ∧ Q_law Z i0 i1 i2 i3 i4 i5 G fm h0 n0 v₁ U₂.heap L₁ ∧ ReturnedEndW U₁ o₁ U₂ L₁ room_1.cells room_1.slots) := by
  refine MetFree.of_bodySF (plainFor_of_name pn_9) hisR ?_
  intro p e s m args below meth c s₁ Bd hml0 hP hK
  obtain ⟨rfl, hZ, hh, CH0⟩ := hP
  have hx := Bd.exec
  have hby := Bd.bytes
  have hml : c.maxLocals = 14 := hml0
  have hown : s.vm.findClass "com/example/holdfast/holdfast/InvalidInputExceptionQuotedPinLaw" = some m.cls := findClass_of_methodNamed Bd.named
  have hnm := (name_of_methodNamed Bd.named Bd.method).1
  have X0 : Stand p l e room_1 (s.setVm s.vm) m #[(.int i0), (.int i1), (.int i2), (.int i3), (.int i4), (.int i5)] below meth c s₁ [] 0 0 := Stand.of_body Bd
  have e0 : s₁.heap = h0 := by rw [← hh, Bd.state]; rfl
  have N0 := Fr.nil n0
  have hZ0 : Z.Warmed39 (s.setVm s.vm).vm := hZ
  have hown0 : (s.setVm s.vm).vm.findClass "com/example/holdfast/holdfast/InvalidInputExceptionQuotedPinLaw" = some m.cls := hown
  have hS0 : s.Since s.vm h0.size := (State.WarmedH.refl s).since _
  have hk0 : h0.size ≤ h0.size := Nat.le_refl _
  have CR0 : CHr Z oEL s.vm h0 s.vm h0 := CHr.refl CH0
  have pre0 : ∀ t, oS p e below s₁ (mkF m 0 #[vI i0, vI i1, vI i2, vI i3, vI i4, vI i5, .unset, .unset, .unset, .unset, .unset, .unset, .unset, .unset] []) t → oS p e below s₁ (entryFrame m #[(.int i0), (.int i1), (.int i2), (.int i3), (.int i4), (.int i5)] maxLocals) t := fun t k => castTop (ef_26 m i0 i1 i2 i3 i4 i5) k
  have pre1 : ∀ t, oS p e below s₁ (mkF m 9 #[vI i0, vI i1, vI i2, vI i3, vI i4, vI i5, vI ((i0 &&& (2147483647 : Int32)) % (6 : Int32)), .unset, .unset, .unset, .unset, .unset, .unset, .unset] []) t → oS p e below s₁ (entryFrame m #[(.int i0), (.int i1), (.int i2), (.int i3), (.int i4), (.int i5)] maxLocals) t := fun t kk => pre0 t (by
    refine XS.iloadN X0.here hx rfl (hb hby at_0) rfl ?_
    show oS p e below s₁ (mkF m 1 #[vI i0, vI i1, vI i2, vI i3, vI i4, vI i5, .unset, .unset, .unset, .unset, .unset, .unset, .unset, .unset] [(.int i0)]) _
    refine X0.ldcInt hx hown0 (mvT hZ0 (ow hw 0 rfl)) (g := (mkF m 1 #[vI i0, vI i1, vI i2, vI i3, vI i4, vI i5, .unset, .unset, .unset, .unset, .unset, .unset, .unset, .unset] [(.int i0)])) rfl (hb hby at_1) _ ?_
    show oS p e below s₁ (mkF m 3 #[vI i0, vI i1, vI i2, vI i3, vI i4, vI i5, .unset, .unset, .unset, .unset, .unset, .unset, .unset, .unset] [(.int 2147483647), (.int i0)]) _
    refine XS.iand X0.here hx rfl (hb hby at_3) rfl ?_
    refine XS.bipush X0.here hx rfl (hb hby at_4) ?_
    show oS p e below s₁ (mkF m 6 #[vI i0, vI i1, vI i2, vI i3, vI i4, vI i5, .unset, .unset, .unset, .unset, .unset, .unset, .unset, .unset] [(.int 6), (.int (i0 &&& (2147483647 : Int32)))]) _
    refine iremM X0 hx rfl (hb hby at_6) rfl (by decide) ?_
    show oS p e below s₁ (mkF m 7 #[vI i0, vI i1, vI i2, vI i3, vI i4, vI i5, .unset, .unset, .unset, .unset, .unset, .unset, .unset, .unset] [(.int ((i0 &&& (2147483647 : Int32)) % (6 : Int32)))]) _
    refine XS.istore X0.here hx rfl (hb hby at_7) rfl (l' := #[vI i0, vI i1, vI i2, vI i3, vI i4, vI i5, vI ((i0 &&& (2147483647 : Int32)) % (6 : Int32)), .unset, .unset, .unset, .unset, .unset, .unset, .unset]) rfl ?_
    show oS p e below s₁ (mkF m 9 #[vI i0, vI i1, vI i2, vI i3, vI i4, vI i5, vI ((i0 &&& (2147483647 : Int32)) % (6 : Int32)), .unset, .unset, .unset, .unset, .unset, .unset, .unset] []) _
    exact kk)
  obtain ⟨kk6, h_kk6⟩ : ∃ z, z = ((i0 &&& (2147483647 : Int32)) % (6 : Int32)) := ⟨_, rfl⟩
  rw [← h_kk6] at pre1
  have hk6 : kk6 = (0 : Int32) ∨ kk6 = (1 : Int32) ∨ kk6 = (2 : Int32) ∨ kk6 = (3 : Int32) ∨ kk6 = (4 : Int32) ∨ kk6 = (5 : Int32) := by rw [h_kk6]; exact own_m6 i0
  have preh2 : ∀ t, oS p e below s₁ (mkF m 9 #[vI i0, vI i1, vI i2, vI i3, vI i4, vI i5, vI kk6, .unset, .unset, .unset, .unset, .unset, .unset, .unset] []) t → oS p e below s₁ (entryFrame m #[(.int i0), (.int i1), (.int i2), (.int i3), (.int i4), (.int i5)] maxLocals) t := by
    exact pre1
  obtain ⟨pa_2, kp_2, N__2, T2, h2, lo2, X2, e2, N2, K2, f2_0, f2_1, f2_2, st2⟩ := lp_head_ (i0) (i1) (i2) (i3) (i4) (i5) (kk6) hx hZ0 hw hby hml hown0 (by decide : 0 + 1 ≤ _) (by decide : 0 + 44 ≤ _) (by decide) (by decide) (hk6) 0  s₁ h0 _ X0 e0 N0 Z0 (rfl)
  have sf3 : Safe Z oEL s.vm h0 pa_2 := Safe.new f2_0
  have CR4 : CHr Z oEL s.vm h0 s.vm h2 := CR0.trans (CHr.keep K2 sf0 CR0.1)
  have sf5 : Safe Z oEL s.vm h2 pa_2 := Safe.keep K2 sf0 CR0.1 sf3
  obtain ⟨cl6, Ar6, -, S6, M6, -, -⟩ := id f2_1
  have hNl : N__2 ≤ 44 := by omega
  have pre7 : ∀ t, oS p e below T2 (mkF m 94 #[vI i0, vI i1, vI i2, vI i3, vI i4, vI i5, vI kk6, vR pa_2, vI (Int32.ofNat N__2), .unset, .unset, .unset, .unset, .unset] [(.int (Int32.ofNat N__2))]) t → oS p e below s₁ (entryFrame m #[(.int i0), (.int i1), (.int i2), (.int i3), (.int i4), (.int i5)] maxLocals) t := fun t kk => preh2 t (by
    refine st2 _ ?_
    show oS p e below T2 (mkF m 87 #[vI i0, vI i1, vI i2, vI i3, vI i4, vI i5, vI kk6, vR pa_2, .unset, .unset, .unset, .unset, .unset, .unset] []) _
    refine XS.aload X2.here hx rfl (hb hby at_87) rfl rfl ?_
    show oS p e below T2 (mkF m 89 #[vI i0, vI i1, vI i2, vI i3, vI i4, vI i5, vI kk6, vR pa_2, .unset, .unset, .unset, .unset, .unset, .unset] [(.ref pa_2)]) _
    refine X2.arraylength hx (by rw [e2]; exact Ar6.1) (State.isArrayOf_alike hZ0.alike Ar6.2.1) (g := (mkF m 89 #[vI i0, vI i1, vI i2, vI i3, vI i4, vI i5, vI kk6, vR pa_2, .unset, .unset, .unset, .unset, .unset, .unset] [(.ref pa_2)])) rfl rfl (hb hby at_89) _ ?_
    rw [len_of S6 M6]
    show oS p e below T2 (mkF m 90 #[vI i0, vI i1, vI i2, vI i3, vI i4, vI i5, vI kk6, vR pa_2, .unset, .unset, .unset, .unset, .unset, .unset] [(.int (Int32.ofNat N__2))]) _
    refine XS.istore X2.here hx rfl (hb hby at_90) rfl (l' := #[vI i0, vI i1, vI i2, vI i3, vI i4, vI i5, vI kk6, vR pa_2, vI (Int32.ofNat N__2), .unset, .unset, .unset, .unset, .unset]) rfl ?_
    refine XS.iload X2.here hx rfl (hb hby at_92) rfl ?_
    show oS p e below T2 (mkF m 94 #[vI i0, vI i1, vI i2, vI i3, vI i4, vI i5, vI kk6, vR pa_2, vI (Int32.ofNat N__2), .unset, .unset, .unset, .unset, .unset] [(.int (Int32.ofNat N__2))]) _
    exact kk)
  by_cases hz : N__2 = 0
  · subst hz
    have R8 : Arv Z h2 pa_2 kp_2 .char (0 : Int32) [] (.int 0) := by have q := f2_1; exact q
    obtain ⟨T9, h9, X9, e9, E9, A9, D9, -, st9⟩ := newO X2 hx hZ0 hown0 (ow hw 2 rfl) (ow hw 3 rfl) (ow hw 4 rfl) e2 (g := (mkF m 138 #[vI i0, vI i1, vI i2, vI i3, vI i4, vI i5, vI kk6, vR pa_2, vI 0, .unset, .unset, .unset, .unset, .unset] [])) rfl (hb hby at_138) (by decide) (by decide)
    obtain ⟨b9, g9⟩ : ∃ z, z = h2.size := ⟨_, rfl⟩
    rw [← g9] at A9 D9 st9
    have sf10 : Safe Z oEL s.vm h2 b9 := Safe.new (Nat.le_of_eq g9.symm)
    have CR11 : CHr Z oEL s.vm h0 s.vm h9 := CR4.trans (CHr.ext E9 CR4.1)
    have sf12 : Safe Z oEL s.vm h9 pa_2 := Safe.ext E9 CR4.1 sf5
    have sf13 : Safe Z oEL s.vm h9 b9 := Safe.ext E9 CR4.1 sf10
    have D9_value : fV Z h9 b9 .null := D9 (Or.inr (ow hw 17 rfl)) (ty := (.array .byte)) (by decide)
    have D9_coder : fC Z h9 b9 (.int 0) := D9 (Or.inr (ow hw 18 rfl)) (ty := .byte) (by decide)
    have ge14 : n0 ≤ b9 := Nat.le_trans Z0 (Nat.le_trans K2.1 (Nat.le_of_eq g9.symm))
    have c15 := (R8.ext E9)
    obtain ⟨_, _, ⟨T16, L16, k16, n16⟩, -, X16', hS16', hz16', ⟨Lc16, hQ16, l16, y16, z16, ch16⟩, st16⟩ := X9.specialBackS hx (y := y_9) rfl hown0 (mvT hZ0 (ow hw 5 rfl)) (mvT hZ0 (ow hw 6 rfl)) (mvT hZ0 (ow hw 7 rfl)) (by decide) (backOfSH (W := 1) (rm_newE1 l Z a0 hw [] b9 pa_2 kp_2 h9 n0 (Nat.le_trans Z0 (Nat.le_trans K2.1 E9.1)) A9 D9_value D9_coder ge14 c15) hZ0 (ow hw 7 rfl) (ow hw 4 rfl) (by decide) (by decide) (own_EW hw) CR11.1) (g := (mkF m 144 #[vI i0, vI i1, vI i2, vI i3, vI i4, vI i5, vI kk6, vR pa_2, vI 0, .unset, .unset, .unset, .unset, .unset] [(.ref pa_2), (.ref b9), (.ref b9)])) rfl (by rw [hml]; rfl) (Steps.refl _) (a := b9) (argsL := [(.ref pa_2)]) (rest := [(.ref b9)]) (lenOf pd_39 rfl) rfl (by show 2 * 0 + _ ≤ _; exact Nat.le_of_eq rfl) (hb hby at_144) (fun _ _ => ⟨rfl, e9, (by decide : 2 + 4 ≤ _), (by decide : 48 + 8 ≤ _)⟩)
    dsimp only [Pt.U, Pt.locs, Pt.cells, Pt.slots] at X16' l16 y16 z16 st16 hQ16 hS16' hz16' ch16
    subst l16 y16 z16
    obtain ⟨tt_16, kt_16, rfl, Nq16, K16, f16_0, f16_1, f16_2⟩ := hQ16
    have N16 := Fr.app N2 Nq16
    obtain ⟨X16, hS16, hZ16, hown16⟩ := rebS hS0 (by rw [e9]; exact (Nat.le_trans hk0 (Nat.le_trans K2.1 E9.1))) X16' hS16' hz16' hZ0 hown0
    have CR17 : CHr Z oEL s.vm h0 T16.vm T16.heap := CR11.trans ch16
    have sf18 : Safe Z oEL T16.vm T16.heap pa_2 := ch16.safe c15.lt sf12
    have sf19 : Safe Z oEL T16.vm T16.heap b9 := ch16.safe A9.lt sf13
    have c20 := (((q7.keep K2 all0).ext E9).keep K16 (allS ge14 all0))
    have c21 := (A9.keep K16)
    obtain ⟨_, _, ⟨T22, L22, k22, n22⟩, -, X22', hS22', hz22', ⟨Lc22, hQ22, l22, y22, z22, ch22⟩, st22⟩ := callSS X16 hx (y := y_57) hown16 (mvT hZ16 (ow hw 23 rfl)) (mvT hZ16 (ow hw 24 rfl)) (mvT hZ16 (ow hw 25 rfl)) (mvT hZ16 (ow hw 26 rfl)) (by decide) (backOfSH (W := 0) (rm_quoS l Z a0 hw [] b9 tt_16 kt_16 (0 : Int32) (0 : Int32) [] [] G fm T16.heap n0 (Nat.le_trans Z0 (Nat.le_trans (Nat.le_trans K2.1 E9.1) K16.1)) q0 hCS q2 hFM q4 q5 q6 c20 c21 f16_0 f16_1 f16_2 (Or.inl ⟨rfl, rfl, rfl, by simp⟩) (by simp) (by decide) (by decide)) hZ16 (ow hw 26 rfl) (ow hw 25 rfl) (by decide) (by decide) (own_EW hw) CR17.1) (g := (mkF m 151 #[vI i0, vI i1, vI i2, vI i3, vI i4, vI i5, vI kk6, vR pa_2, vI 0, vR b9, .unset, .unset, .unset, .unset] [(.ref b9)])) rfl (by rw [hml]; rfl) (argsL := [(.ref b9)]) (rest := []) (lenOf pd_40 rfl) rfl (by show 2 * 0 + _ ≤ _; exact Nat.le_of_eq rfl) (hb hby at_151) (fun _ _ => ⟨rfl, rfl, (by decide : 6 + 0 ≤ _), (by decide : 56 + 0 ≤ _)⟩)
    dsimp only [Pt.U, Pt.locs, Pt.cells, Pt.slots] at X22' l22 y22 z22 st22 hQ22 hS22' hz22' ch22
    subst l22 y22 z22
    obtain ⟨rfl, Nq22, K22⟩ := hQ22
    have N22 := Fr.app N16 Nq22
    obtain ⟨X22, hS22, hZ22, hown22⟩ := rebS hS16 (Nat.le_refl _) X22' hS22' hz22' hZ16 hown16
    have CR23 : CHr Z oEL s.vm h0 T22.vm T22.heap := CR17.trans ch22
    have sf24 : Safe Z oEL T22.vm T22.heap pa_2 := ch22.safe (Nat.lt_of_lt_of_le c15.lt K16.1) sf18
    have sf25 : Safe Z oEL T22.vm T22.heap b9 := ch22.safe c21.lt sf19
    have c26 := (c21.keep K22)
    obtain ⟨cq27, kq27, q27a, q27b, q27c⟩ := isOf hZ22 rfl c26
    obtain ⟨_, _, ⟨T27, L27, k27, n27⟩, -, X27, ⟨Lc27, hQ27, l27, y27, z27⟩, st27⟩ := X22.virtualBack hx (y := y_58) (z := y_58) hown22 (mvT hZ22 (ow hw 38 rfl)) (mvT hZ22 (ow hw 39 rfl)) (notFace_of_selects (args := #[]) (mvT hZ22 (ow hw 41 rfl))) (mvT hZ22 (ow hw 41 rfl)) (mvT hZ22 (ow hw 40 rfl)) (by decide) (backOf (W := 0) (rm_eqS l Z a0 hw [] b9 T22.heap n0 (Nat.le_trans Z0 (Nat.le_trans (Nat.le_trans (Nat.le_trans K2.1 E9.1) K16.1) K22.1)) ) hZ22 (ow hw 42 rfl) (ow hw 4 rfl) (by decide) (by decide)) q27a q27c (g := (mkF m 174 #[vI i0, vI i1, vI i2, vI i3, vI i4, vI i5, vI kk6, vR pa_2, vI 0, vR b9, vR b9, .unset, .unset, .unset] [(.ref b9), (.ref b9)])) rfl (by rw [hml]; rfl) (Steps.refl _) (argsL := [(.ref b9)]) (rest := []) (lenOf pd_41 rfl) rfl (by show 2 * 0 + _ ≤ _; exact Nat.le_of_eq rfl) (hb hby at_174) (fun _ _ => ⟨rfl, rfl, (by decide : 6 + 0 ≤ _), (by decide : 56 + 0 ≤ _)⟩)
    dsimp only [Pt.U, Pt.locs, Pt.cells, Pt.slots] at X27 l27 y27 z27 st27 hQ27
    subst l27 y27 z27
    obtain ⟨rfl, Nq27, e27⟩ := hQ27
    have N27 := Fr.app N22 Nq27
    obtain ⟨fs, hr, hrun, hended, hEnd⟩ := X27.leaveW hS22 (by rw [e27]; exact (Nat.le_refl _)) (v := some (.int 1)) (fun h => by rw [Bd.returns] at h; cases h)
    refine ⟨_, _, pre7 _ ?_, hrun, hended, _, _, rfl, ?_, hEnd.1, hEnd.2.1, hEnd.2.2.1, hEnd.2.2.2.mono (by decide) (by decide)⟩
    · show oS p e below T2 (mkF m 94 #[vI i0, vI i1, vI i2, vI i3, vI i4, vI i5, vI kk6, vR pa_2, vI 0, .unset, .unset, .unset, .unset, .unset] [(.int 0)]) _
      refine XS.ifYes X2.here hx rfl (pc0 := 94) (pc' := 138) rfl (hb hby at_94) rfl ((if0 _ _).trans (flt ((by decide) : ¬ ((0 : Int32) < (0 : Int32)))).2.2.2) (by decide) (by decide) ?_
      refine st9 _ ?_
      show oS p e below T9 (mkF m 141 #[vI i0, vI i1, vI i2, vI i3, vI i4, vI i5, vI kk6, vR pa_2, vI 0, .unset, .unset, .unset, .unset, .unset] [(.ref b9)]) _
      refine XS.dup X9.here hx rfl (hb hby at_141) rfl rfl ?_
      refine XS.aload X9.here hx rfl (hb hby at_142) rfl rfl ?_
      refine st16.trans ?_
      show oS p e below T16 (mkF m 147 #[vI i0, vI i1, vI i2, vI i3, vI i4, vI i5, vI kk6, vR pa_2, vI 0, .unset, .unset, .unset, .unset, .unset] [(.ref b9)]) _
      refine XS.astore X16.here hx rfl (hb hby at_147) rfl rfl (l' := #[vI i0, vI i1, vI i2, vI i3, vI i4, vI i5, vI kk6, vR pa_2, vI 0, vR b9, .unset, .unset, .unset, .unset]) rfl ?_
      refine XS.aload X16.here hx rfl (hb hby at_149) rfl rfl ?_
      refine st22.trans ?_
      show oS p e below T22 (mkF m 154 #[vI i0, vI i1, vI i2, vI i3, vI i4, vI i5, vI kk6, vR pa_2, vI 0, vR b9, .unset, .unset, .unset, .unset] [(.ref b9)]) _
      refine XS.astore X22.here hx rfl (hb hby at_154) rfl rfl (l' := #[vI i0, vI i1, vI i2, vI i3, vI i4, vI i5, vI kk6, vR pa_2, vI 0, vR b9, vR b9, .unset, .unset, .unset]) rfl ?_
      refine XS.aload X22.here hx rfl (hb hby at_156) rfl rfl ?_
      refine XS.ifnonnullYes X22.here hx rfl (pc0 := 158) (pc' := 163) rfl (hb hby at_158) rfl (by decide) (by decide) ?_
      refine XS.iload X22.here hx rfl (hb hby at_163) rfl ?_
      refine XS.bipush X22.here hx rfl (hb hby at_165) ?_
      show oS p e below T22 (mkF m 167 #[vI i0, vI i1, vI i2, vI i3, vI i4, vI i5, vI kk6, vR pa_2, vI 0, vR b9, vR b9, .unset, .unset, .unset] [(.int 40), (.int 0)]) _
      refine XS.icmpNo X22.here hx rfl (hb hby at_167) rfl (flt ((by decide) : ¬ ((40 : Int32) < (0 : Int32)))).2.2.1 ?_
      refine XS.aload X22.here hx rfl (hb hby at_170) rfl rfl ?_
      refine XS.aload X22.here hx rfl (hb hby at_172) rfl rfl ?_
      refine st27.trans ?_
      show oS p e below T27 (mkF m 177 #[vI i0, vI i1, vI i2, vI i3, vI i4, vI i5, vI kk6, vR pa_2, vI 0, vR b9, vR b9, .unset, .unset, .unset] [(.int 1)]) _
      exact retN X27 hx (t := .boolean) Bd.returns (by simp) (hb hby at_177) hr
    · show Q_law Z i0 i1 i2 i3 i4 i5 G fm h0 n0 _ T27.heap _
      rw [e27]
      exact ⟨rfl, N27⟩
  · have hnz : (Int32.ofNat N__2) ≠ 0 := fun q => absurd (own_oinj (n := 0) (by omega) (by omega) q) hz
    have pre28 : ∀ t, oS p e below T2 (mkF m 105 #[vI i0, vI i1, vI i2, vI i3, vI i4, vI i5, vI kk6, vR pa_2, vI (Int32.ofNat N__2), .unset, .unset, .unset, .unset, .unset] [(.int ((i1 &&& (65535 : Int32)).toUInt32.toUInt16.toUInt32.toInt32)), (.int 0), (.ref pa_2)]) t → oS p e below s₁ (entryFrame m #[(.int i0), (.int i1), (.int i2), (.int i3), (.int i4), (.int i5)] maxLocals) t := fun t kk => pre7 t (by
      refine XS.ifNo X2.here hx rfl (hb hby at_94) rfl ((if0 _ _).trans (tlt ((own_inb (i := 0) (by omega) (by omega)).2 : (0 : Int32) < (Int32.ofNat N__2))).2.2.2) ?_
      refine XS.aload X2.here hx rfl (hb hby at_97) rfl rfl ?_
      refine XS.iconst X2.here hx rfl (hb hby at_99) ?_
      refine XS.iloadN X2.here hx rfl (hb hby at_100) rfl ?_
      show oS p e below T2 (mkF m 101 #[vI i0, vI i1, vI i2, vI i3, vI i4, vI i5, vI kk6, vR pa_2, vI (Int32.ofNat N__2), .unset, .unset, .unset, .unset, .unset] [(.int i1), (.int 0), (.ref pa_2)]) _
      refine X2.ldcInt hx hown0 (mvT hZ0 (ow hw 43 rfl)) (g := (mkF m 101 #[vI i0, vI i1, vI i2, vI i3, vI i4, vI i5, vI kk6, vR pa_2, vI (Int32.ofNat N__2), .unset, .unset, .unset, .unset, .unset] [(.int i1), (.int 0), (.ref pa_2)])) rfl (hb hby at_101) _ ?_
      show oS p e below T2 (mkF m 103 #[vI i0, vI i1, vI i2, vI i3, vI i4, vI i5, vI kk6, vR pa_2, vI (Int32.ofNat N__2), .unset, .unset, .unset, .unset, .unset] [(.int 65535), (.int i1), (.int 0), (.ref pa_2)]) _
      refine XS.iand X2.here hx rfl (hb hby at_103) rfl ?_
      refine XS.i2c X2.here hx rfl (hb hby at_104) rfl ?_
      show oS p e below T2 (mkF m 105 #[vI i0, vI i1, vI i2, vI i3, vI i4, vI i5, vI kk6, vR pa_2, vI (Int32.ofNat N__2), .unset, .unset, .unset, .unset, .unset] [(.int ((i1 &&& (65535 : Int32)).toUInt32.toUInt16.toUInt32.toInt32)), (.int 0), (.ref pa_2)]) _
      exact kk)
    obtain ⟨ca0, h_ca0⟩ : ∃ z, z = ((i1 &&& (65535 : Int32)).toUInt32.toUInt16.toUInt32.toInt32) := ⟨_, rfl⟩
    rw [← h_ca0] at pre28
    have hw0 : own_W ca0 := by rw [h_ca0]; exact own_i2c _
    have ge30 : n0 ≤ pa_2 := Nat.le_trans Z0 (Nat.le_trans (Nat.le_refl _) f2_0)
    obtain ⟨cl29, Ar29, qq29, S29, M29, Hh29, U29⟩ := id f2_1
    obtain ⟨T29, h29, X29, e29, W29, st29⟩ := stC X2 hx hZ0 e2 Ar29 (j := (0 : Int32)) (inb_of S29 (own_inb (i := 0) (by omega) (by omega))) (g := (mkF m 105 #[vI i0, vI i1, vI i2, vI i3, vI i4, vI i5, vI kk6, vR pa_2, vI (Int32.ofNat N__2), .unset, .unset, .unset, .unset, .unset] [(.int ca0), (.int 0), (.ref pa_2)])) rfl rfl (hb hby at_105)
    have N29 := Fr.snoc X29 N2 ge30
    have CR31 : CHr Z oEL s.vm h0 s.vm h29 := CR4.trans (CHr.wr W29 sf5 CR4.1)
    have sf32 : Safe Z oEL s.vm h29 pa_2 := Safe.wr W29 sf5 CR4.1 sf5
    have V29 : Arv Z h29 pa_2 kp_2 .char (Int32.ofNat N__2) (((List.replicate N__2 (0 : Int32)).map Value.int).set 0 (.int (nar .char ca0))) (.int 0) := Arv.set Ar29 qq29 S29 M29 Hh29 U29 (fits_nar_char _) W29 0 rfl (by simp only [List.length_map, List.length_set, List.length_replicate]; omega)
    have VR29 : Arv Z h29 pa_2 kp_2 .char (Int32.ofNat N__2) (((List.replicate N__2 (0 : Int32)).map Value.int).set 0 (.int ca0)) (.int 0) := by have q := V29; rw [(own_Wn hw0)] at q; exact q
    have R33 : Arv Z h29 pa_2 kp_2 .char (Int32.ofNat N__2) (((List.replicate N__2 (0 : Int32)).set 0 ca0).map Value.int) (.int 0) := by have q := VR29; rw [List.map_set]; exact q
    have pre34 : ∀ t, oS p e below T29 (mkF m 117 #[vI i0, vI i1, vI i2, vI i3, vI i4, vI i5, vI kk6, vR pa_2, vI (Int32.ofNat N__2), .unset, .unset, .unset, .unset, .unset] [(.int ((i2 &&& (65535 : Int32)).toUInt32.toUInt16.toUInt32.toInt32)), (.int (Int32.ofNat (N__2 - 1))), (.ref pa_2)]) t → oS p e below s₁ (entryFrame m #[(.int i0), (.int i1), (.int i2), (.int i3), (.int i4), (.int i5)] maxLocals) t := fun t kk => pre28 t (by
      refine st29 _ ?_
      show oS p e below T29 (mkF m 106 #[vI i0, vI i1, vI i2, vI i3, vI i4, vI i5, vI kk6, vR pa_2, vI (Int32.ofNat N__2), .unset, .unset, .unset, .unset, .unset] []) _
      refine XS.aload X29.here hx rfl (hb hby at_106) rfl rfl ?_
      refine XS.iload X29.here hx rfl (hb hby at_108) rfl ?_
      refine XS.iconst X29.here hx rfl (hb hby at_110) ?_
      refine XS.isub X29.here hx rfl (hb hby at_111) rfl ?_
      show oS p e below T29 (mkF m 112 #[vI i0, vI i1, vI i2, vI i3, vI i4, vI i5, vI kk6, vR pa_2, vI (Int32.ofNat N__2), .unset, .unset, .unset, .unset, .unset] [(.int ((Int32.ofNat N__2) - (1 : Int32))), (.ref pa_2)]) _
      rw [(show (Int32.ofNat N__2) - (1 : Int32) = Int32.ofNat (N__2 - 1) from own_subm (b := 1) (by omega) (by omega))]
      show oS p e below T29 (mkF m 112 #[vI i0, vI i1, vI i2, vI i3, vI i4, vI i5, vI kk6, vR pa_2, vI (Int32.ofNat N__2), .unset, .unset, .unset, .unset, .unset] [(.int (Int32.ofNat (N__2 - 1))), (.ref pa_2)]) _
      refine XS.iloadN X29.here hx rfl (hb hby at_112) rfl ?_
      show oS p e below T29 (mkF m 113 #[vI i0, vI i1, vI i2, vI i3, vI i4, vI i5, vI kk6, vR pa_2, vI (Int32.ofNat N__2), .unset, .unset, .unset, .unset, .unset] [(.int i2), (.int (Int32.ofNat (N__2 - 1))), (.ref pa_2)]) _
      refine X29.ldcInt hx hown0 (mvT hZ0 (ow hw 43 rfl)) (g := (mkF m 113 #[vI i0, vI i1, vI i2, vI i3, vI i4, vI i5, vI kk6, vR pa_2, vI (Int32.ofNat N__2), .unset, .unset, .unset, .unset, .unset] [(.int i2), (.int (Int32.ofNat (N__2 - 1))), (.ref pa_2)])) rfl (hb hby at_113) _ ?_
      show oS p e below T29 (mkF m 115 #[vI i0, vI i1, vI i2, vI i3, vI i4, vI i5, vI kk6, vR pa_2, vI (Int32.ofNat N__2), .unset, .unset, .unset, .unset, .unset] [(.int 65535), (.int i2), (.int (Int32.ofNat (N__2 - 1))), (.ref pa_2)]) _
      refine XS.iand X29.here hx rfl (hb hby at_115) rfl ?_
      refine XS.i2c X29.here hx rfl (hb hby at_116) rfl ?_
      show oS p e below T29 (mkF m 117 #[vI i0, vI i1, vI i2, vI i3, vI i4, vI i5, vI kk6, vR pa_2, vI (Int32.ofNat N__2), .unset, .unset, .unset, .unset, .unset] [(.int ((i2 &&& (65535 : Int32)).toUInt32.toUInt16.toUInt32.toInt32)), (.int (Int32.ofNat (N__2 - 1))), (.ref pa_2)]) _
      exact kk)
    obtain ⟨ca1, h_ca1⟩ : ∃ z, z = ((i2 &&& (65535 : Int32)).toUInt32.toUInt16.toUInt32.toInt32) := ⟨_, rfl⟩
    rw [← h_ca1] at pre34
    have hw1 : own_W ca1 := by rw [h_ca1]; exact own_i2c _
    obtain ⟨cl35, Ar35, qq35, S35, M35, Hh35, U35⟩ := id R33
    obtain ⟨T35, h35, X35, e35, W35, st35⟩ := stC X29 hx hZ0 e29 Ar35 (j := (Int32.ofNat (N__2 - 1))) (inb_of S35 (own_inb (i := (N__2 - 1)) (by omega) (by omega))) (g := (mkF m 117 #[vI i0, vI i1, vI i2, vI i3, vI i4, vI i5, vI kk6, vR pa_2, vI (Int32.ofNat N__2), .unset, .unset, .unset, .unset, .unset] [(.int ca1), (.int (Int32.ofNat (N__2 - 1))), (.ref pa_2)])) rfl rfl (hb hby at_117)
    have N35 := Fr.snoc X35 N29 ge30
    have CR36 : CHr Z oEL s.vm h0 s.vm h35 := CR31.trans (CHr.wr W35 sf32 CR31.1)
    have sf37 : Safe Z oEL s.vm h35 pa_2 := Safe.wr W35 sf32 CR31.1 sf32
    have V35 : Arv Z h35 pa_2 kp_2 .char (Int32.ofNat N__2) ((((List.replicate N__2 (0 : Int32)).set 0 ca0).map Value.int).set (N__2 - 1) (.int (nar .char ca1))) (.int 0) := Arv.set Ar35 qq35 S35 M35 Hh35 U35 (fits_nar_char _) W35 (N__2 - 1) (own_clamp (by omega)) (by simp only [List.length_map, List.length_set, List.length_replicate]; omega)
    have VR35 : Arv Z h35 pa_2 kp_2 .char (Int32.ofNat N__2) ((((List.replicate N__2 (0 : Int32)).set 0 ca0).map Value.int).set (N__2 - 1) (.int ca1)) (.int 0) := by have q := V35; rw [(own_Wn hw1)] at q; exact q
    have R38 : Arv Z h35 pa_2 kp_2 .char (Int32.ofNat N__2) ((((List.replicate N__2 (0 : Int32)).set 0 ca0).set (N__2 - 1) ca1).map Value.int) (.int 0) := by have q := VR35; rw [List.map_set]; exact q
    have pre39 : ∀ t, oS p e below T35 (mkF m 127 #[vI i0, vI i1, vI i2, vI i3, vI i4, vI i5, vI kk6, vR pa_2, vI (Int32.ofNat N__2), vI ((i3 &&& (2147483647 : Int32)) % (Int32.ofNat N__2)), .unset, .unset, .unset, .unset] []) t → oS p e below s₁ (entryFrame m #[(.int i0), (.int i1), (.int i2), (.int i3), (.int i4), (.int i5)] maxLocals) t := fun t kk => pre34 t (by
      refine st35 _ ?_
      show oS p e below T35 (mkF m 118 #[vI i0, vI i1, vI i2, vI i3, vI i4, vI i5, vI kk6, vR pa_2, vI (Int32.ofNat N__2), .unset, .unset, .unset, .unset, .unset] []) _
      refine XS.iloadN X35.here hx rfl (hb hby at_118) rfl ?_
      show oS p e below T35 (mkF m 119 #[vI i0, vI i1, vI i2, vI i3, vI i4, vI i5, vI kk6, vR pa_2, vI (Int32.ofNat N__2), .unset, .unset, .unset, .unset, .unset] [(.int i3)]) _
      refine X35.ldcInt hx hown0 (mvT hZ0 (ow hw 0 rfl)) (g := (mkF m 119 #[vI i0, vI i1, vI i2, vI i3, vI i4, vI i5, vI kk6, vR pa_2, vI (Int32.ofNat N__2), .unset, .unset, .unset, .unset, .unset] [(.int i3)])) rfl (hb hby at_119) _ ?_
      show oS p e below T35 (mkF m 121 #[vI i0, vI i1, vI i2, vI i3, vI i4, vI i5, vI kk6, vR pa_2, vI (Int32.ofNat N__2), .unset, .unset, .unset, .unset, .unset] [(.int 2147483647), (.int i3)]) _
      refine XS.iand X35.here hx rfl (hb hby at_121) rfl ?_
      refine XS.iload X35.here hx rfl (hb hby at_122) rfl ?_
      show oS p e below T35 (mkF m 124 #[vI i0, vI i1, vI i2, vI i3, vI i4, vI i5, vI kk6, vR pa_2, vI (Int32.ofNat N__2), .unset, .unset, .unset, .unset, .unset] [(.int (Int32.ofNat N__2)), (.int (i3 &&& (2147483647 : Int32)))]) _
      refine iremM X35 hx rfl (hb hby at_124) rfl hnz ?_
      show oS p e below T35 (mkF m 125 #[vI i0, vI i1, vI i2, vI i3, vI i4, vI i5, vI kk6, vR pa_2, vI (Int32.ofNat N__2), .unset, .unset, .unset, .unset, .unset] [(.int ((i3 &&& (2147483647 : Int32)) % (Int32.ofNat N__2)))]) _
      refine XS.istore X35.here hx rfl (hb hby at_125) rfl (l' := #[vI i0, vI i1, vI i2, vI i3, vI i4, vI i5, vI kk6, vR pa_2, vI (Int32.ofNat N__2), vI ((i3 &&& (2147483647 : Int32)) % (Int32.ofNat N__2)), .unset, .unset, .unset, .unset]) rfl ?_
      show oS p e below T35 (mkF m 127 #[vI i0, vI i1, vI i2, vI i3, vI i4, vI i5, vI kk6, vR pa_2, vI (Int32.ofNat N__2), vI ((i3 &&& (2147483647 : Int32)) % (Int32.ofNat N__2)), .unset, .unset, .unset, .unset] []) _
      exact kk)
    obtain ⟨pp, h_pp, hb_pp⟩ : ∃ pp : Nat, ((i3 &&& (2147483647 : Int32)) % (Int32.ofNat N__2)) = Int32.ofNat pp ∧ (pp < N__2) := own_modn _ N__2 (by omega) (by omega)
    rw [h_pp] at pre39
    have pre41 : ∀ t, oS p e below T35 (mkF m 137 #[vI i0, vI i1, vI i2, vI i3, vI i4, vI i5, vI kk6, vR pa_2, vI (Int32.ofNat N__2), vI (Int32.ofNat pp), .unset, .unset, .unset, .unset] [(.int ((i4 &&& (65535 : Int32)).toUInt32.toUInt16.toUInt32.toInt32)), (.int (Int32.ofNat pp)), (.ref pa_2)]) t → oS p e below s₁ (entryFrame m #[(.int i0), (.int i1), (.int i2), (.int i3), (.int i4), (.int i5)] maxLocals) t := fun t kk => pre39 t (by
      refine XS.aload X35.here hx rfl (hb hby at_127) rfl rfl ?_
      refine XS.iload X35.here hx rfl (hb hby at_129) rfl ?_
      refine XS.iload X35.here hx rfl (hb hby at_131) rfl ?_
      show oS p e below T35 (mkF m 133 #[vI i0, vI i1, vI i2, vI i3, vI i4, vI i5, vI kk6, vR pa_2, vI (Int32.ofNat N__2), vI (Int32.ofNat pp), .unset, .unset, .unset, .unset] [(.int i4), (.int (Int32.ofNat pp)), (.ref pa_2)]) _
      refine X35.ldcInt hx hown0 (mvT hZ0 (ow hw 43 rfl)) (g := (mkF m 133 #[vI i0, vI i1, vI i2, vI i3, vI i4, vI i5, vI kk6, vR pa_2, vI (Int32.ofNat N__2), vI (Int32.ofNat pp), .unset, .unset, .unset, .unset] [(.int i4), (.int (Int32.ofNat pp)), (.ref pa_2)])) rfl (hb hby at_133) _ ?_
      show oS p e below T35 (mkF m 135 #[vI i0, vI i1, vI i2, vI i3, vI i4, vI i5, vI kk6, vR pa_2, vI (Int32.ofNat N__2), vI (Int32.ofNat pp), .unset, .unset, .unset, .unset] [(.int 65535), (.int i4), (.int (Int32.ofNat pp)), (.ref pa_2)]) _
      refine XS.iand X35.here hx rfl (hb hby at_135) rfl ?_
      refine XS.i2c X35.here hx rfl (hb hby at_136) rfl ?_
      show oS p e below T35 (mkF m 137 #[vI i0, vI i1, vI i2, vI i3, vI i4, vI i5, vI kk6, vR pa_2, vI (Int32.ofNat N__2), vI (Int32.ofNat pp), .unset, .unset, .unset, .unset] [(.int ((i4 &&& (65535 : Int32)).toUInt32.toUInt16.toUInt32.toInt32)), (.int (Int32.ofNat pp)), (.ref pa_2)]) _
      exact kk)
    obtain ⟨ca2, h_ca2⟩ : ∃ z, z = ((i4 &&& (65535 : Int32)).toUInt32.toUInt16.toUInt32.toInt32) := ⟨_, rfl⟩
    rw [← h_ca2] at pre41
    have hw2 : own_W ca2 := by rw [h_ca2]; exact own_i2c _
    obtain ⟨cl42, Ar42, qq42, S42, M42, Hh42, U42⟩ := id R38
    obtain ⟨T42, h42, X42, e42, W42, st42⟩ := stC X35 hx hZ0 e35 Ar42 (j := (Int32.ofNat pp)) (inb_of S42 (own_inb (i := pp) (by omega) (by omega))) (g := (mkF m 137 #[vI i0, vI i1, vI i2, vI i3, vI i4, vI i5, vI kk6, vR pa_2, vI (Int32.ofNat N__2), vI (Int32.ofNat pp), .unset, .unset, .unset, .unset] [(.int ca2), (.int (Int32.ofNat pp)), (.ref pa_2)])) rfl rfl (hb hby at_137)
    have N42 := Fr.snoc X42 N35 ge30
    have CR43 : CHr Z oEL s.vm h0 s.vm h42 := CR36.trans (CHr.wr W42 sf37 CR36.1)
    have sf44 : Safe Z oEL s.vm h42 pa_2 := Safe.wr W42 sf37 CR36.1 sf37
    have V42 : Arv Z h42 pa_2 kp_2 .char (Int32.ofNat N__2) (((((List.replicate N__2 (0 : Int32)).set 0 ca0).set (N__2 - 1) ca1).map Value.int).set pp (.int (nar .char ca2))) (.int 0) := Arv.set Ar42 qq42 S42 M42 Hh42 U42 (fits_nar_char _) W42 pp (own_clamp (by omega)) (by simp only [List.length_map, List.length_set, List.length_replicate]; omega)
    have VR42 : Arv Z h42 pa_2 kp_2 .char (Int32.ofNat N__2) (((((List.replicate N__2 (0 : Int32)).set 0 ca0).set (N__2 - 1) ca1).map Value.int).set pp (.int ca2)) (.int 0) := by have q := V42; rw [(own_Wn hw2)] at q; exact q
    have R45 : Arv Z h42 pa_2 kp_2 .char (Int32.ofNat N__2) (((((List.replicate N__2 (0 : Int32)).set 0 ca0).set (N__2 - 1) ca1).set pp ca2).map Value.int) (.int 0) := by have q := VR42; rw [List.map_set]; exact q
    obtain ⟨cs, hcs⟩ : ∃ z : List Int32, z = ((((List.replicate N__2 (0 : Int32)).set 0 ca0).set (N__2 - 1) ca1).set pp ca2) := ⟨_, rfl⟩
    have hcl : cs.length = N__2 := by rw [hcs]; exact own_set3l
    have hWs : ∀ c ∈ cs, own_W c := by rw [hcs]; exact own_set3W hw0 hw1 hw2
    have R46 : Arv Z h42 pa_2 kp_2 .char (Int32.ofNat cs.length) (cs.map Value.int) (.int 0) := by have q := R45; rw [hcl, hcs]; exact q
    obtain ⟨T47, h47, X47, e47, E47, A47, D47, -, st47⟩ := newO X42 hx hZ0 hown0 (ow hw 2 rfl) (ow hw 3 rfl) (ow hw 4 rfl) e42 (g := (mkF m 138 #[vI i0, vI i1, vI i2, vI i3, vI i4, vI i5, vI kk6, vR pa_2, vI (Int32.ofNat N__2), vI (Int32.ofNat pp), .unset, .unset, .unset, .unset] [])) rfl (hb hby at_138) (by decide) (by decide)
    obtain ⟨b47, g47⟩ : ∃ z, z = h42.size := ⟨_, rfl⟩
    rw [← g47] at A47 D47 st47
    have sf48 : Safe Z oEL s.vm h42 b47 := Safe.new (Nat.le_of_eq g47.symm)
    have CR49 : CHr Z oEL s.vm h0 s.vm h47 := CR43.trans (CHr.ext E47 CR43.1)
    have sf50 : Safe Z oEL s.vm h47 pa_2 := Safe.ext E47 CR43.1 sf44
    have sf51 : Safe Z oEL s.vm h47 b47 := Safe.ext E47 CR43.1 sf48
    have D47_value : fV Z h47 b47 .null := D47 (Or.inr (ow hw 17 rfl)) (ty := (.array .byte)) (by decide)
    have D47_coder : fC Z h47 b47 (.int 0) := D47 (Or.inr (ow hw 18 rfl)) (ty := .byte) (by decide)
    have c52 := (((((q7.keep K2 all0).wr W29 ge30).wr W35 ge30).wr W42 ge30).ext E47)
    have c53 := (R46.ext E47)
    have ge54 : n0 ≤ b47 := Nat.le_trans Z0 (Nat.le_trans (Nat.le_trans (Nat.le_trans (Nat.le_trans K2.1 (Keep.of_wr W29).1) (Keep.of_wr W35).1) (Keep.of_wr W42).1) (Nat.le_of_eq g47.symm))
    obtain ⟨_, _, ⟨T55, L55, k55, n55⟩, -, X55, ⟨Lc55, hQ55, l55, y55, z55⟩, st55⟩ := X47.specialBack hx (y := y_9) rfl hown0 (mvT hZ0 (ow hw 5 rfl)) (mvT hZ0 (ow hw 6 rfl)) (mvT hZ0 (ow hw 7 rfl)) (by decide) (backOf (W := 1) (rm_newS l Z a0 hw [] b47 pa_2 kp_2 cs (.int 0) G fm h47 n0 (Nat.le_trans Z0 (Nat.le_trans (Nat.le_trans (Nat.le_trans (Nat.le_trans K2.1 (Keep.of_wr W29).1) (Keep.of_wr W35).1) (Keep.of_wr W42).1) E47.1)) q0 hCS q2 hFM q4 q5 q6 c52 c53 (by omega) (by omega) (by first | assumption | decide) A47 D47_value D47_coder ge54) hZ0 (ow hw 7 rfl) (ow hw 4 rfl) (by decide) (by decide)) (g := (mkF m 144 #[vI i0, vI i1, vI i2, vI i3, vI i4, vI i5, vI kk6, vR pa_2, vI (Int32.ofNat N__2), vI (Int32.ofNat pp), .unset, .unset, .unset, .unset] [(.ref pa_2), (.ref b47), (.ref b47)])) rfl (by rw [hml]; rfl) (Steps.refl _) (a := b47) (argsL := [(.ref pa_2)]) (rest := [(.ref b47)]) (lenOf pd_39 rfl) rfl (by show 2 * 0 + _ ≤ _; exact Nat.le_of_eq rfl) (hb hby at_144) (fun _ _ => ⟨rfl, e47, (by decide : 2 + 2 ≤ _), (by decide : 48 + 132 ≤ _)⟩)
    dsimp only [Pt.U, Pt.locs, Pt.cells, Pt.slots] at X55 l55 y55 z55 st55 hQ55
    subst l55 y55 z55
    obtain ⟨tt_55, kt_55, cd_55, nn_55, vs_55, rfl, Nq55, K55, f55_0, f55_1, f55_2, f55_3, f55_4⟩ := hQ55
    have N55 := Fr.app N42 Nq55
    have sf56 : Safe Z oEL s.vm h47 tt_55 := Safe.new f55_2
    have CR57 : CHr Z oEL s.vm h0 s.vm T55.heap := CR49.trans (CHr.keep K55 (sfS sf51 sf0) CR49.1)
    have sf58 : Safe Z oEL s.vm T55.heap pa_2 := Safe.keep K55 (sfS sf51 sf0) CR49.1 sf50
    have sf59 : Safe Z oEL s.vm T55.heap b47 := Safe.keep K55 (sfS sf51 sf0) CR49.1 sf51
    have sf60 : Safe Z oEL s.vm T55.heap tt_55 := Safe.keep K55 (sfS sf51 sf0) CR49.1 sf56
    have pre61 : ∀ t, oS p e below T55 (mkF m 147 #[vI i0, vI i1, vI i2, vI i3, vI i4, vI i5, vI kk6, vR pa_2, vI (Int32.ofNat N__2), vI (Int32.ofNat pp), .unset, .unset, .unset, .unset] [(.ref b47)]) t → oS p e below s₁ (entryFrame m #[(.int i0), (.int i1), (.int i2), (.int i3), (.int i4), (.int i5)] maxLocals) t := fun t kk => pre41 t (by
      refine st42 _ ?_
      show oS p e below T42 (mkF m 138 #[vI i0, vI i1, vI i2, vI i3, vI i4, vI i5, vI kk6, vR pa_2, vI (Int32.ofNat N__2), vI (Int32.ofNat pp), .unset, .unset, .unset, .unset] []) _
      refine st47 _ ?_
      show oS p e below T47 (mkF m 141 #[vI i0, vI i1, vI i2, vI i3, vI i4, vI i5, vI kk6, vR pa_2, vI (Int32.ofNat N__2), vI (Int32.ofNat pp), .unset, .unset, .unset, .unset] [(.ref b47)]) _
      refine XS.dup X47.here hx rfl (hb hby at_141) rfl rfl ?_
      refine XS.aload X47.here hx rfl (hb hby at_142) rfl rfl ?_
      refine st55.trans ?_
      show oS p e below T55 (mkF m 147 #[vI i0, vI i1, vI i2, vI i3, vI i4, vI i5, vI kk6, vR pa_2, vI (Int32.ofNat N__2), vI (Int32.ofNat pp), .unset, .unset, .unset, .unset] [(.ref b47)]) _
      exact kk)
    by_cases hG40 : N__2 ≤ 40
    · have c62 : Old Z n0 T55.heap := (c52.keep K55 (allS ge54 all0))
      have c63 := (A47.keep K55)
      obtain ⟨_, _, ⟨T64, L64, k64, n64⟩, -, X64', hS64', hz64', ⟨Lc64, hQ64, l64, y64, z64, ch64⟩, st64⟩ := callSS X55 hx (y := y_57) hown0 (mvT hZ0 (ow hw 23 rfl)) (mvT hZ0 (ow hw 24 rfl)) (mvT hZ0 (ow hw 25 rfl)) (mvT hZ0 (ow hw 26 rfl)) (by decide) (backOfSH (W := 0) (rm_quoS l Z a0 hw [] b47 tt_55 kt_55 cd_55 nn_55 vs_55 cs G fm T55.heap n0 (Nat.le_trans Z0 (Nat.le_trans (Nat.le_trans (Nat.le_trans (Nat.le_trans (Nat.le_trans K2.1 (Keep.of_wr W29).1) (Keep.of_wr W35).1) (Keep.of_wr W42).1) E47.1) K55.1)) q0 hCS q2 hFM q4 q5 q6 c62 c63 f55_0 f55_1 f55_3 (f55_4) (hWs) (by omega) (by omega)) hZ0 (ow hw 26 rfl) (ow hw 25 rfl) (by decide) (by decide) (own_EW hw) CR57.1) (g := (mkF m 151 #[vI i0, vI i1, vI i2, vI i3, vI i4, vI i5, vI kk6, vR pa_2, vI (Int32.ofNat N__2), vR b47, .unset, .unset, .unset, .unset] [(.ref b47)])) rfl (by rw [hml]; rfl) (argsL := [(.ref b47)]) (rest := []) (lenOf pd_40 rfl) rfl (by show 2 * 0 + _ ≤ _; exact Nat.le_of_eq rfl) (hb hby at_151) (fun _ _ => ⟨rfl, rfl, (by decide : 4 + 0 ≤ _), (by decide : 180 + 0 ≤ _)⟩)
      dsimp only [Pt.U, Pt.locs, Pt.cells, Pt.slots] at X64' l64 y64 z64 st64 hQ64 hS64' hz64' ch64
      subst l64 y64 z64
      obtain ⟨rfl, Nq64, K64⟩ := hQ64
      have N64 := Fr.app N55 Nq64
      obtain ⟨X64, hS64, hZ64, hown64⟩ := rebS hS0 (Nat.le_trans hk0 (Nat.le_trans (Nat.le_trans (Nat.le_trans (Nat.le_trans (Nat.le_trans K2.1 (Keep.of_wr W29).1) (Keep.of_wr W35).1) (Keep.of_wr W42).1) E47.1) K55.1)) X64' hS64' hz64' hZ0 hown0
      have CR65 : CHr Z oEL s.vm h0 T64.vm T64.heap := CR57.trans ch64
      have sf66 : Safe Z oEL T64.vm T64.heap pa_2 := ch64.safe (Nat.lt_of_lt_of_le c53.lt K55.1) sf58
      have sf67 : Safe Z oEL T64.vm T64.heap b47 := ch64.safe c63.lt sf59
      have sf68 : Safe Z oEL T64.vm T64.heap tt_55 := ch64.safe f55_3.lt sf60
      have c69 := (c63.keep K64)
      obtain ⟨cq70, kq70, q70a, q70b, q70c⟩ := isOf hZ64 rfl c69
      obtain ⟨_, _, ⟨T70, L70, k70, n70⟩, -, X70, ⟨Lc70, hQ70, l70, y70, z70⟩, st70⟩ := X64.virtualBack hx (y := y_58) (z := y_58) hown64 (mvT hZ64 (ow hw 38 rfl)) (mvT hZ64 (ow hw 39 rfl)) (notFace_of_selects (args := #[]) (mvT hZ64 (ow hw 41 rfl))) (mvT hZ64 (ow hw 41 rfl)) (mvT hZ64 (ow hw 40 rfl)) (by decide) (backOf (W := 0) (rm_eqS l Z a0 hw [] b47 T64.heap n0 (Nat.le_trans Z0 (Nat.le_trans (Nat.le_trans (Nat.le_trans (Nat.le_trans (Nat.le_trans (Nat.le_trans K2.1 (Keep.of_wr W29).1) (Keep.of_wr W35).1) (Keep.of_wr W42).1) E47.1) K55.1) K64.1)) ) hZ64 (ow hw 42 rfl) (ow hw 4 rfl) (by decide) (by decide)) q70a q70c (g := (mkF m 174 #[vI i0, vI i1, vI i2, vI i3, vI i4, vI i5, vI kk6, vR pa_2, vI (Int32.ofNat N__2), vR b47, vR b47, .unset, .unset, .unset] [(.ref b47), (.ref b47)])) rfl (by rw [hml]; rfl) (Steps.refl _) (argsL := [(.ref b47)]) (rest := []) (lenOf pd_41 rfl) rfl (by show 2 * 0 + _ ≤ _; exact Nat.le_of_eq rfl) (hb hby at_174) (fun _ _ => ⟨rfl, rfl, (by decide : 4 + 0 ≤ _), (by decide : 180 + 0 ≤ _)⟩)
      dsimp only [Pt.U, Pt.locs, Pt.cells, Pt.slots] at X70 l70 y70 z70 st70 hQ70
      subst l70 y70 z70
      obtain ⟨rfl, Nq70, e70⟩ := hQ70
      have N70 := Fr.app N64 Nq70
      obtain ⟨fs, hr, hrun, hended, hEnd⟩ := X70.leaveW hS64 (by rw [e70]; exact (Nat.le_refl _)) (v := some (.int 1)) (fun h => by rw [Bd.returns] at h; cases h)
      refine ⟨_, _, pre61 _ ?_, hrun, hended, _, _, rfl, ?_, hEnd.1, hEnd.2.1, hEnd.2.2.1, hEnd.2.2.2.mono (by decide) (by decide)⟩
      · refine XS.astore X55.here hx rfl (hb hby at_147) rfl rfl (l' := #[vI i0, vI i1, vI i2, vI i3, vI i4, vI i5, vI kk6, vR pa_2, vI (Int32.ofNat N__2), vR b47, .unset, .unset, .unset, .unset]) rfl ?_
        refine XS.aload X55.here hx rfl (hb hby at_149) rfl rfl ?_
        refine st64.trans ?_
        show oS p e below T64 (mkF m 154 #[vI i0, vI i1, vI i2, vI i3, vI i4, vI i5, vI kk6, vR pa_2, vI (Int32.ofNat N__2), vR b47, .unset, .unset, .unset, .unset] [(.ref b47)]) _
        refine XS.astore X64.here hx rfl (hb hby at_154) rfl rfl (l' := #[vI i0, vI i1, vI i2, vI i3, vI i4, vI i5, vI kk6, vR pa_2, vI (Int32.ofNat N__2), vR b47, vR b47, .unset, .unset, .unset]) rfl ?_
        refine XS.aload X64.here hx rfl (hb hby at_156) rfl rfl ?_
        refine XS.ifnonnullYes X64.here hx rfl (pc0 := 158) (pc' := 163) rfl (hb hby at_158) rfl (by decide) (by decide) ?_
        refine XS.iload X64.here hx rfl (hb hby at_163) rfl ?_
        refine XS.bipush X64.here hx rfl (hb hby at_165) ?_
        show oS p e below T64 (mkF m 167 #[vI i0, vI i1, vI i2, vI i3, vI i4, vI i5, vI kk6, vR pa_2, vI (Int32.ofNat N__2), vR b47, vR b47, .unset, .unset, .unset] [(.int 40), (.int (Int32.ofNat N__2))]) _
        refine XS.icmpNo X64.here hx rfl (hb hby at_167) rfl (flt ((own_nlt (i := 40) (by omega) (by omega)) : ¬ ((40 : Int32) < (Int32.ofNat N__2)))).2.2.1 ?_
        refine XS.aload X64.here hx rfl (hb hby at_170) rfl rfl ?_
        refine XS.aload X64.here hx rfl (hb hby at_172) rfl rfl ?_
        refine st70.trans ?_
        show oS p e below T70 (mkF m 177 #[vI i0, vI i1, vI i2, vI i3, vI i4, vI i5, vI kk6, vR pa_2, vI (Int32.ofNat N__2), vR b47, vR b47, .unset, .unset, .unset] [(.int 1)]) _
        exact retN X70 hx (t := .boolean) Bd.returns (by simp) (hb hby at_177) hr
      · show Q_law Z i0 i1 i2 i3 i4 i5 G fm h0 n0 _ T70.heap _
        rw [e70]
        exact ⟨rfl, N70⟩
    · have c71 : Old Z n0 T55.heap := (c52.keep K55 (allS ge54 all0))
      have c72 := (A47.keep K55)
      obtain ⟨_, _, ⟨T73, L73, k73, n73⟩, -, X73', hS73', hz73', ⟨Lc73, hQ73, l73, y73, z73, ch73⟩, st73⟩ := callSS X55 hx (y := y_57) hown0 (mvT hZ0 (ow hw 23 rfl)) (mvT hZ0 (ow hw 24 rfl)) (mvT hZ0 (ow hw 25 rfl)) (mvT hZ0 (ow hw 26 rfl)) (by decide) (backOfSH (W := 0) (rm_quoL l Z a0 hw [] b47 tt_55 kt_55 cd_55 nn_55 vs_55 cs G fm T55.heap n0 (Nat.le_trans Z0 (Nat.le_trans (Nat.le_trans (Nat.le_trans (Nat.le_trans (Nat.le_trans K2.1 (Keep.of_wr W29).1) (Keep.of_wr W35).1) (Keep.of_wr W42).1) E47.1) K55.1)) q0 hCS q2 hFM q4 q5 q6 c71 c72 f55_0 f55_1 f55_3 (f55_4) (hWs) (by omega) (by omega) (by omega)) hZ0 (ow hw 26 rfl) (ow hw 25 rfl) (by decide) (by decide) (own_EW hw) CR57.1) (g := (mkF m 151 #[vI i0, vI i1, vI i2, vI i3, vI i4, vI i5, vI kk6, vR pa_2, vI (Int32.ofNat N__2), vR b47, .unset, .unset, .unset, .unset] [(.ref b47)])) rfl (by rw [hml]; rfl) (argsL := [(.ref b47)]) (rest := []) (lenOf pd_40 rfl) rfl (by show 2 * 0 + _ ≤ _; exact Nat.le_of_eq rfl) (hb hby at_151) (fun _ _ => ⟨rfl, rfl, (by decide : 4 + 12 ≤ _), (by decide : 180 + 676 ≤ _)⟩)
      dsimp only [Pt.U, Pt.locs, Pt.cells, Pt.slots] at X73' l73 y73 z73 st73 hQ73 hS73' hz73' ch73
      subst l73 y73 z73
      obtain ⟨xr_73, tt_73, kt_73, cq_73, nq_73, vq_73, rfl, Nq73, K73, f73_0, f73_1, f73_2, f73_3, f73_4, f73_5⟩ := hQ73
      have N73 := Fr.app N55 Nq73
      obtain ⟨X73, hS73, hZ73, hown73⟩ := rebS hS0 (Nat.le_trans hk0 (Nat.le_trans (Nat.le_trans (Nat.le_trans (Nat.le_trans (Nat.le_trans K2.1 (Keep.of_wr W29).1) (Keep.of_wr W35).1) (Keep.of_wr W42).1) E47.1) K55.1)) X73' hS73' hz73' hZ0 hown0
      have CR74 : CHr Z oEL s.vm h0 T73.vm T73.heap := CR57.trans ch73
      have sf75 : Safe Z oEL T73.vm T73.heap pa_2 := ch73.safe (Nat.lt_of_lt_of_le c53.lt K55.1) sf58
      have sf76 : Safe Z oEL T73.vm T73.heap b47 := ch73.safe c72.lt sf59
      have sf77 : Safe Z oEL T73.vm T73.heap tt_55 := ch73.safe f55_3.lt sf60
      have hpl : (cs.take 40).length = 40 := own_take40 (by omega)
      have hr43 : (cs.take 40 ++ own_dots).length = 43 := own_rs43 hpl
      have hbr : ∀ c ∈ (cs.take 40 ++ own_dots), ¬ c < 0 ∧ ¬ (65535 : Int32) < c := fun c hc => (List.mem_append.mp hc).elim (fun q => hWs c (List.mem_of_mem_take q)) (fun q => (own_dotsW c q).1)
      have pre78 : ∀ t, oS p e below T73 (mkF m 178 #[vI i0, vI i1, vI i2, vI i3, vI i4, vI i5, vI kk6, vR pa_2, vI (Int32.ofNat N__2), vR b47, vR xr_73, .unset, .unset, .unset] []) t → oS p e below s₁ (entryFrame m #[(.int i0), (.int i1), (.int i2), (.int i3), (.int i4), (.int i5)] maxLocals) t := fun t kk => pre61 t (by
        refine XS.astore X55.here hx rfl (hb hby at_147) rfl rfl (l' := #[vI i0, vI i1, vI i2, vI i3, vI i4, vI i5, vI kk6, vR pa_2, vI (Int32.ofNat N__2), vR b47, .unset, .unset, .unset, .unset]) rfl ?_
        refine XS.aload X55.here hx rfl (hb hby at_149) rfl rfl ?_
        refine st73.trans ?_
        show oS p e below T73 (mkF m 154 #[vI i0, vI i1, vI i2, vI i3, vI i4, vI i5, vI kk6, vR pa_2, vI (Int32.ofNat N__2), vR b47, .unset, .unset, .unset, .unset] [(.ref xr_73)]) _
        refine XS.astore X73.here hx rfl (hb hby at_154) rfl rfl (l' := #[vI i0, vI i1, vI i2, vI i3, vI i4, vI i5, vI kk6, vR pa_2, vI (Int32.ofNat N__2), vR b47, vR xr_73, .unset, .unset, .unset]) rfl ?_
        refine XS.aload X73.here hx rfl (hb hby at_156) rfl rfl ?_
        refine XS.ifnonnullYes X73.here hx rfl (pc0 := 158) (pc' := 163) rfl (hb hby at_158) rfl (by decide) (by decide) ?_
        refine XS.iload X73.here hx rfl (hb hby at_163) rfl ?_
        refine XS.bipush X73.here hx rfl (hb hby at_165) ?_
        show oS p e below T73 (mkF m 167 #[vI i0, vI i1, vI i2, vI i3, vI i4, vI i5, vI kk6, vR pa_2, vI (Int32.ofNat N__2), vR b47, vR xr_73, .unset, .unset, .unset] [(.int 40), (.int (Int32.ofNat N__2))]) _
        refine XS.icmpYes X73.here hx rfl (pc0 := 167) (pc' := 178) rfl (hb hby at_167) rfl (tlt ((own_inb (i := 40) (by omega) (by omega)).2 : (40 : Int32) < (Int32.ofNat N__2))).2.2.1 (by decide) (by decide) ?_
        show oS p e below T73 (mkF m 178 #[vI i0, vI i1, vI i2, vI i3, vI i4, vI i5, vI kk6, vR pa_2, vI (Int32.ofNat N__2), vR b47, vR xr_73, .unset, .unset, .unset] []) _
        exact kk)
      have c79 := (f55_0.keep K73 nin0)
      have c80 := (f55_1.keep K73 nin0)
      have c81 := (f55_3.keep K73 nin0)
      have c82 := (c72.keep K73)
      have c83 := (c71.keep K73 all0)
      have preh84 : ∀ t, oS p e below T73 (mkF m 178 #[vI i0, vI i1, vI i2, vI i3, vI i4, vI i5, vI kk6, vR pa_2, vI (Int32.ofNat N__2), vR b47, vR xr_73, .unset, .unset, .unset] []) t → oS p e below s₁ (entryFrame m #[(.int i0), (.int i1), (.int i2), (.int i3), (.int i4), (.int i5)] maxLocals) t := by
        exact pre78
      obtain ⟨qq_84, T84, h84, lo84, X84, e84, N84, K84, st84⟩ := lp_tail (i0) (i1) (i2) (i3) (i4) (i5) (kk6) (pa_2) ((Int32.ofNat N__2)) (b47) (xr_73) (tt_55) (kt_55) (nn_55) (vs_55) (cd_55) (tt_73) (kt_73) (nq_73) (vq_73) (cq_73) (cs) (pp) (G) (fm) hx hZ73 hw hby hml hown73 (by decide : 16 ≤ _) (by decide : 856 ≤ _) (by decide) (by decide) q0 hCS q2 hFM q4 q5 q6 (f55_4) (hWs) (by omega) (f73_5) (hbr) (by omega) (by omega) (by omega) (by rw [hcl]) (h_pp) (by omega) 0  T73 T73.heap _ X73 rfl N73 (Nat.le_trans Z0 (Nat.le_trans (Nat.le_trans (Nat.le_trans (Nat.le_trans (Nat.le_trans (Nat.le_trans K2.1 (Keep.of_wr W29).1) (Keep.of_wr W35).1) (Keep.of_wr W42).1) E47.1) K55.1) K73.1)) c82 c79 c80 c81 f73_1 f73_2 f73_3 f73_4 c83 (rfl)
      obtain ⟨fs, hr, hrun, hended, hEnd⟩ := X84.leaveW hS73 (by rw [e84]; exact (Nat.le_trans (Nat.le_refl _) K84.1)) (v := some (.int 1)) (fun h => by rw [Bd.returns] at h; cases h)
      refine ⟨_, _, preh84 _ ?_, hrun, hended, _, _, rfl, ?_, hEnd.1, hEnd.2.1, hEnd.2.2.1, hEnd.2.2.2.mono (by decide) (by decide)⟩
      · refine st84 _ ?_
        show oS p e below T84 (mkF m 337 #[vI i0, vI i1, vI i2, vI i3, vI i4, vI i5, vI kk6, vR pa_2, vI (Int32.ofNat N__2), vR b47, vR xr_73, vI (Int32.ofNat qq_84), vI (Int32.ofNat pp), vI 1] [(.int 1)]) _
        exact retN X84 hx (t := .boolean) Bd.returns (by simp) (hb hby at_337) hr
      · show Q_law Z i0 i1 i2 i3 i4 i5 G fm h0 n0 _ T84.heap _
        rw [e84]
        exact ⟨rfl, N84⟩
set_option maxRecDepth 65536 in
set_option maxHeartbeats 40000000 in
theorem comes_1 {Post : Tables → Env → Array Value → State → Outcome → State → Prop} (hpost : ∀ tb e args s v u, (limb_1_1.after args s (.returned v) u = true ∧ limb_1_2.after args s (.returned v) u = true ∧ True) → ReturnedEndW s (.returned v) u (Jvm.fieldLocs frame_1_writes args s ++ Jvm.arrayLocs frame_1_arrays args s ++ Jvm.staticLocs frame_1_statics s) 40 3520 → Post tb e args s (.returned v) u) :
    ArmFor flags0 classFile x code maxLocals ret World_1 tables_1 room_1 Calls_1 rest_1 Pre_1 Post := by
  intro l hfl _ _ p e ha hc hk s m args below hf hA hF happ hP
  obtain ⟨hcalls, hrest, hpre⟩ := hP
  obtain ⟨-, -, -, hnamed, -, -, -, hat⟩ := (Spec.applies_iff hf).mp happ
  obtain ⟨hg, hn⟩ := and_e (Cond.before_iff.mp (show (Jvm.Cond.and given_1 narrow_1).before args s = true from hpre))
  obtain ⟨hcount, hg0⟩ := and_e hg
  obtain ⟨ha0, hg1⟩ := and_e hg0
  obtain ⟨ha1, hg2⟩ := and_e hg1
  obtain ⟨ha2, hg3⟩ := and_e hg2
  obtain ⟨ha3, hg4⟩ := and_e hg3
  obtain ⟨ha4, hg5⟩ := and_e hg4
  obtain ⟨w0, w1, w2, w3, w4, w5, rfl⟩ : ∃ w0 w1 w2 w3 w4 w5 : Value, args = #[w0, w1, w2, w3, w4, w5] := by
    have hs : args.size = 6 := by simpa [Cond.value, given_1] using hcount
    obtain ⟨L⟩ := args
    match L, hs with
    | [w0, w1, w2, w3, w4, w5], _ => exact ⟨w0, w1, w2, w3, w4, w5, rfl⟩
  have hw := fun d (hd : d ∈ tables_1) => atoms_spec (ws := Jvm.Cond.code x code maxLocals ret :: tables_1) hat d (List.mem_cons_of_mem _ hd)
  obtain ⟨hsets, hown0⟩ := atoms_of _ (rest_1_c_eq ▸ (show rest_1_c.before _ s = true from hrest))
  have hfit : Fit s := fun {y c} hc i hi => by
    obtain ⟨ha, rfl⟩ := Array.getElem?_eq_some_iff.mp hc
    have q := List.all_eq_true.mp ((Array.all_eq_true_iff_forall_mem.mp hF) _ (Array.getElem_mem ha)) i (List.mem_range.mpr hi)
    simpa [Array.getElem?_eq_getElem hi] using q
  obtain ⟨i0, ei0⟩ := is_v ha0
  obtain rfl : w0 = (.int i0) := Option.some.inj ei0
  obtain ⟨i1, ei1⟩ := is_v ha1
  obtain rfl : w1 = (.int i1) := Option.some.inj ei1
  obtain ⟨i2, ei2⟩ := is_v ha2
  obtain rfl : w2 = (.int i2) := Option.some.inj ei2
  obtain ⟨i3, ei3⟩ := is_v ha3
  obtain rfl : w3 = (.int i3) := Option.some.inj ei3
  obtain ⟨i4, ei4⟩ := is_v ha4
  obtain rfl : w4 = (.int i4) := Option.some.inj ei4
  obtain ⟨i5, ei5⟩ := is_v hg5
  obtain rfl : w5 = (.int i5) := Option.some.inj ei5
  have nz0 := not_v (Cond.before_iff.mp (hsets _ (List.mem_of_getElem? (i := 2) rfl)))
  obtain ⟨G, eG⟩ := is_v (Cond.before_iff.mp (hsets _ (List.mem_of_getElem? (i := 1) rfl)))
  have SG : Sta s s.heap "java/lang/String" "COMPACT_STRINGS" "Z" (.int G) := Sta.start eG (Or.inl (hsets _ (List.mem_of_getElem? (i := 0) rfl)))
  have nz : ¬ (G = (0 : Int32)) := gotF (Cond.eq_ints eG (Term.int_eval (0))) nz0
  obtain ⟨fm, efm, hfm⟩ := isR_v (Cond.before_iff.mp (hsets _ (List.mem_of_getElem? (i := 8) rfl)))
  have SF : Sta s s.heap "jdk/internal/util/Preconditions" "SIOOBE_FORMATTER" "Ljava/util/function/BiFunction;" fm := Sta.start efm (Or.inl (hsets _ (List.mem_of_getElem? (i := 7) rfl)))
  have SUA : Sta s s.heap "java/lang/StringUTF16" "$assertionsDisabled" "Z" (.int 1) := Sta.start (eqv_i (Term.int_eval (1)) (Cond.before_iff.mp (hsets _ (List.mem_of_getElem? (i := 12) rfl)))) (Or.inl (hsets _ (List.mem_of_getElem? (i := 11) rfl)))
  have SUH : Sta s s.heap "java/lang/StringUTF16" "HI_BYTE_SHIFT" "I" (.int 0) := Sta.start (eqv_i (Term.int_eval (0)) (Cond.before_iff.mp (hsets _ (List.mem_of_getElem? (i := 15) rfl)))) (Or.inl (hsets _ (List.mem_of_getElem? (i := 14) rfl)))
  have SUL : Sta s s.heap "java/lang/StringUTF16" "LO_BYTE_SHIFT" "I" (.int 8) := Sta.start (eqv_i (Term.int_eval (8)) (Cond.before_iff.mp (hsets _ (List.mem_of_getElem? (i := 18) rfl)))) (Or.inl (hsets _ (List.mem_of_getElem? (i := 17) rfl)))
  have CHs : CHv s oEL s.vm s.heap := CHv.start (own_EW hw) (fun p hp => by simp only [List.mem_cons, List.not_mem_nil, or_false] at hp; rcases hp with rfl | rfl <;> first | exact hcalls.1 _ (List.mem_of_getElem? (i := 0) rfl) | exact hcalls.1 _ (List.mem_of_getElem? (i := 1) rfl)) (hsets _ (List.mem_of_getElem? (i := 2) rfl)) (ow hw 16 rfl) (ow hw 3 rfl)
  obtain ⟨n, o, h1, h2, h3, _, L, rfl, ⟨rfl, N⟩, hq⟩ := rm_law l s _ hw tables_1 i0 i1 i2 i3 i4 i5 G fm s.heap s.heap.size (Nat.le_refl _) SG nz SF hfm SUA SUH SUL (Old.start s) p e ha hc hk s m _ below hf ((Spec.applies_iff_loose hf).mp happ).1 ⟨rfl, State.Warmed39.refl s, rfl, CHs⟩ trivial
  refine ⟨n, _, h1, h2, h3, hpost _ _ _ _ _ _ ⟨Cond.after_iff.mpr rfl, Cond.after_iff.mpr (eq_i res_at (Term.int_eval (1)) rfl), trivial⟩ ⟨hq.1, hq.2.1, hq.2.2.1, (hq.2.2.2.sift fun y hy => Or.inr (N y hy)).mono (by decide) (by decide)⟩⟩
theorem main_1_1 : Claimed_1_1 := comes_1 fun _ _ _ _ _ _ h hF => ⟨h.1, hF⟩
theorem main_1_2 : Claimed_1_2 := comes_1 fun _ _ _ _ _ _ h hF => ⟨h.2.1, hF⟩
end Jvm.Pilot.@@N@@
namespace Jvm.Pilot.@@N@@
open Jvm Jvm.ClassFile Sem Op Lib Jvm.Free Jvm.Stand Jvm.Pilot.@@N@@.Jvm.D
/-! MADE BY PROGRAM (witnessworld.py) out of the Statement's table words and the real class files: 29 classes; the members and pool entries that the words name. The judged class is class 1, her method 1. -/
namespace start1
open Jvm.ClassFile
def u (s : String) : CpInfo := .utf8 (stringToUtf16 s)
/-- a pool by its gaps: so many unusable entries, then the entry; so many at the end -/
def gap : Nat → List CpInfo → List CpInfo
  | 0, r => r
  | n + 1, r => .unusable :: gap n r
def poolList (es : List (Nat × CpInfo)) (last : Nat) : List CpInfo := es.foldr (fun e r => gap e.1 (e.2 :: r)) (gap last [])
def pool (es : List (Nat × CpInfo)) (last : Nat) : Array CpInfo := ⟨poolList es last⟩
def fileOf (pool : Array CpInfo) (this : Nat) (attrs : Array Attribute := #[]) (ms : Array MethodInfo := #[]) (fl : Nat := 33) (sup : Nat := 0) (ifs : Array Nat := #[]) (fds : Array FieldInfo := #[]) : ClassFile where
  minorVersion := 0
  majorVersion := 65
  constantPool := pool
  accessFlags := fl
  thisClass := this
  superClass := sup
  interfaces := ifs
  fields := fds
  methods := ms
  attributes := attrs
def plain (name : String) (sup : Option ClassId) : Class where
  name := name
  kind := .ordinary
  loader := none
  accessFlags := 33
  super := sup
  interfaces := #[]
  cf := none
  fields := #[]
  methods := #[]
  instanceTypes := #[]
  staticTypes := #[]
  resolved := #[]
  callSites := []
  init := .initialized
  statics := none
  mirror := none

def pool0 : Array CpInfo := pool [(5, u "<init>"), (0, u "()V"), (1, .class_ 10), (1, u "java/lang/Object")] 113

def k0c0 : Code := { maxStack := 0, maxLocals := 1, code := object_method_1_code, exceptionTable := #[], attributes := #[] }
def k0m0 : Method := { name := "<init>", desc := "()V", sig := { parameters := [], returnType := none }, accessFlags := 1, code := some k0c0 }
/-- java/lang/Object -/
def k0 : Class := { plain "java/lang/Object" none with
  accessFlags := 33
  interfaces := #[]
  cf := some (fileOf pool0 8 #[] #[{ accessFlags := 1, nameIndex := 5, descriptorIndex := 6, attributes := #[] }] 33 0 #[] #[])
  fields := #[]
  methods := #[k0m0]
  instanceTypes := #[]
  staticTypes := #[]
  resolved := Array.replicate 124 none
  statics := none }

def pool1 : Array CpInfo := pool [(2, .class_ 4), (1, u "java/lang/Object"), (0, u "<init>"), (0, u "()V"), (0, .integer 2147483647), (0, .integer 65535), (0, .class_ 10), (0, u "java/lang/String"), (0, .methodref 9 12), (0, .nameAndType 5 13), (0, u "([C)V"), (0, .methodref 15 16), (0, .class_ 17), (0, .nameAndType 18 19), (0, u "com/example/holdfast/holdfast/InvalidInputException"), (0, u "quoted"), (0, u "(Ljava/lang/String;)Ljava/lang/String;"), (0, .methodref 9 21), (0, .nameAndType 22 23), (0, u "equals"), (0, u "(Ljava/lang/Object;)Z"), (0, .methodref 9 25), (0, .nameAndType 26 27), (0, u "length"), (0, u "()I"), (0, .methodref 9 29), (0, .nameAndType 30 31), (0, u "charAt"), (0, u "(I)C"), (0, .class_ 33), (0, u "com/example/holdfast/holdfast/InvalidInputExceptionQuotedPinLaw"), (2, u "law"), (0, u "(IIIIII)Z")] 5

def k1m0 : Method := { name := "<init>", desc := "()V", sig := { parameters := [], returnType := none }, accessFlags := 1, code := none }
def k1c1 : Code := { maxStack := 4, maxLocals := 14, code := code, exceptionTable := #[], attributes := #[] }
def k1m1 : Method := { name := "law", desc := "(IIIIII)Z", sig := { parameters := [.int, .int, .int, .int, .int, .int], returnType := some .boolean }, accessFlags := 9, code := some k1c1 }
/-- com/example/holdfast/holdfast/InvalidInputExceptionQuotedPinLaw -/
def k1 : Class := { plain "com/example/holdfast/holdfast/InvalidInputExceptionQuotedPinLaw" (some 0) with
  accessFlags := 49
  interfaces := #[]
  cf := some (fileOf pool1 32 #[] #[{ accessFlags := 1, nameIndex := 5, descriptorIndex := 6, attributes := #[] }, { accessFlags := 9, nameIndex := 36, descriptorIndex := 37, attributes := #[] }] 49 2 #[] #[])
  fields := #[]
  methods := #[k1m0, k1m1]
  instanceTypes := #[]
  staticTypes := #[]
  resolved := Array.replicate 43 none
  statics := none }

def pool2 : Array CpInfo := pool [(1, .class_ 2), (0, u "java/io/Serializable"), (0, .class_ 4), (0, u "java/lang/Object")] 2

/-- java/io/Serializable -/
def k2 : Class := { plain "java/io/Serializable" (some 0) with
  accessFlags := 1537
  interfaces := #[]
  cf := some (fileOf pool2 1 #[] #[] 1537 3 #[] #[])
  fields := #[]
  methods := #[]
  instanceTypes := #[]
  staticTypes := #[]
  resolved := Array.replicate 7 none
  statics := none }

def pool3 : Array CpInfo := pool [(1, .class_ 2), (0, u "java/lang/Comparable"), (0, .class_ 4), (0, u "java/lang/Object")] 7

/-- java/lang/Comparable -/
def k3 : Class := { plain "java/lang/Comparable" (some 0) with
  accessFlags := 1537
  interfaces := #[]
  cf := some (fileOf pool3 1 #[] #[] 1537 3 #[] #[])
  fields := #[]
  methods := #[]
  instanceTypes := #[]
  staticTypes := #[]
  resolved := Array.replicate 12 none
  statics := none }

def pool4 : Array CpInfo := pool [(2, .class_ 4), (1, u "java/lang/CharSequence"), (42, .class_ 48), (0, u "java/lang/CharSequence$1CodePointIterator"), (10, .class_ 60), (0, u "java/lang/CharSequence$1CharIterator"), (5, .class_ 67), (0, u "java/lang/Object")] 63

/-- java/lang/CharSequence -/
def k4 : Class := { plain "java/lang/CharSequence" (some 0) with
  accessFlags := 1537
  interfaces := #[]
  cf := some (fileOf pool4 2 #[.nestMembers #[47, 59]] #[] 1537 66 #[] #[])
  fields := #[]
  methods := #[]
  instanceTypes := #[]
  staticTypes := #[]
  resolved := Array.replicate 131 none
  statics := none }

def pool5 : Array CpInfo := pool [(1, .class_ 2), (0, u "java/lang/constant/Constable"), (0, .class_ 4), (0, u "java/lang/Object")] 6

/-- java/lang/constant/Constable -/
def k5 : Class := { plain "java/lang/constant/Constable" (some 0) with
  accessFlags := 1537
  interfaces := #[]
  cf := some (fileOf pool5 1 #[] #[] 1537 3 #[] #[])
  fields := #[]
  methods := #[]
  instanceTypes := #[]
  staticTypes := #[]
  resolved := Array.replicate 11 none
  statics := none }

def pool6 : Array CpInfo := pool [(1, .class_ 2), (0, u "java/lang/constant/ConstantDesc"), (0, .class_ 4), (0, u "java/lang/Object")] 32

/-- java/lang/constant/ConstantDesc -/
def k6 : Class := { plain "java/lang/constant/ConstantDesc" (some 0) with
  accessFlags := 1537
  interfaces := #[]
  cf := some (fileOf pool6 1 #[] #[] 1537 3 #[] #[])
  fields := #[]
  methods := #[]
  instanceTypes := #[]
  staticTypes := #[]
  resolved := Array.replicate 37 none
  statics := none }

def pool7 : Array CpInfo := pool [(1, .methodref 2 3), (0, .class_ 4), (0, .nameAndType 5 6), (0, u "java/lang/Object"), (0, u "<init>"), (0, u "()V"), (0, .string 8), (0, u ""), (0, .fieldref 10 11), (0, .class_ 12), (0, .nameAndType 13 14), (0, u "java/lang/String"), (0, u "value"), (0, u "[B"), (0, .fieldref 10 16), (0, .nameAndType 17 18), (0, u "coder"), (0, u "B"), (2, u "hash"), (0, u "I"), (2, u "hashIsZero"), (0, u "Z"), (0, .methodref 10 28), (0, .nameAndType 5 29), (0, u "([CIILjava/lang/Void;)V"), (6, u "checkBoundsOffCount"), (0, u "(III)I"), (0, .fieldref 10 39), (0, .nameAndType 40 26), (0, u "COMPACT_STRINGS"), (1, .class_ 44), (1, u "java/lang/StringUTF16"), (0, u "compress"), (1, .methodref 42 48), (0, .nameAndType 49 50), (0, u "coderFromArrayLen"), (0, u "([BI)B"), (3, .methodref 55 56), (0, .class_ 57), (0, .nameAndType 58 59), (0, u "java/util/Arrays"), (0, u "copyOfRange"), (0, u "([BII)[B"), (46, .methodref 107 108), (0, .class_ 109), (0, .nameAndType 110 111), (0, u "java/lang/StringLatin1"), (0, u "inflate"), (0, u "([BI[BII)V"), (30, u "()Z"), (34, .methodref 42 178), (0, .nameAndType 45 179), (0, u "([CII)[B"), (13, .class_ 195), (1, u "java/lang/System"), (15, u "([BB)V"), (0, .methodref 193 213), (0, .nameAndType 214 215), (0, u "arraycopy"), (0, u "(Ljava/lang/Object;ILjava/lang/Object;II)V"), (118, u "()I"), (0, .methodref 10 336), (0, .nameAndType 17 337), (0, u "()B"), (2, u "()[B"), (22, u "([BI)C"), (27, u "(II)V"), (35, u "(I)C"), (61, .methodref 10 490), (0, .nameAndType 5 491), (0, u "(Ljava/lang/AbstractStringBuilder;Ljava/lang/Void;)V"), (0, .methodref 10 493), (0, .nameAndType 494 142), (0, u "isLatin1"), (0, .methodref 107 496), (0, .nameAndType 497 363), (0, u "charAt"), (0, .methodref 42 496), (2, u "checkIndex"), (3, .methodref 10 506), (0, .nameAndType 507 334), (0, u "length"), (5, u "checkFromToIndex"), (7, .methodref 10 522), (0, .nameAndType 523 524), (0, u "checkBoundsBeginEnd"), (0, u "(III)V"), (7, u "getBytes"), (10, u "equals"), (5, .methodref 550 506), (0, .class_ 551), (0, u "java/lang/AbstractStringBuilder"), (0, .methodref 550 553), (0, .nameAndType 554 340), (0, u "getValue"), (18, u "(Ljava/lang/Object;)Z"), (1, .class_ 576), (0, u "java/lang/CharSequence"), (22, u "CASE_INSENSITIVE_ORDER"), (0, u "Ljava/util/Comparator;"), (82, u "substring"), (0, u "(II)Ljava/lang/String;"), (0, .methodref 107 686), (0, .nameAndType 687 688), (0, u "newString"), (0, u "([BII)Ljava/lang/String;"), (0, .methodref 42 686), (131, u "([BIB)V"), (188, u "([C)V"), (36, .methodref 550 493), (0, .fieldref 550 1049), (0, .nameAndType 1050 26), (0, u "maybeLatin1"), (2, .fieldref 1054 1055), (0, .class_ 1056), (0, .nameAndType 1057 1058), (0, u "jdk/internal/util/Preconditions"), (0, u "SIOOBE_FORMATTER"), (0, u "Ljava/util/function/BiFunction;"), (0, .methodref 1054 1060), (0, .nameAndType 501 1061), (0, u "(IILjava/util/function/BiFunction;)I"), (0, .methodref 1054 1063), (0, .nameAndType 513 1064), (0, u "(IIILjava/util/function/BiFunction;)I"), (0, .methodref 1054 1066), (0, .nameAndType 1067 1064), (0, u "checkFromIndexSize"), (33, u "serialPersistentFields"), (0, u "[Ljava/io/ObjectStreamField;"), (0, .class_ 1104), (0, u "java/lang/String$CaseInsensitiveComparator"), (1, .class_ 1107), (0, u "java/io/Serializable"), (0, .class_ 1109), (0, u "java/lang/Comparable"), (0, .class_ 1111), (0, u "java/lang/constant/Constable"), (0, .class_ 1113), (0, u "java/lang/constant/ConstantDesc"), (2, u "serialVersionUID"), (0, u "J"), (3, u "REPL"), (0, u "C"), (2, u "LATIN1"), (1, u "UTF16"), (105, u "(Ljava/lang/StringBuilder;)V")] 217

def k7m0 : Method := { name := "<init>", desc := "()V", sig := { parameters := [], returnType := none }, accessFlags := 1, code := none }
def k7c1 : Code := { maxStack := 5, maxLocals := 2, code := jdk_42_method_3_code, exceptionTable := #[], attributes := #[] }
def k7m1 : Method := { name := "<init>", desc := "([C)V", sig := { parameters := [(.array .char)], returnType := none }, accessFlags := 1, code := some k7c1 }
def k7c2 : Code := { maxStack := 3, maxLocals := 2, code := jdk_42_method_53_code, exceptionTable := #[], attributes := #[] }
def k7m2 : Method := { name := "<init>", desc := "(Ljava/lang/StringBuilder;)V", sig := { parameters := [(.object "java/lang/StringBuilder")], returnType := none }, accessFlags := 1, code := some k7c2 }
def k7c3 : Code := { maxStack := 2, maxLocals := 1, code := jdk_42_method_54_code, exceptionTable := #[], attributes := #[] }
def k7m3 : Method := { name := "length", desc := "()I", sig := { parameters := [], returnType := some .int }, accessFlags := 1, code := some k7c3 }
def k7c4 : Code := { maxStack := 2, maxLocals := 2, code := jdk_42_method_56_code, exceptionTable := #[], attributes := #[] }
def k7m4 : Method := { name := "charAt", desc := "(I)C", sig := { parameters := [.int], returnType := some .char }, accessFlags := 1, code := some k7c4 }
def k7c5 : Code := { maxStack := 2, maxLocals := 3, code := jdk_42_method_66_code, exceptionTable := #[], attributes := #[] }
def k7m5 : Method := { name := "equals", desc := "(Ljava/lang/Object;)Z", sig := { parameters := [(.object "java/lang/Object")], returnType := some .boolean }, accessFlags := 1, code := some k7c5 }
def k7c6 : Code := { maxStack := 3, maxLocals := 5, code := jdk_42_method_92_code, exceptionTable := #[], attributes := #[] }
def k7m6 : Method := { name := "substring", desc := "(II)Ljava/lang/String;", sig := { parameters := [.int, .int], returnType := some (.object "java/lang/String") }, accessFlags := 1, code := some k7c6 }
def k7c7 : Code := { maxStack := 5, maxLocals := 4, code := jdk_42_method_147_code, exceptionTable := #[], attributes := #[] }
def k7m7 : Method := { name := "getBytes", desc := "([BIB)V", sig := { parameters := [(.array .byte), .int, .byte], returnType := none }, accessFlags := 0, code := some k7c7 }
def k7c8 : Code := { maxStack := 4, maxLocals := 6, code := jdk_42_method_149_code, exceptionTable := #[], attributes := #[] }
def k7m8 : Method := { name := "<init>", desc := "([CIILjava/lang/Void;)V", sig := { parameters := [(.array .char), .int, .int, (.object "java/lang/Void")], returnType := none }, accessFlags := 2, code := some k7c8 }
def k7c9 : Code := { maxStack := 5, maxLocals := 5, code := jdk_42_method_150_code, exceptionTable := #[], attributes := #[] }
def k7m9 : Method := { name := "<init>", desc := "(Ljava/lang/AbstractStringBuilder;Ljava/lang/Void;)V", sig := { parameters := [(.object "java/lang/AbstractStringBuilder"), (.object "java/lang/Void")], returnType := none }, accessFlags := 0, code := some k7c9 }
def k7c10 : Code := { maxStack := 2, maxLocals := 3, code := jdk_42_method_151_code, exceptionTable := #[], attributes := #[] }
def k7m10 : Method := { name := "<init>", desc := "([BB)V", sig := { parameters := [(.array .byte), .byte], returnType := none }, accessFlags := 0, code := some k7c10 }
def k7c11 : Code := { maxStack := 1, maxLocals := 1, code := jdk_42_method_152_code, exceptionTable := #[], attributes := #[] }
def k7m11 : Method := { name := "coder", desc := "()B", sig := { parameters := [], returnType := some .byte }, accessFlags := 0, code := some k7c11 }
def k7c12 : Code := { maxStack := 1, maxLocals := 1, code := jdk_42_method_154_code, exceptionTable := #[], attributes := #[] }
def k7m12 : Method := { name := "isLatin1", desc := "()Z", sig := { parameters := [], returnType := some .boolean }, accessFlags := 0, code := some k7c12 }
def k7c13 : Code := { maxStack := 3, maxLocals := 2, code := jdk_42_method_155_code, exceptionTable := #[], attributes := #[] }
def k7m13 : Method := { name := "checkIndex", desc := "(II)V", sig := { parameters := [.int, .int], returnType := none }, accessFlags := 8, code := some k7c13 }
def k7c14 : Code := { maxStack := 4, maxLocals := 3, code := jdk_42_method_157_code, exceptionTable := #[], attributes := #[] }
def k7m14 : Method := { name := "checkBoundsOffCount", desc := "(III)I", sig := { parameters := [.int, .int, .int], returnType := some .int }, accessFlags := 8, code := some k7c14 }
def k7c15 : Code := { maxStack := 4, maxLocals := 3, code := jdk_42_method_158_code, exceptionTable := #[], attributes := #[] }
def k7m15 : Method := { name := "checkBoundsBeginEnd", desc := "(III)V", sig := { parameters := [.int, .int, .int], returnType := none }, accessFlags := 8, code := some k7c15 }
/-- java/lang/String -/
def k7 : Class := { plain "java/lang/String" (some 0) with
  accessFlags := 49
  interfaces := #[2, 3, 4, 5, 6]
  cf := some (fileOf pool7 10 #[.nestMembers #[1103]] #[{ accessFlags := 1, nameIndex := 5, descriptorIndex := 6, attributes := #[] }, { accessFlags := 1, nameIndex := 5, descriptorIndex := 1010, attributes := #[] }, { accessFlags := 1, nameIndex := 5, descriptorIndex := 1233, attributes := #[] }, { accessFlags := 1, nameIndex := 507, descriptorIndex := 334, attributes := #[] }, { accessFlags := 1, nameIndex := 497, descriptorIndex := 427, attributes := #[] }, { accessFlags := 1, nameIndex := 543, descriptorIndex := 573, attributes := #[] }, { accessFlags := 1, nameIndex := 683, descriptorIndex := 684, attributes := #[] }, { accessFlags := 0, nameIndex := 532, descriptorIndex := 821, attributes := #[] }, { accessFlags := 2, nameIndex := 5, descriptorIndex := 29, attributes := #[] }, { accessFlags := 0, nameIndex := 5, descriptorIndex := 491, attributes := #[] }, { accessFlags := 0, nameIndex := 5, descriptorIndex := 211, attributes := #[] }, { accessFlags := 0, nameIndex := 17, descriptorIndex := 337, attributes := #[] }, { accessFlags := 0, nameIndex := 494, descriptorIndex := 142, attributes := #[] }, { accessFlags := 8, nameIndex := 501, descriptorIndex := 391, attributes := #[] }, { accessFlags := 8, nameIndex := 36, descriptorIndex := 37, attributes := #[] }, { accessFlags := 8, nameIndex := 523, descriptorIndex := 524, attributes := #[] }] 49 2 #[1106, 1108, 575, 1110, 1112] #[{ accessFlags := 18, nameIndex := 13, descriptorIndex := 14, attributes := #[] }, { accessFlags := 18, nameIndex := 17, descriptorIndex := 18, attributes := #[] }, { accessFlags := 2, nameIndex := 21, descriptorIndex := 22, attributes := #[] }, { accessFlags := 2, nameIndex := 25, descriptorIndex := 26, attributes := #[] }, { accessFlags := 26, nameIndex := 1116, descriptorIndex := 1117, attributes := #[] }, { accessFlags := 24, nameIndex := 40, descriptorIndex := 26, attributes := #[] }, { accessFlags := 26, nameIndex := 1101, descriptorIndex := 1102, attributes := #[] }, { accessFlags := 26, nameIndex := 1121, descriptorIndex := 1122, attributes := #[] }, { accessFlags := 25, nameIndex := 599, descriptorIndex := 600, attributes := #[] }, { accessFlags := 24, nameIndex := 1125, descriptorIndex := 18, attributes := #[] }, { accessFlags := 24, nameIndex := 1127, descriptorIndex := 18, attributes := #[] }])
  fields := #[{ name := "value", type := (.array .byte), accessFlags := 18, slot := 0, constantValue := 0 }, { name := "coder", type := .byte, accessFlags := 18, slot := 1, constantValue := 0 }, { name := "hash", type := .int, accessFlags := 2, slot := 2, constantValue := 0 }, { name := "hashIsZero", type := .boolean, accessFlags := 2, slot := 3, constantValue := 0 }, { name := "serialVersionUID", type := .long, accessFlags := 26, slot := 0, constantValue := 0 }, { name := "COMPACT_STRINGS", type := .boolean, accessFlags := 24, slot := 1, constantValue := 0 }, { name := "serialPersistentFields", type := (.array (.object "java/io/ObjectStreamField")), accessFlags := 26, slot := 2, constantValue := 0 }, { name := "REPL", type := .char, accessFlags := 26, slot := 3, constantValue := 0 }, { name := "CASE_INSENSITIVE_ORDER", type := (.object "java/util/Comparator"), accessFlags := 25, slot := 4, constantValue := 0 }, { name := "LATIN1", type := .byte, accessFlags := 24, slot := 5, constantValue := 0 }, { name := "UTF16", type := .byte, accessFlags := 24, slot := 6, constantValue := 0 }]
  methods := #[k7m0, k7m1, k7m2, k7m3, k7m4, k7m5, k7m6, k7m7, k7m8, k7m9, k7m10, k7m11, k7m12, k7m13, k7m14, k7m15]
  instanceTypes := #[(.array .byte), .byte, .int, .boolean]
  staticTypes := #[.long, .boolean, (.array (.object "java/io/ObjectStreamField")), .char, (.object "java/util/Comparator"), .byte, .byte]
  resolved := Array.replicate 1451 none
  statics := some 0 }

def pool8 : Array CpInfo := pool [(2, .class_ 4), (1, u "java/lang/Object"), (0, u "<init>"), (0, u "()V"), (1, .class_ 10), (1, u "java/lang/Throwable"), (0, u "cause"), (0, u "Ljava/lang/Throwable;"), (2, u "UNASSIGNED_STACK"), (0, u "[Ljava/lang/StackTraceElement;"), (2, u "stackTrace"), (2, u "SUPPRESSED_SENTINEL"), (0, u "Ljava/util/List;"), (2, u "suppressedExceptions"), (6, u "detailMessage"), (0, u "Ljava/lang/String;"), (58, .class_ 94), (0, u "java/lang/Throwable$WrappedPrintStream"), (6, .class_ 103), (1, u "java/lang/Throwable$PrintStreamOrWriter"), (61, u "$assertionsDisabled"), (0, u "Z"), (26, .class_ 194), (0, u "java/lang/Throwable$WrappedPrintWriter"), (5, u "backtrace"), (0, u "Ljava/lang/Object;"), (9, u "depth"), (0, u "I"), (56, .class_ 271), (1, u "java/lang/Throwable$SentinelHolder"), (32, u "EMPTY_THROWABLE_ARRAY"), (0, u "[Ljava/lang/Throwable;"), (12, .class_ 319), (0, u "java/io/Serializable"), (0, u "serialVersionUID"), (0, u "J"), (5, u "NULL_CAUSE_MESSAGE"), (0, u "SELF_SUPPRESSION_MESSAGE"), (0, u "CAUSE_CAPTION"), (0, u "SUPPRESSED_CAPTION")] 73

def k8m0 : Method := { name := "<init>", desc := "()V", sig := { parameters := [], returnType := none }, accessFlags := 1, code := none }
/-- java/lang/Throwable -/
def k8 : Class := { plain "java/lang/Throwable" (some 0) with
  accessFlags := 33
  interfaces := #[2]
  cf := some (fileOf pool8 8 #[.nestMembers #[193, 93, 101, 269]] #[{ accessFlags := 1, nameIndex := 5, descriptorIndex := 6, attributes := #[] }] 33 2 #[318] #[{ accessFlags := 26, nameIndex := 320, descriptorIndex := 321, attributes := #[] }, { accessFlags := 130, nameIndex := 200, descriptorIndex := 201, attributes := #[] }, { accessFlags := 2, nameIndex := 33, descriptorIndex := 34, attributes := #[] }, { accessFlags := 26, nameIndex := 15, descriptorIndex := 16, attributes := #[] }, { accessFlags := 2, nameIndex := 11, descriptorIndex := 12, attributes := #[] }, { accessFlags := 2, nameIndex := 19, descriptorIndex := 16, attributes := #[] }, { accessFlags := 130, nameIndex := 211, descriptorIndex := 212, attributes := #[] }, { accessFlags := 26, nameIndex := 22, descriptorIndex := 23, attributes := #[] }, { accessFlags := 2, nameIndex := 26, descriptorIndex := 23, attributes := #[] }, { accessFlags := 26, nameIndex := 327, descriptorIndex := 34, attributes := #[] }, { accessFlags := 26, nameIndex := 328, descriptorIndex := 34, attributes := #[] }, { accessFlags := 26, nameIndex := 329, descriptorIndex := 34, attributes := #[] }, { accessFlags := 26, nameIndex := 330, descriptorIndex := 34, attributes := #[] }, { accessFlags := 26, nameIndex := 304, descriptorIndex := 305, attributes := #[] }, { accessFlags := 4120, nameIndex := 165, descriptorIndex := 166, attributes := #[] }])
  fields := #[{ name := "serialVersionUID", type := .long, accessFlags := 26, slot := 0, constantValue := 0 }, { name := "backtrace", type := (.object "java/lang/Object"), accessFlags := 130, slot := 0, constantValue := 0 }, { name := "detailMessage", type := (.object "java/lang/String"), accessFlags := 2, slot := 1, constantValue := 0 }, { name := "UNASSIGNED_STACK", type := (.array (.object "java/lang/StackTraceElement")), accessFlags := 26, slot := 1, constantValue := 0 }, { name := "cause", type := (.object "java/lang/Throwable"), accessFlags := 2, slot := 2, constantValue := 0 }, { name := "stackTrace", type := (.array (.object "java/lang/StackTraceElement")), accessFlags := 2, slot := 3, constantValue := 0 }, { name := "depth", type := .int, accessFlags := 130, slot := 4, constantValue := 0 }, { name := "SUPPRESSED_SENTINEL", type := (.object "java/util/List"), accessFlags := 26, slot := 2, constantValue := 0 }, { name := "suppressedExceptions", type := (.object "java/util/List"), accessFlags := 2, slot := 5, constantValue := 0 }, { name := "NULL_CAUSE_MESSAGE", type := (.object "java/lang/String"), accessFlags := 26, slot := 3, constantValue := 0 }, { name := "SELF_SUPPRESSION_MESSAGE", type := (.object "java/lang/String"), accessFlags := 26, slot := 4, constantValue := 0 }, { name := "CAUSE_CAPTION", type := (.object "java/lang/String"), accessFlags := 26, slot := 5, constantValue := 0 }, { name := "SUPPRESSED_CAPTION", type := (.object "java/lang/String"), accessFlags := 26, slot := 6, constantValue := 0 }, { name := "EMPTY_THROWABLE_ARRAY", type := (.array (.object "java/lang/Throwable")), accessFlags := 26, slot := 7, constantValue := 0 }, { name := "$assertionsDisabled", type := .boolean, accessFlags := 4120, slot := 8, constantValue := 0 }]
  methods := #[k8m0]
  instanceTypes := #[(.object "java/lang/Object"), (.object "java/lang/String"), (.object "java/lang/Throwable"), (.array (.object "java/lang/StackTraceElement")), .int, (.object "java/util/List")]
  staticTypes := #[.long, (.array (.object "java/lang/StackTraceElement")), (.object "java/util/List"), (.object "java/lang/String"), (.object "java/lang/String"), (.object "java/lang/String"), (.object "java/lang/String"), (.array (.object "java/lang/Throwable")), .boolean]
  resolved := Array.replicate 404 none
  statics := none }

def pool9 : Array CpInfo := pool [(2, .class_ 4), (1, u "java/lang/Throwable"), (0, u "<init>"), (0, u "()V"), (12, .class_ 20), (0, u "java/lang/Exception"), (0, u "serialVersionUID"), (0, u "J")] 17

def k9m0 : Method := { name := "<init>", desc := "()V", sig := { parameters := [], returnType := none }, accessFlags := 1, code := none }
/-- java/lang/Exception -/
def k9 : Class := { plain "java/lang/Exception" (some 8) with
  accessFlags := 33
  interfaces := #[]
  cf := some (fileOf pool9 19 #[] #[{ accessFlags := 1, nameIndex := 5, descriptorIndex := 6, attributes := #[] }] 33 2 #[] #[{ accessFlags := 24, nameIndex := 21, descriptorIndex := 22, attributes := #[] }])
  fields := #[{ name := "serialVersionUID", type := .long, accessFlags := 24, slot := 0, constantValue := 0 }]
  methods := #[k9m0]
  instanceTypes := #[(.object "java/lang/Object"), (.object "java/lang/String"), (.object "java/lang/Throwable"), (.array (.object "java/lang/StackTraceElement")), .int, (.object "java/util/List")]
  staticTypes := #[.long]
  resolved := Array.replicate 40 none
  statics := none }

def pool10 : Array CpInfo := pool [(2, .class_ 4), (1, u "java/lang/Exception"), (0, u "<init>"), (0, u "()V"), (12, .class_ 20), (0, u "java/lang/RuntimeException"), (0, u "serialVersionUID"), (0, u "J")] 17

def k10m0 : Method := { name := "<init>", desc := "()V", sig := { parameters := [], returnType := none }, accessFlags := 1, code := none }
/-- java/lang/RuntimeException -/
def k10 : Class := { plain "java/lang/RuntimeException" (some 9) with
  accessFlags := 33
  interfaces := #[]
  cf := some (fileOf pool10 19 #[] #[{ accessFlags := 1, nameIndex := 5, descriptorIndex := 6, attributes := #[] }] 33 2 #[] #[{ accessFlags := 24, nameIndex := 21, descriptorIndex := 22, attributes := #[] }])
  fields := #[{ name := "serialVersionUID", type := .long, accessFlags := 24, slot := 0, constantValue := 0 }]
  methods := #[k10m0]
  instanceTypes := #[(.object "java/lang/Object"), (.object "java/lang/String"), (.object "java/lang/Throwable"), (.array (.object "java/lang/StackTraceElement")), .int, (.object "java/util/List")]
  staticTypes := #[.long]
  resolved := Array.replicate 40 none
  statics := none }

def pool11 : Array CpInfo := pool [(2, .class_ 4), (1, u "java/lang/RuntimeException"), (0, u "<init>"), (1, .methodref 8 9), (0, .class_ 10), (0, .nameAndType 11 12), (0, u "java/lang/String"), (0, u "length"), (0, u "()I"), (0, .class_ 14), (0, u "com/example/holdfast/holdfast/InvalidInputException"), (0, .class_ 16), (0, u "java/lang/StringBuilder"), (0, .methodref 15 18), (0, .nameAndType 5 19), (0, u "()V"), (0, .methodref 8 21), (0, .nameAndType 22 23), (0, u "substring"), (0, u "(II)Ljava/lang/String;"), (0, .methodref 15 25), (0, .nameAndType 26 27), (0, u "append"), (0, u "(Ljava/lang/String;)Ljava/lang/StringBuilder;"), (0, .string 29), (0, u "..."), (0, .methodref 15 31), (0, .nameAndType 32 33), (0, u "toString"), (0, u "()Ljava/lang/String;"), (0, u "serialVersionUID"), (0, u "J"), (3, u "QUOTED_LENGTH"), (0, u "I"), (3, u "quoted"), (0, u "(Ljava/lang/String;)Ljava/lang/String;")] 3

def k11c0 : Code := { maxStack := 4, maxLocals := 1, code := prog_7_method_2_code, exceptionTable := #[], attributes := #[] }
def k11m0 : Method := { name := "quoted", desc := "(Ljava/lang/String;)Ljava/lang/String;", sig := { parameters := [(.object "java/lang/String")], returnType := some (.object "java/lang/String") }, accessFlags := 8, code := some k11c0 }
/-- com/example/holdfast/holdfast/InvalidInputException -/
def k11 : Class := { plain "com/example/holdfast/holdfast/InvalidInputException" (some 10) with
  accessFlags := 48
  interfaces := #[]
  cf := some (fileOf pool11 13 #[] #[{ accessFlags := 8, nameIndex := 44, descriptorIndex := 45, attributes := #[] }] 48 2 #[] #[{ accessFlags := 26, nameIndex := 34, descriptorIndex := 35, attributes := #[] }, { accessFlags := 26, nameIndex := 39, descriptorIndex := 40, attributes := #[] }])
  fields := #[{ name := "serialVersionUID", type := .long, accessFlags := 26, slot := 0, constantValue := 0 }, { name := "QUOTED_LENGTH", type := .int, accessFlags := 26, slot := 1, constantValue := 0 }]
  methods := #[k11m0]
  instanceTypes := #[(.object "java/lang/Object"), (.object "java/lang/String"), (.object "java/lang/Throwable"), (.array (.object "java/lang/StackTraceElement")), .int, (.object "java/util/List")]
  staticTypes := #[.long, .int]
  resolved := Array.replicate 49 none
  statics := none }

def pool12 : Array CpInfo := pool [(3, .class_ 4), (0, u "java/lang/String"), (1, .class_ 8), (1, u "java/lang/Object"), (0, u "<init>"), (0, u "()V"), (0, .methodref 12 13), (0, .class_ 14), (0, .nameAndType 15 16), (0, u "java/lang/StringUTF16"), (0, u "newBytesLength"), (0, u "(I)I"), (3, .integer 1073741823), (23, .fieldref 12 45), (0, .nameAndType 46 47), (0, u "$assertionsDisabled"), (0, u "Z"), (0, .methodref 12 49), (0, .nameAndType 50 51), (0, u "length"), (0, u "([B)I"), (7, .fieldref 12 60), (0, .nameAndType 61 62), (0, u "HI_BYTE_SHIFT"), (0, u "I"), (0, .fieldref 12 64), (0, .nameAndType 65 62), (0, u "LO_BYTE_SHIFT"), (1, .methodref 12 68), (0, .nameAndType 69 70), (0, u "checkIndex"), (0, u "(I[B)V"), (0, .methodref 12 72), (0, .nameAndType 73 74), (0, u "getChar"), (0, u "([BI)C"), (24, u "(II[B)V"), (7, .methodref 12 108), (0, .nameAndType 109 110), (0, u "newBytesFor"), (0, u "(I)[B"), (0, .methodref 12 112), (0, .nameAndType 113 114), (0, u "putChar"), (0, u "([BII)V"), (0, .methodref 12 116), (0, .nameAndType 117 118), (0, u "compress"), (0, u "([CI[BII)I"), (0, .methodref 12 120), (0, .nameAndType 121 122), (0, u "toBytes"), (0, u "([CII)[B"), (0, .methodref 12 124), (0, .nameAndType 117 125), (0, u "([BI[BII)I"), (0, .methodref 127 128), (0, .class_ 129), (0, .nameAndType 130 131), (0, u "java/util/Arrays"), (0, u "copyOfRange"), (0, u "([BII)[B"), (8, u "inflate"), (0, u "([BI[BII)V"), (31, .methodref 12 174), (0, .nameAndType 175 99), (0, u "checkBoundsOffCount"), (75, .fieldref 3 252), (0, .nameAndType 253 47), (0, u "COMPACT_STRINGS"), (3, .methodref 12 258), (0, .nameAndType 117 131), (0, .methodref 12 260), (0, .nameAndType 261 262), (0, u "coderFromArrayLen"), (0, u "([BI)B"), (0, .methodref 3 264), (0, .nameAndType 9 265), (0, u "([BB)V"), (15, u "(III)I"), (45, u "newString"), (0, u "([BII)Ljava/lang/String;"), (40, .class_ 371), (1, u "java/lang/StringUTF16$LinesSpliterator"), (20, u "charAt"), (21, .methodref 3 415), (0, .nameAndType 69 416), (0, u "(II)V"), (2, .methodref 3 420), (0, .nameAndType 175 281), (9, u "MAX_LENGTH"), (196, .class_ 628), (0, u "java/lang/StringUTF16$CodePointsSpliterator"), (0, .class_ 630), (0, u "java/lang/StringUTF16$CharsSpliterator")] 4

def k12m0 : Method := { name := "<init>", desc := "()V", sig := { parameters := [], returnType := none }, accessFlags := 0, code := none }
def k12c1 : Code := { maxStack := 1, maxLocals := 1, code := jdk_52_method_2_code, exceptionTable := #[], attributes := #[] }
def k12m1 : Method := { name := "newBytesFor", desc := "(I)[B", sig := { parameters := [.int], returnType := some (.array .byte) }, accessFlags := 9, code := some k12c1 }
def k12c2 : Code := { maxStack := 4, maxLocals := 1, code := jdk_52_method_3_code, exceptionTable := #[], attributes := #[] }
def k12m2 : Method := { name := "newBytesLength", desc := "(I)I", sig := { parameters := [.int], returnType := some .int }, accessFlags := 9, code := some k12c2 }
def k12c3 : Code := { maxStack := 4, maxLocals := 3, code := jdk_52_method_4_code, exceptionTable := #[], attributes := #[] }
def k12m3 : Method := { name := "putChar", desc := "([BII)V", sig := { parameters := [(.array .byte), .int, .int], returnType := none }, accessFlags := 8, code := some k12c3 }
def k12c4 : Code := { maxStack := 3, maxLocals := 2, code := jdk_52_method_5_code, exceptionTable := #[], attributes := #[] }
def k12m4 : Method := { name := "getChar", desc := "([BI)C", sig := { parameters := [(.array .byte), .int], returnType := some .char }, accessFlags := 8, code := some k12c4 }
def k12c5 : Code := { maxStack := 2, maxLocals := 1, code := jdk_52_method_6_code, exceptionTable := #[], attributes := #[] }
def k12m5 : Method := { name := "length", desc := "([B)I", sig := { parameters := [(.array .byte)], returnType := some .int }, accessFlags := 9, code := some k12c5 }
def k12c6 : Code := { maxStack := 4, maxLocals := 5, code := jdk_52_method_14_code, exceptionTable := #[], attributes := #[] }
def k12m6 : Method := { name := "toBytes", desc := "([CII)[B", sig := { parameters := [(.array .char), .int, .int], returnType := some (.array .byte) }, accessFlags := 9, code := some k12c6 }
def k12c7 : Code := { maxStack := 2, maxLocals := 2, code := jdk_52_method_15_code, exceptionTable := #[], attributes := #[] }
def k12m7 : Method := { name := "coderFromArrayLen", desc := "([BI)B", sig := { parameters := [(.array .byte), .int], returnType := some .byte }, accessFlags := 8, code := some k12c7 }
def k12c8 : Code := { maxStack := 5, maxLocals := 6, code := jdk_52_method_16_code, exceptionTable := #[], attributes := #[] }
def k12m8 : Method := { name := "compress", desc := "([CII)[B", sig := { parameters := [(.array .char), .int, .int], returnType := some (.array .byte) }, accessFlags := 9, code := some k12c8 }
def k12c9 : Code := { maxStack := 5, maxLocals := 6, code := jdk_52_method_17_code, exceptionTable := #[], attributes := #[] }
def k12m9 : Method := { name := "compress", desc := "([BII)[B", sig := { parameters := [(.array .byte), .int, .int], returnType := some (.array .byte) }, accessFlags := 9, code := some k12c9 }
def k12c10 : Code := { maxStack := 3, maxLocals := 7, code := jdk_52_method_21_code, exceptionTable := #[], attributes := #[] }
def k12m10 : Method := { name := "compress", desc := "([CI[BII)I", sig := { parameters := [(.array .char), .int, (.array .byte), .int, .int], returnType := some .int }, accessFlags := 9, code := some k12c10 }
def k12c11 : Code := { maxStack := 3, maxLocals := 7, code := jdk_52_method_22_code, exceptionTable := #[], attributes := #[] }
def k12m11 : Method := { name := "compress", desc := "([BI[BII)I", sig := { parameters := [(.array .byte), .int, (.array .byte), .int, .int], returnType := some .int }, accessFlags := 9, code := some k12c11 }
def k12c12 : Code := { maxStack := 6, maxLocals := 5, code := jdk_52_method_69_code, exceptionTable := #[], attributes := #[] }
def k12m12 : Method := { name := "newString", desc := "([BII)Ljava/lang/String;", sig := { parameters := [(.array .byte), .int, .int], returnType := some (.object "java/lang/String") }, accessFlags := 9, code := some k12c12 }
def k12c13 : Code := { maxStack := 2, maxLocals := 2, code := jdk_52_method_83_code, exceptionTable := #[], attributes := #[] }
def k12m13 : Method := { name := "charAt", desc := "([BI)C", sig := { parameters := [(.array .byte), .int], returnType := some .char }, accessFlags := 9, code := some k12c13 }
def k12c14 : Code := { maxStack := 4, maxLocals := 6, code := jdk_52_method_86_code, exceptionTable := #[], attributes := #[] }
def k12m14 : Method := { name := "inflate", desc := "([BI[BII)V", sig := { parameters := [(.array .byte), .int, (.array .byte), .int, .int], returnType := none }, accessFlags := 9, code := some k12c14 }
def k12c15 : Code := { maxStack := 2, maxLocals := 2, code := jdk_52_method_91_code, exceptionTable := #[], attributes := #[] }
def k12m15 : Method := { name := "checkIndex", desc := "(I[B)V", sig := { parameters := [.int, (.array .byte)], returnType := none }, accessFlags := 9, code := some k12c15 }
def k12c16 : Code := { maxStack := 3, maxLocals := 3, code := jdk_52_method_94_code, exceptionTable := #[], attributes := #[] }
def k12m16 : Method := { name := "checkBoundsOffCount", desc := "(II[B)V", sig := { parameters := [.int, .int, (.array .byte)], returnType := none }, accessFlags := 9, code := some k12c16 }
/-- java/lang/StringUTF16 -/
def k12 : Class := { plain "java/lang/StringUTF16" (some 0) with
  accessFlags := 48
  interfaces := #[]
  cf := some (fileOf pool12 12 #[.nestMembers #[627, 629, 369]] #[{ accessFlags := 0, nameIndex := 9, descriptorIndex := 10, attributes := #[] }, { accessFlags := 9, nameIndex := 109, descriptorIndex := 110, attributes := #[] }, { accessFlags := 9, nameIndex := 15, descriptorIndex := 16, attributes := #[] }, { accessFlags := 8, nameIndex := 113, descriptorIndex := 114, attributes := #[] }, { accessFlags := 8, nameIndex := 73, descriptorIndex := 74, attributes := #[] }, { accessFlags := 9, nameIndex := 50, descriptorIndex := 51, attributes := #[] }, { accessFlags := 9, nameIndex := 121, descriptorIndex := 122, attributes := #[] }, { accessFlags := 8, nameIndex := 261, descriptorIndex := 262, attributes := #[] }, { accessFlags := 9, nameIndex := 117, descriptorIndex := 122, attributes := #[] }, { accessFlags := 9, nameIndex := 117, descriptorIndex := 131, attributes := #[] }, { accessFlags := 9, nameIndex := 117, descriptorIndex := 118, attributes := #[] }, { accessFlags := 9, nameIndex := 117, descriptorIndex := 125, attributes := #[] }, { accessFlags := 9, nameIndex := 327, descriptorIndex := 328, attributes := #[] }, { accessFlags := 9, nameIndex := 392, descriptorIndex := 74, attributes := #[] }, { accessFlags := 9, nameIndex := 140, descriptorIndex := 141, attributes := #[] }, { accessFlags := 9, nameIndex := 69, descriptorIndex := 70, attributes := #[] }, { accessFlags := 9, nameIndex := 175, descriptorIndex := 99, attributes := #[] }] 48 6 #[] #[{ accessFlags := 26, nameIndex := 61, descriptorIndex := 62, attributes := #[] }, { accessFlags := 26, nameIndex := 65, descriptorIndex := 62, attributes := #[] }, { accessFlags := 24, nameIndex := 430, descriptorIndex := 62, attributes := #[] }, { accessFlags := 4120, nameIndex := 46, descriptorIndex := 47, attributes := #[] }])
  fields := #[{ name := "HI_BYTE_SHIFT", type := .int, accessFlags := 26, slot := 0, constantValue := 0 }, { name := "LO_BYTE_SHIFT", type := .int, accessFlags := 26, slot := 1, constantValue := 0 }, { name := "MAX_LENGTH", type := .int, accessFlags := 24, slot := 2, constantValue := 0 }, { name := "$assertionsDisabled", type := .boolean, accessFlags := 4120, slot := 3, constantValue := 0 }]
  methods := #[k12m0, k12m1, k12m2, k12m3, k12m4, k12m5, k12m6, k12m7, k12m8, k12m9, k12m10, k12m11, k12m12, k12m13, k12m14, k12m15, k12m16]
  instanceTypes := #[]
  staticTypes := #[.int, .int, .int, .boolean]
  resolved := Array.replicate 635 none
  statics := some 1 }

def pool13 : Array CpInfo := pool [(1, .class_ 2), (0, u "java/lang/Appendable"), (0, .class_ 4), (0, u "java/lang/Object")] 9

/-- java/lang/Appendable -/
def k13 : Class := { plain "java/lang/Appendable" (some 0) with
  accessFlags := 1537
  interfaces := #[]
  cf := some (fileOf pool13 1 #[] #[] 1537 3 #[] #[])
  fields := #[]
  methods := #[]
  instanceTypes := #[]
  staticTypes := #[]
  resolved := Array.replicate 14 none
  statics := none }

def pool14 : Array CpInfo := pool [(1, .class_ 2), (0, u "java/lang/String"), (0, .methodref 4 5), (0, .class_ 6), (0, .nameAndType 7 8), (0, u "java/lang/Object"), (0, u "<init>"), (0, u "()V"), (1, .class_ 12), (1, u "java/lang/AbstractStringBuilder"), (0, u "EMPTYVALUE"), (0, u "[B"), (0, .fieldref 10 16), (0, .nameAndType 17 14), (0, u "value"), (0, .fieldref 1 19), (0, .nameAndType 20 21), (0, u "COMPACT_STRINGS"), (0, u "Z"), (0, .fieldref 10 23), (0, .nameAndType 24 25), (0, u "coder"), (0, u "B"), (0, .methodref 27 28), (0, .class_ 29), (0, .nameAndType 30 31), (0, u "java/lang/StringUTF16"), (0, u "newBytesFor"), (0, u "(I)[B"), (0, .methodref 1 33), (0, .nameAndType 34 35), (0, u "length"), (0, u "()I"), (3, .integer 2147483647), (0, .methodref 1 41), (0, .nameAndType 24 42), (0, u "()B"), (2, u "append"), (0, u "(Ljava/lang/String;)Ljava/lang/AbstractStringBuilder;"), (1, .class_ 49), (0, u "java/lang/CharSequence"), (19, u "(Ljava/lang/String;)V"), (5, u "maybeLatin1"), (3, .fieldref 10 80), (0, .nameAndType 81 82), (0, u "count"), (0, u "I"), (0, .methodref 10 84), (0, .nameAndType 85 86), (0, u "isLatin1"), (0, u "()Z"), (1, .class_ 90), (1, u "java/lang/StringLatin1"), (9, .methodref 10 101), (0, .nameAndType 102 103), (0, u "ensureCapacityInternal"), (0, u "(I)V"), (0, .methodref 10 105), (0, .nameAndType 106 107), (0, u "newCapacity"), (0, u "(I)I"), (0, .methodref 109 110), (0, .class_ 111), (0, .nameAndType 112 113), (0, u "java/util/Arrays"), (0, u "copyOf"), (0, u "([BI)[B"), (0, .methodref 115 116), (0, .class_ 117), (0, .nameAndType 118 119), (0, u "jdk/internal/util/ArraysSupport"), (0, u "newLength"), (0, u "(III)I"), (5, .methodref 88 126), (0, .nameAndType 127 128), (0, u "inflate"), (0, u "([BI[BII)V"), (66, .methodref 10 196), (0, .nameAndType 127 8), (11, .methodref 10 209), (0, .nameAndType 210 211), (0, u "putStringAt"), (0, u "(ILjava/lang/String;)V"), (5, u "inflateIfNeededFor"), (2, .nameAndType 221 222), (0, u "getBytes"), (0, u "([BIB)V"), (174, .methodref 10 398), (0, .nameAndType 217 69), (0, .methodref 1 220), (3, u "()[B"), (40, .class_ 445), (0, u "java/lang/Appendable"), (106, u "getValue")] 56

def k14m0 : Method := { name := "<init>", desc := "()V", sig := { parameters := [], returnType := none }, accessFlags := 0, code := none }
def k14c1 : Code := { maxStack := 2, maxLocals := 2, code := jdk_68_method_2_code, exceptionTable := #[], attributes := #[] }
def k14m1 : Method := { name := "<init>", desc := "(I)V", sig := { parameters := [.int], returnType := none }, accessFlags := 0, code := some k14c1 }
def k14c2 : Code := { maxStack := 1, maxLocals := 1, code := jdk_68_method_6_code, exceptionTable := #[], attributes := #[] }
def k14m2 : Method := { name := "length", desc := "()I", sig := { parameters := [], returnType := some .int }, accessFlags := 1, code := some k14c2 }
def k14c3 : Code := { maxStack := 4, maxLocals := 3, code := jdk_68_method_9_code, exceptionTable := #[], attributes := #[] }
def k14m3 : Method := { name := "ensureCapacityInternal", desc := "(I)V", sig := { parameters := [.int], returnType := none }, accessFlags := 2, code := some k14c3 }
def k14c4 : Code := { maxStack := 5, maxLocals := 6, code := jdk_68_method_10_code, exceptionTable := #[], attributes := #[] }
def k14m4 : Method := { name := "newCapacity", desc := "(I)I", sig := { parameters := [.int], returnType := some .int }, accessFlags := 2, code := some k14c4 }
def k14c5 : Code := { maxStack := 5, maxLocals := 2, code := jdk_68_method_11_code, exceptionTable := #[], attributes := #[] }
def k14m5 : Method := { name := "inflate", desc := "()V", sig := { parameters := [], returnType := none }, accessFlags := 2, code := some k14c5 }
def k14c6 : Code := { maxStack := 3, maxLocals := 3, code := jdk_68_method_22_code, exceptionTable := #[], attributes := #[] }
def k14m6 : Method := { name := "append", desc := "(Ljava/lang/String;)Ljava/lang/AbstractStringBuilder;", sig := { parameters := [(.object "java/lang/String")], returnType := some (.object "java/lang/AbstractStringBuilder") }, accessFlags := 1, code := some k14c6 }
def k14c7 : Code := { maxStack := 1, maxLocals := 1, code := jdk_68_method_64_code, exceptionTable := #[], attributes := #[] }
def k14m7 : Method := { name := "getValue", desc := "()[B", sig := { parameters := [], returnType := some (.array .byte) }, accessFlags := 16, code := some k14c7 }
def k14c8 : Code := { maxStack := 1, maxLocals := 1, code := jdk_68_method_68_code, exceptionTable := #[], attributes := #[] }
def k14m8 : Method := { name := "isLatin1", desc := "()Z", sig := { parameters := [], returnType := some .boolean }, accessFlags := 16, code := some k14c8 }
def k14c9 : Code := { maxStack := 2, maxLocals := 2, code := jdk_68_method_71_code, exceptionTable := #[], attributes := #[] }
def k14m9 : Method := { name := "inflateIfNeededFor", desc := "(Ljava/lang/String;)V", sig := { parameters := [(.object "java/lang/String")], returnType := none }, accessFlags := 2, code := some k14c9 }
def k14c10 : Code := { maxStack := 4, maxLocals := 3, code := jdk_68_method_73_code, exceptionTable := #[], attributes := #[] }
def k14m10 : Method := { name := "putStringAt", desc := "(ILjava/lang/String;)V", sig := { parameters := [.int, (.object "java/lang/String")], returnType := none }, accessFlags := 2, code := some k14c10 }
/-- java/lang/AbstractStringBuilder -/
def k14 : Class := { plain "java/lang/AbstractStringBuilder" (some 0) with
  accessFlags := 1056
  interfaces := #[13, 4]
  cf := some (fileOf pool14 10 #[] #[{ accessFlags := 0, nameIndex := 7, descriptorIndex := 8, attributes := #[] }, { accessFlags := 0, nameIndex := 7, descriptorIndex := 103, attributes := #[] }, { accessFlags := 1, nameIndex := 34, descriptorIndex := 35, attributes := #[] }, { accessFlags := 2, nameIndex := 102, descriptorIndex := 103, attributes := #[] }, { accessFlags := 2, nameIndex := 106, descriptorIndex := 107, attributes := #[] }, { accessFlags := 2, nameIndex := 127, descriptorIndex := 8, attributes := #[] }, { accessFlags := 1, nameIndex := 45, descriptorIndex := 46, attributes := #[] }, { accessFlags := 16, nameIndex := 552, descriptorIndex := 403, attributes := #[] }, { accessFlags := 16, nameIndex := 85, descriptorIndex := 86, attributes := #[] }, { accessFlags := 2, nameIndex := 217, descriptorIndex := 69, attributes := #[] }, { accessFlags := 2, nameIndex := 210, descriptorIndex := 211, attributes := #[] }] 1056 4 #[444, 48] #[{ accessFlags := 0, nameIndex := 17, descriptorIndex := 14, attributes := #[] }, { accessFlags := 0, nameIndex := 24, descriptorIndex := 25, attributes := #[] }, { accessFlags := 0, nameIndex := 75, descriptorIndex := 21, attributes := #[] }, { accessFlags := 0, nameIndex := 81, descriptorIndex := 82, attributes := #[] }, { accessFlags := 26, nameIndex := 13, descriptorIndex := 14, attributes := #[] }])
  fields := #[{ name := "value", type := (.array .byte), accessFlags := 0, slot := 0, constantValue := 0 }, { name := "coder", type := .byte, accessFlags := 0, slot := 1, constantValue := 0 }, { name := "maybeLatin1", type := .boolean, accessFlags := 0, slot := 2, constantValue := 0 }, { name := "count", type := .int, accessFlags := 0, slot := 3, constantValue := 0 }, { name := "EMPTYVALUE", type := (.array .byte), accessFlags := 26, slot := 0, constantValue := 0 }]
  methods := #[k14m0, k14m1, k14m2, k14m3, k14m4, k14m5, k14m6, k14m7, k14m8, k14m9, k14m10]
  instanceTypes := #[(.array .byte), .byte, .boolean, .int]
  staticTypes := #[(.array .byte)]
  resolved := Array.replicate 609 none
  statics := none }

def pool15 : Array CpInfo := pool [(1, .methodref 2 3), (0, .class_ 4), (0, .nameAndType 5 6), (0, u "java/lang/AbstractStringBuilder"), (0, u "<init>"), (0, u "(I)V"), (11, .class_ 20), (1, u "java/lang/String"), (3, .class_ 26), (1, u "java/lang/StringBuilder"), (0, u "append"), (0, u "(Ljava/lang/String;)Ljava/lang/StringBuilder;"), (0, .methodref 2 30), (0, .nameAndType 27 31), (0, u "(Ljava/lang/String;)Ljava/lang/AbstractStringBuilder;"), (105, .methodref 18 138), (0, .nameAndType 5 139), (0, u "(Ljava/lang/StringBuilder;)V"), (5, u "()V"), (10, u "()I"), (186, .methodref 2 344), (0, .nameAndType 345 156), (0, u "length"), (3, .class_ 350), (0, u "java/lang/Appendable"), (0, .class_ 352), (0, u "java/io/Serializable"), (0, .class_ 354), (0, u "java/lang/Comparable"), (0, .class_ 356), (0, u "java/lang/CharSequence"), (0, u "serialVersionUID"), (0, u "J"), (40, u "toString"), (0, u "()Ljava/lang/String;")] 21

def k15c0 : Code := { maxStack := 2, maxLocals := 1, code := jdk_67_method_1_code, exceptionTable := #[], attributes := #[] }
def k15m0 : Method := { name := "<init>", desc := "()V", sig := { parameters := [], returnType := none }, accessFlags := 1, code := some k15c0 }
def k15c1 : Code := { maxStack := 2, maxLocals := 2, code := jdk_67_method_7_code, exceptionTable := #[], attributes := #[] }
def k15m1 : Method := { name := "append", desc := "(Ljava/lang/String;)Ljava/lang/StringBuilder;", sig := { parameters := [(.object "java/lang/String")], returnType := some (.object "java/lang/StringBuilder") }, accessFlags := 1, code := some k15c1 }
def k15c2 : Code := { maxStack := 3, maxLocals := 1, code := jdk_67_method_42_code, exceptionTable := #[], attributes := #[] }
def k15m2 : Method := { name := "toString", desc := "()Ljava/lang/String;", sig := { parameters := [], returnType := some (.object "java/lang/String") }, accessFlags := 1, code := some k15c2 }
def k15c3 : Code := { maxStack := 1, maxLocals := 1, code := jdk_67_method_93_code, exceptionTable := #[], attributes := #[] }
def k15m3 : Method := { name := "length", desc := "()I", sig := { parameters := [], returnType := some .int }, accessFlags := 4161, code := some k15c3 }
/-- java/lang/StringBuilder -/
def k15 : Class := { plain "java/lang/StringBuilder" (some 14) with
  accessFlags := 49
  interfaces := #[13, 2, 3, 4]
  cf := some (fileOf pool15 24 #[] #[{ accessFlags := 1, nameIndex := 5, descriptorIndex := 145, attributes := #[] }, { accessFlags := 1, nameIndex := 27, descriptorIndex := 28, attributes := #[] }, { accessFlags := 1, nameIndex := 399, descriptorIndex := 400, attributes := #[] }, { accessFlags := 4161, nameIndex := 345, descriptorIndex := 156, attributes := #[] }] 49 2 #[349, 351, 353, 355] #[{ accessFlags := 24, nameIndex := 357, descriptorIndex := 358, attributes := #[] }])
  fields := #[{ name := "serialVersionUID", type := .long, accessFlags := 24, slot := 0, constantValue := 0 }]
  methods := #[k15m0, k15m1, k15m2, k15m3]
  instanceTypes := #[(.array .byte), .byte, .boolean, .int]
  staticTypes := #[.long]
  resolved := Array.replicate 422 none
  statics := none }

def pool16 : Array CpInfo := pool [(2, .class_ 4), (1, u "java/lang/Object"), (0, u "<init>"), (0, u "()V"), (17, .class_ 26), (1, u "jdk/internal/util/Preconditions"), (6, u "checkIndex"), (13, u "checkFromToIndex"), (1, u "checkFromIndexSize"), (5, .class_ 56), (0, u "jdk/internal/util/Preconditions$4"), (57, .class_ 115), (0, u "jdk/internal/util/Preconditions$1"), (7, u "SIOOBE_FORMATTER"), (0, u "Ljava/util/function/BiFunction;"), (0, .class_ 126), (0, u "jdk/internal/util/Preconditions$2"), (3, u "AIOOBE_FORMATTER"), (0, .class_ 132), (0, u "jdk/internal/util/Preconditions$3"), (3, u "IOOBE_FORMATTER"), (41, u "(IILjava/util/function/BiFunction;)I"), (4, u "(IIILjava/util/function/BiFunction;)I")] 10

def k16m0 : Method := { name := "<init>", desc := "()V", sig := { parameters := [], returnType := none }, accessFlags := 1, code := none }
def k16c1 : Code := { maxStack := 3, maxLocals := 3, code := jdk_41_method_11_code, exceptionTable := #[], attributes := #[] }
def k16m1 : Method := { name := "checkIndex", desc := "(IILjava/util/function/BiFunction;)I", sig := { parameters := [.int, .int, (.object "java/util/function/BiFunction")], returnType := some .int }, accessFlags := 9, code := some k16c1 }
def k16c2 : Code := { maxStack := 4, maxLocals := 4, code := jdk_41_method_12_code, exceptionTable := #[], attributes := #[] }
def k16m2 : Method := { name := "checkFromToIndex", desc := "(IIILjava/util/function/BiFunction;)I", sig := { parameters := [.int, .int, .int, (.object "java/util/function/BiFunction")], returnType := some .int }, accessFlags := 9, code := some k16c2 }
def k16c3 : Code := { maxStack := 4, maxLocals := 4, code := jdk_41_method_13_code, exceptionTable := #[], attributes := #[] }
def k16m3 : Method := { name := "checkFromIndexSize", desc := "(IIILjava/util/function/BiFunction;)I", sig := { parameters := [.int, .int, .int, (.object "java/util/function/BiFunction")], returnType := some .int }, accessFlags := 9, code := some k16c3 }
/-- jdk/internal/util/Preconditions -/
def k16 : Class := { plain "jdk/internal/util/Preconditions" (some 0) with
  accessFlags := 33
  interfaces := #[]
  cf := some (fileOf pool16 24 #[.nestMembers #[55, 131, 125, 114]] #[{ accessFlags := 1, nameIndex := 5, descriptorIndex := 6, attributes := #[] }, { accessFlags := 9, nameIndex := 33, descriptorIndex := 178, attributes := #[] }, { accessFlags := 9, nameIndex := 47, descriptorIndex := 183, attributes := #[] }, { accessFlags := 9, nameIndex := 49, descriptorIndex := 183, attributes := #[] }] 33 2 #[] #[{ accessFlags := 25, nameIndex := 123, descriptorIndex := 124, attributes := #[] }, { accessFlags := 25, nameIndex := 130, descriptorIndex := 124, attributes := #[] }, { accessFlags := 25, nameIndex := 136, descriptorIndex := 124, attributes := #[] }])
  fields := #[{ name := "SIOOBE_FORMATTER", type := (.object "java/util/function/BiFunction"), accessFlags := 25, slot := 0, constantValue := 0 }, { name := "AIOOBE_FORMATTER", type := (.object "java/util/function/BiFunction"), accessFlags := 25, slot := 1, constantValue := 0 }, { name := "IOOBE_FORMATTER", type := (.object "java/util/function/BiFunction"), accessFlags := 25, slot := 2, constantValue := 0 }]
  methods := #[k16m0, k16m1, k16m2, k16m3]
  instanceTypes := #[]
  staticTypes := #[(.object "java/util/function/BiFunction"), (.object "java/util/function/BiFunction"), (.object "java/util/function/BiFunction")]
  resolved := Array.replicate 194 none
  statics := some 2 }

def pool17 : Array CpInfo := pool [(1, .class_ 2), (0, u "java/lang/String"), (1, .class_ 6), (1, u "java/lang/Object"), (0, u "<init>"), (0, u "()V"), (0, .methodref 1 10), (0, .nameAndType 11 12), (0, u "checkIndex"), (0, u "(II)V"), (1, .class_ 16), (1, u "java/lang/StringLatin1"), (0, u "inflate"), (2, .class_ 22), (1, u "java/lang/StringUTF16"), (3, .nameAndType 17 27), (0, u "([BI[BII)V"), (25, u "([BI)C"), (58, .methodref 1 113), (0, .nameAndType 7 114), (0, u "([BB)V"), (6, u "$assertionsDisabled"), (0, u "Z"), (8, .class_ 133), (1, u "java/util/Arrays"), (62, u "newString"), (0, u "([BII)Ljava/lang/String;"), (23, .class_ 223), (1, u "java/lang/StringLatin1$LinesSpliterator"), (8, .methodref 131 233), (0, .nameAndType 234 235), (0, u "copyOfRange"), (0, u "([BII)[B"), (4, .methodref 20 26), (11, u "charAt"), (137, .class_ 391), (0, u "java/lang/StringLatin1$CharsSpliterator")] 3

def k17m0 : Method := { name := "<init>", desc := "()V", sig := { parameters := [], returnType := none }, accessFlags := 0, code := none }
def k17c1 : Code := { maxStack := 2, maxLocals := 2, code := jdk_43_method_2_code, exceptionTable := #[], attributes := #[] }
def k17m1 : Method := { name := "charAt", desc := "([BI)C", sig := { parameters := [(.array .byte), .int], returnType := some .char }, accessFlags := 9, code := some k17c1 }
def k17c2 : Code := { maxStack := 6, maxLocals := 3, code := jdk_43_method_47_code, exceptionTable := #[], attributes := #[] }
def k17m2 : Method := { name := "newString", desc := "([BII)Ljava/lang/String;", sig := { parameters := [(.array .byte), .int, .int], returnType := some (.object "java/lang/String") }, accessFlags := 9, code := some k17c2 }
def k17c3 : Code := { maxStack := 5, maxLocals := 5, code := jdk_43_method_50_code, exceptionTable := #[], attributes := #[] }
def k17m3 : Method := { name := "inflate", desc := "([BI[BII)V", sig := { parameters := [(.array .byte), .int, (.array .byte), .int, .int], returnType := none }, accessFlags := 9, code := some k17c3 }
/-- java/lang/StringLatin1 -/
def k17 : Class := { plain "java/lang/StringLatin1" (some 0) with
  accessFlags := 48
  interfaces := #[]
  cf := some (fileOf pool17 14 #[.nestMembers #[390, 221]] #[{ accessFlags := 0, nameIndex := 7, descriptorIndex := 8, attributes := #[] }, { accessFlags := 9, nameIndex := 252, descriptorIndex := 53, attributes := #[] }, { accessFlags := 9, nameIndex := 196, descriptorIndex := 197, attributes := #[] }, { accessFlags := 9, nameIndex := 17, descriptorIndex := 27, attributes := #[] }] 48 4 #[] #[{ accessFlags := 4120, nameIndex := 121, descriptorIndex := 122, attributes := #[] }])
  fields := #[{ name := "$assertionsDisabled", type := .boolean, accessFlags := 4120, slot := 0, constantValue := 0 }]
  methods := #[k17m0, k17m1, k17m2, k17m3]
  instanceTypes := #[]
  staticTypes := #[.boolean]
  resolved := Array.replicate 395 none
  statics := none }

def pool18 : Array CpInfo := pool [(2, .class_ 4), (1, u "java/lang/Object"), (0, u "<init>"), (0, u "()V"), (7, .class_ 16), (1, u "java/util/Arrays"), (57, .class_ 76), (1, u "java/util/Arrays$NaturalOrder"), (36, .class_ 115), (1, u "java/util/Arrays$LegacyMergeSort"), (1, u "Z"), (21, u "copyOfRange"), (10, .methodref 151 152), (0, .class_ 153), (0, .nameAndType 154 155), (0, u "java/lang/System"), (0, u "arraycopy"), (0, u "(Ljava/lang/Object;ILjava/lang/Object;II)V"), (146, u "copyOf"), (1, .methodref 305 306), (0, .class_ 307), (0, .nameAndType 308 309), (0, u "java/lang/Math"), (0, u "min"), (0, u "(II)I"), (29, .methodref 14 340), (0, .nameAndType 341 342), (0, u "copyOfRangeByte"), (0, u "([BII)[B"), (0, .methodref 14 344), (0, .nameAndType 345 346), (0, u "checkLength"), (0, u "(II)V"), (28, .class_ 376), (0, u "java/util/Arrays$ArrayList"), (68, u "$assertionsDisabled"), (269, u "MIN_ARRAY_SORT_GRAN"), (0, u "I"), (2, u "INSERTIONSORT_THRESHOLD"), (149, u "([BI)[B"), (105, .class_ 976), (0, u "java/util/Arrays$ArrayItr")] 52

def k18m0 : Method := { name := "<init>", desc := "()V", sig := { parameters := [], returnType := none }, accessFlags := 2, code := none }
def k18c1 : Code := { maxStack := 6, maxLocals := 3, code := jdk_65_method_121_code, exceptionTable := #[], attributes := #[] }
def k18m1 : Method := { name := "copyOf", desc := "([BI)[B", sig := { parameters := [(.array .byte), .int], returnType := some (.array .byte) }, accessFlags := 9, code := some k18c1 }
def k18c2 : Code := { maxStack := 4, maxLocals := 2, code := jdk_65_method_131_code, exceptionTable := #[], attributes := #[] }
def k18m2 : Method := { name := "checkLength", desc := "(II)V", sig := { parameters := [.int, .int], returnType := none }, accessFlags := 10, code := some k18c2 }
def k18c3 : Code := { maxStack := 3, maxLocals := 3, code := jdk_65_method_132_code, exceptionTable := #[], attributes := #[] }
def k18m3 : Method := { name := "copyOfRange", desc := "([BII)[B", sig := { parameters := [(.array .byte), .int, .int], returnType := some (.array .byte) }, accessFlags := 9, code := some k18c3 }
def k18c4 : Code := { maxStack := 6, maxLocals := 5, code := jdk_65_method_133_code, exceptionTable := #[], attributes := #[] }
def k18m4 : Method := { name := "copyOfRangeByte", desc := "([BII)[B", sig := { parameters := [(.array .byte), .int, .int], returnType := some (.array .byte) }, accessFlags := 10, code := some k18c4 }
/-- java/util/Arrays -/
def k18 : Class := { plain "java/util/Arrays" (some 0) with
  accessFlags := 49
  interfaces := #[]
  cf := some (fileOf pool18 14 #[.nestMembers #[975, 375, 113, 74]] #[{ accessFlags := 2, nameIndex := 5, descriptorIndex := 6, attributes := #[] }, { accessFlags := 9, nameIndex := 302, descriptorIndex := 869, attributes := #[] }, { accessFlags := 10, nameIndex := 345, descriptorIndex := 346, attributes := #[] }, { accessFlags := 9, nameIndex := 139, descriptorIndex := 342, attributes := #[] }, { accessFlags := 10, nameIndex := 341, descriptorIndex := 342, attributes := #[] }] 49 2 #[] #[{ accessFlags := 26, nameIndex := 715, descriptorIndex := 716, attributes := #[] }, { accessFlags := 26, nameIndex := 719, descriptorIndex := 716, attributes := #[] }, { accessFlags := 4120, nameIndex := 445, descriptorIndex := 117, attributes := #[] }])
  fields := #[{ name := "MIN_ARRAY_SORT_GRAN", type := .int, accessFlags := 26, slot := 0, constantValue := 0 }, { name := "INSERTIONSORT_THRESHOLD", type := .int, accessFlags := 26, slot := 1, constantValue := 0 }, { name := "$assertionsDisabled", type := .boolean, accessFlags := 4120, slot := 2, constantValue := 0 }]
  methods := #[k18m0, k18m1, k18m2, k18m3, k18m4]
  instanceTypes := #[]
  staticTypes := #[.int, .int, .boolean]
  resolved := Array.replicate 1029 none
  statics := none }

def pool19 : Array CpInfo := pool [(1, .class_ 2), (0, u "java/lang/Math"), (1, .class_ 6), (1, u "java/lang/Object"), (0, u "<init>"), (0, u "()V"), (89, .class_ 100), (1, u "java/lang/Math$RandomNumberGeneratorHolder"), (71, u "negativeZeroFloatBits"), (0, u "J"), (2, u "negativeZeroDoubleBits"), (21, u "max"), (2, u "min"), (43, u "$assertionsDisabled"), (0, u "Z"), (88, u "(II)I"), (2, u "twoToTheDoubleScaleDown"), (0, u "D"), (4, u "twoToTheDoubleScaleUp"), (9, u "E"), (3, u "PI"), (2, u "TAU"), (2, u "DEGREES_TO_RADIANS"), (0, u "RADIANS_TO_DEGREES")] 94

def k19m0 : Method := { name := "<init>", desc := "()V", sig := { parameters := [], returnType := none }, accessFlags := 2, code := none }
def k19c1 : Code := { maxStack := 2, maxLocals := 2, code := jdk_29_method_65_code, exceptionTable := #[], attributes := #[] }
def k19m1 : Method := { name := "max", desc := "(II)I", sig := { parameters := [.int, .int], returnType := some .int }, accessFlags := 9, code := some k19c1 }
def k19c2 : Code := { maxStack := 2, maxLocals := 2, code := jdk_29_method_69_code, exceptionTable := #[], attributes := #[] }
def k19m2 : Method := { name := "min", desc := "(II)I", sig := { parameters := [.int, .int], returnType := some .int }, accessFlags := 9, code := some k19c2 }
/-- java/lang/Math -/
def k19 : Class := { plain "java/lang/Math" (some 0) with
  accessFlags := 49
  interfaces := #[]
  cf := some (fileOf pool19 1 #[.nestMembers #[98]] #[{ accessFlags := 2, nameIndex := 7, descriptorIndex := 8, attributes := #[] }, { accessFlags := 9, nameIndex := 198, descriptorIndex := 335, attributes := #[] }, { accessFlags := 9, nameIndex := 201, descriptorIndex := 335, attributes := #[] }] 49 4 #[] #[{ accessFlags := 25, nameIndex := 354, descriptorIndex := 339, attributes := #[] }, { accessFlags := 25, nameIndex := 358, descriptorIndex := 339, attributes := #[] }, { accessFlags := 25, nameIndex := 361, descriptorIndex := 339, attributes := #[] }, { accessFlags := 26, nameIndex := 364, descriptorIndex := 339, attributes := #[] }, { accessFlags := 26, nameIndex := 365, descriptorIndex := 339, attributes := #[] }, { accessFlags := 26, nameIndex := 172, descriptorIndex := 173, attributes := #[] }, { accessFlags := 26, nameIndex := 176, descriptorIndex := 173, attributes := #[] }, { accessFlags := 8, nameIndex := 344, descriptorIndex := 339, attributes := #[] }, { accessFlags := 8, nameIndex := 338, descriptorIndex := 339, attributes := #[] }, { accessFlags := 4120, nameIndex := 245, descriptorIndex := 246, attributes := #[] }])
  fields := #[{ name := "E", type := .double, accessFlags := 25, slot := 0, constantValue := 0 }, { name := "PI", type := .double, accessFlags := 25, slot := 1, constantValue := 0 }, { name := "TAU", type := .double, accessFlags := 25, slot := 2, constantValue := 0 }, { name := "DEGREES_TO_RADIANS", type := .double, accessFlags := 26, slot := 3, constantValue := 0 }, { name := "RADIANS_TO_DEGREES", type := .double, accessFlags := 26, slot := 4, constantValue := 0 }, { name := "negativeZeroFloatBits", type := .long, accessFlags := 26, slot := 5, constantValue := 0 }, { name := "negativeZeroDoubleBits", type := .long, accessFlags := 26, slot := 6, constantValue := 0 }, { name := "twoToTheDoubleScaleUp", type := .double, accessFlags := 8, slot := 7, constantValue := 0 }, { name := "twoToTheDoubleScaleDown", type := .double, accessFlags := 8, slot := 8, constantValue := 0 }, { name := "$assertionsDisabled", type := .boolean, accessFlags := 4120, slot := 9, constantValue := 0 }]
  methods := #[k19m0, k19m1, k19m2]
  instanceTypes := #[]
  staticTypes := #[.double, .double, .double, .double, .double, .long, .long, .double, .double, .boolean]
  resolved := Array.replicate 460 none
  statics := none }

def pool20 : Array CpInfo := pool [(2, .class_ 4), (1, u "java/lang/Object"), (0, u "<init>"), (0, u "()V"), (1, .class_ 10), (1, u "java/lang/System"), (0, u "allowSecurityManager"), (0, u "I"), (16, u "cons"), (0, u "Ljava/io/Console;"), (77, .class_ 110), (1, u "java/lang/System$CallersHolder"), (43, u "initialErrStream"), (0, u "Ljava/io/PrintStream;"), (19, u "security"), (0, u "Ljava/lang/SecurityManager;"), (31, .class_ 209), (0, u "java/lang/System$1"), (7, u "props"), (0, u "Ljava/util/Properties;"), (2, u "lineSeparator"), (0, u "Ljava/lang/String;"), (96, .class_ 321), (1, u "java/lang/System$LoggerFinder"), (5, .class_ 328), (0, u "java/lang/System$Logger"), (67, u "err"), (2, u "out"), (91, u "notSupportedJnuEncoding"), (15, u "in"), (17, u "initialIn"), (0, u "Ljava/io/InputStream;"), (35, u "bootLayer"), (0, u "Ljava/lang/ModuleLayer;"), (99, .class_ 664), (0, u "java/lang/System$2"), (9, u "NEVER"), (2, u "MAYBE"), (49, u "arraycopy"), (0, u "(Ljava/lang/Object;ILjava/lang/Object;II)V"), (72, .class_ 802), (0, u "java/lang/System$Logger$Level")] 31

def k20m0 : Method := { name := "<init>", desc := "()V", sig := { parameters := [], returnType := none }, accessFlags := 2, code := none }
def k20m1 : Method := { name := "arraycopy", desc := "(Ljava/lang/Object;ILjava/lang/Object;II)V", sig := { parameters := [(.object "java/lang/Object"), .int, (.object "java/lang/Object"), .int, .int], returnType := none }, accessFlags := 265, code := none }
/-- java/lang/System -/
def k20 : Class := { plain "java/lang/System" (some 0) with
  accessFlags := 49
  interfaces := #[]
  cf := some (fileOf pool20 8 #[.nestMembers #[319, 327, 801, 108, 663, 208]] #[{ accessFlags := 2, nameIndex := 5, descriptorIndex := 6, attributes := #[] }, { accessFlags := 265, nameIndex := 727, descriptorIndex := 728, attributes := #[] }] 49 2 #[] #[{ accessFlags := 25, nameIndex := 507, descriptorIndex := 526, attributes := #[] }, { accessFlags := 25, nameIndex := 399, descriptorIndex := 155, attributes := #[] }, { accessFlags := 25, nameIndex := 396, descriptorIndex := 155, attributes := #[] }, { accessFlags := 10, nameIndex := 525, descriptorIndex := 526, attributes := #[] }, { accessFlags := 26, nameIndex := 674, descriptorIndex := 12, attributes := #[] }, { accessFlags := 26, nameIndex := 677, descriptorIndex := 12, attributes := #[] }, { accessFlags := 10, nameIndex := 11, descriptorIndex := 12, attributes := #[] }, { accessFlags := 74, nameIndex := 175, descriptorIndex := 176, attributes := #[] }, { accessFlags := 10, nameIndex := 491, descriptorIndex := 222, attributes := #[] }, { accessFlags := 74, nameIndex := 29, descriptorIndex := 30, attributes := #[] }, { accessFlags := 74, nameIndex := 154, descriptorIndex := 155, attributes := #[] }, { accessFlags := 10, nameIndex := 217, descriptorIndex := 218, attributes := #[] }, { accessFlags := 10, nameIndex := 221, descriptorIndex := 222, attributes := #[] }, { accessFlags := 8, nameIndex := 562, descriptorIndex := 563, attributes := #[] }])
  fields := #[{ name := "in", type := (.object "java/io/InputStream"), accessFlags := 25, slot := 0, constantValue := 0 }, { name := "out", type := (.object "java/io/PrintStream"), accessFlags := 25, slot := 1, constantValue := 0 }, { name := "err", type := (.object "java/io/PrintStream"), accessFlags := 25, slot := 2, constantValue := 0 }, { name := "initialIn", type := (.object "java/io/InputStream"), accessFlags := 10, slot := 3, constantValue := 0 }, { name := "NEVER", type := .int, accessFlags := 26, slot := 4, constantValue := 0 }, { name := "MAYBE", type := .int, accessFlags := 26, slot := 5, constantValue := 0 }, { name := "allowSecurityManager", type := .int, accessFlags := 10, slot := 6, constantValue := 0 }, { name := "security", type := (.object "java/lang/SecurityManager"), accessFlags := 74, slot := 7, constantValue := 0 }, { name := "notSupportedJnuEncoding", type := (.object "java/lang/String"), accessFlags := 10, slot := 8, constantValue := 0 }, { name := "cons", type := (.object "java/io/Console"), accessFlags := 74, slot := 9, constantValue := 0 }, { name := "initialErrStream", type := (.object "java/io/PrintStream"), accessFlags := 74, slot := 10, constantValue := 0 }, { name := "props", type := (.object "java/util/Properties"), accessFlags := 10, slot := 11, constantValue := 0 }, { name := "lineSeparator", type := (.object "java/lang/String"), accessFlags := 10, slot := 12, constantValue := 0 }, { name := "bootLayer", type := (.object "java/lang/ModuleLayer"), accessFlags := 8, slot := 13, constantValue := 0 }]
  methods := #[k20m0, k20m1]
  instanceTypes := #[]
  staticTypes := #[(.object "java/io/InputStream"), (.object "java/io/PrintStream"), (.object "java/io/PrintStream"), (.object "java/io/InputStream"), .int, .int, .int, (.object "java/lang/SecurityManager"), (.object "java/lang/String"), (.object "java/io/Console"), (.object "java/io/PrintStream"), (.object "java/util/Properties"), (.object "java/lang/String"), (.object "java/lang/ModuleLayer")]
  resolved := Array.replicate 834 none
  statics := none }

def pool21 : Array CpInfo := pool [(9, u "<init>"), (6, .class_ 18), (1, u "java/lang/Object"), (0, u "()V"), (1, .class_ 23), (1, u "jdk/internal/util/ArraysSupport"), (0, u "LOG2_ARRAY_LONG_INDEX_SCALE"), (0, u "I"), (2, u "U"), (0, u "Ljdk/internal/misc/Unsafe;"), (8, u "BIG_ENDIAN"), (0, u "Z"), (8, u "LOG2_BYTE_BIT_SIZE"), (4, u "LOG2_ARRAY_INT_INDEX_SCALE"), (54, u "JLA"), (0, u "Ljdk/internal/access/JavaLangAccess;"), (11, u "LOG2_ARRAY_BOOLEAN_INDEX_SCALE"), (9, u "LOG2_ARRAY_BYTE_INDEX_SCALE"), (5, u "LOG2_ARRAY_CHAR_INDEX_SCALE"), (5, u "LOG2_ARRAY_SHORT_INDEX_SCALE"), (18, u "LOG2_ARRAY_FLOAT_INDEX_SCALE"), (24, u "LOG2_ARRAY_DOUBLE_INDEX_SCALE"), (6, .methodref 195 196), (0, .class_ 197), (0, .nameAndType 198 199), (0, u "java/lang/Math"), (0, u "max"), (0, u "(II)I"), (0, .integer 2147483639), (76, u "T_BOOLEAN"), (2, u "T_CHAR"), (1, u "T_FLOAT"), (1, u "T_DOUBLE"), (1, u "T_BYTE"), (1, u "T_SHORT"), (1, u "T_INT"), (1, u "T_LONG"), (1, u "SOFT_MAX_ARRAY_LENGTH"), (56, u "newLength"), (0, u "(III)I")] 25

def k21m0 : Method := { name := "<init>", desc := "()V", sig := { parameters := [], returnType := none }, accessFlags := 2, code := none }
def k21c1 : Code := { maxStack := 3, maxLocals := 4, code := jdk_48_method_27_code, exceptionTable := #[], attributes := #[] }
def k21m1 : Method := { name := "newLength", desc := "(III)I", sig := { parameters := [.int, .int, .int], returnType := some .int }, accessFlags := 9, code := some k21c1 }
/-- jdk/internal/util/ArraysSupport -/
def k21 : Class := { plain "jdk/internal/util/ArraysSupport" (some 0) with
  accessFlags := 33
  interfaces := #[]
  cf := some (fileOf pool21 21 #[] #[{ accessFlags := 2, nameIndex := 9, descriptorIndex := 19, attributes := #[] }, { accessFlags := 9, nameIndex := 351, descriptorIndex := 352, attributes := #[] }] 33 16 #[] #[{ accessFlags := 24, nameIndex := 28, descriptorIndex := 29, attributes := #[] }, { accessFlags := 26, nameIndex := 38, descriptorIndex := 39, attributes := #[] }, { accessFlags := 25, nameIndex := 121, descriptorIndex := 25, attributes := #[] }, { accessFlags := 25, nameIndex := 131, descriptorIndex := 25, attributes := #[] }, { accessFlags := 25, nameIndex := 137, descriptorIndex := 25, attributes := #[] }, { accessFlags := 25, nameIndex := 143, descriptorIndex := 25, attributes := #[] }, { accessFlags := 25, nameIndex := 53, descriptorIndex := 25, attributes := #[] }, { accessFlags := 25, nameIndex := 24, descriptorIndex := 25, attributes := #[] }, { accessFlags := 25, nameIndex := 162, descriptorIndex := 25, attributes := #[] }, { accessFlags := 25, nameIndex := 187, descriptorIndex := 25, attributes := #[] }, { accessFlags := 26, nameIndex := 48, descriptorIndex := 25, attributes := #[] }, { accessFlags := 25, nameIndex := 277, descriptorIndex := 25, attributes := #[] }, { accessFlags := 25, nameIndex := 280, descriptorIndex := 25, attributes := #[] }, { accessFlags := 25, nameIndex := 282, descriptorIndex := 25, attributes := #[] }, { accessFlags := 25, nameIndex := 284, descriptorIndex := 25, attributes := #[] }, { accessFlags := 25, nameIndex := 286, descriptorIndex := 25, attributes := #[] }, { accessFlags := 25, nameIndex := 288, descriptorIndex := 25, attributes := #[] }, { accessFlags := 25, nameIndex := 290, descriptorIndex := 25, attributes := #[] }, { accessFlags := 25, nameIndex := 292, descriptorIndex := 25, attributes := #[] }, { accessFlags := 26, nameIndex := 108, descriptorIndex := 109, attributes := #[] }, { accessFlags := 25, nameIndex := 294, descriptorIndex := 25, attributes := #[] }])
  fields := #[{ name := "U", type := (.object "jdk/internal/misc/Unsafe"), accessFlags := 24, slot := 0, constantValue := 0 }, { name := "BIG_ENDIAN", type := .boolean, accessFlags := 26, slot := 1, constantValue := 0 }, { name := "LOG2_ARRAY_BOOLEAN_INDEX_SCALE", type := .int, accessFlags := 25, slot := 2, constantValue := 0 }, { name := "LOG2_ARRAY_BYTE_INDEX_SCALE", type := .int, accessFlags := 25, slot := 3, constantValue := 0 }, { name := "LOG2_ARRAY_CHAR_INDEX_SCALE", type := .int, accessFlags := 25, slot := 4, constantValue := 0 }, { name := "LOG2_ARRAY_SHORT_INDEX_SCALE", type := .int, accessFlags := 25, slot := 5, constantValue := 0 }, { name := "LOG2_ARRAY_INT_INDEX_SCALE", type := .int, accessFlags := 25, slot := 6, constantValue := 0 }, { name := "LOG2_ARRAY_LONG_INDEX_SCALE", type := .int, accessFlags := 25, slot := 7, constantValue := 0 }, { name := "LOG2_ARRAY_FLOAT_INDEX_SCALE", type := .int, accessFlags := 25, slot := 8, constantValue := 0 }, { name := "LOG2_ARRAY_DOUBLE_INDEX_SCALE", type := .int, accessFlags := 25, slot := 9, constantValue := 0 }, { name := "LOG2_BYTE_BIT_SIZE", type := .int, accessFlags := 26, slot := 10, constantValue := 0 }, { name := "T_BOOLEAN", type := .int, accessFlags := 25, slot := 11, constantValue := 0 }, { name := "T_CHAR", type := .int, accessFlags := 25, slot := 12, constantValue := 0 }, { name := "T_FLOAT", type := .int, accessFlags := 25, slot := 13, constantValue := 0 }, { name := "T_DOUBLE", type := .int, accessFlags := 25, slot := 14, constantValue := 0 }, { name := "T_BYTE", type := .int, accessFlags := 25, slot := 15, constantValue := 0 }, { name := "T_SHORT", type := .int, accessFlags := 25, slot := 16, constantValue := 0 }, { name := "T_INT", type := .int, accessFlags := 25, slot := 17, constantValue := 0 }, { name := "T_LONG", type := .int, accessFlags := 25, slot := 18, constantValue := 0 }, { name := "JLA", type := (.object "jdk/internal/access/JavaLangAccess"), accessFlags := 26, slot := 19, constantValue := 0 }, { name := "SOFT_MAX_ARRAY_LENGTH", type := .int, accessFlags := 25, slot := 20, constantValue := 0 }]
  methods := #[k21m0, k21m1]
  instanceTypes := #[]
  staticTypes := #[(.object "jdk/internal/misc/Unsafe"), .boolean, .int, .int, .int, .int, .int, .int, .int, .int, .int, .int, .int, .int, .int, .int, .int, .int, .int, (.object "jdk/internal/access/JavaLangAccess"), .int]
  resolved := Array.replicate 378 none
  statics := none }

def pool22 : Array CpInfo := pool [(1, u "java/lang/Cloneable"), (0, .class_ 1), (0, u "java/lang/Object"), (0, .class_ 3)] 3

/-- java/lang/Cloneable -/
def k22 : Class := { plain "java/lang/Cloneable" (some 0) with
  accessFlags := 1537
  interfaces := #[]
  cf := some (fileOf pool22 2 #[] #[] 1537 4 #[] #[])
  fields := #[]
  methods := #[]
  instanceTypes := #[]
  staticTypes := #[]
  resolved := Array.replicate 8 none
  statics := none }

/-- the primitive byte -/
def k23 : Class := { plain "byte" none with kind := .primitive 'B', accessFlags := 0x411 }
/-- [B -/
def k24 : Class := { plain "[B" (some 0) with kind := .array 23 .byte, interfaces := #[22, 2], accessFlags := 1041 }

/-- the primitive char -/
def k25 : Class := { plain "char" none with kind := .primitive 'C', accessFlags := 0x411 }
/-- [C -/
def k26 : Class := { plain "[C" (some 0) with kind := .array 25 .char, interfaces := #[22, 2], accessFlags := 1041 }

/-- the primitive int -/
def k27 : Class := { plain "int" none with kind := .primitive 'I', accessFlags := 0x411 }
/-- [I -/
def k28 : Class := { plain "[I" (some 0) with kind := .array 27 .int, interfaces := #[22, 2], accessFlags := 1041 }

def heap : Heap := #[{ cls := 7, slots := #[.long 0, .int 1, .null, .int 0, .null, .int 0, .int 0], vm := .statics 7 },
  { cls := 12, slots := #[.int 0, .int 8, .int 0, .int 1], vm := .statics 12 },
  { cls := 16, slots := #[.null, .null, .null], vm := .statics 16 }]
def classes : Array Class := #[k0, k1, k2, k3, k4, k5, k6, k7, k8, k9, k10, k11, k12, k13, k14, k15, k16, k17, k18, k19, k20, k21, k22, k23, k24, k25, k26, k27, k28]
def interned : List (Array UInt16 × Addr) := []
def slotsUsed : Nat := 14
def theMethod : MethodId := ⟨1, 1⟩
def args0 : Array Value := #[.int 5, .int 5, .int 5, .int 5, .int 5, .int 5]
def aboutOver (below : List Frame) : State where
  vm := { classes := classes, interned := interned.toArray }
  heap := heap
  slotsUsed := slotsUsed
  threads := #[{ frames := .invoking theMethod args0 :: below }]
def below0 : List Frame := [.native { method := ⟨0, 0⟩, args := #[] }]
def about1 : State := aboutOver below0
def p0 : Program := .bare "" "" ""
def e0 : Env := launch0.env 0 0 0
theorem w_frames : about1.frames = Frame.invoking theMethod args0 :: below0 := rfl
set_option maxRecDepth 65536 in
theorem w_args : argsFit about1.vm theMethod args0 = true := by decide +kernel
set_option maxRecDepth 65536 in
theorem w_heap : heapFits about1 = true := by decide +kernel
set_option maxRecDepth 65536 in
theorem w_runnable : about1.curStatus? = some .runnable := by decide +kernel
set_option maxRecDepth 65536 in
theorem w_alone : about1.alone = true := by decide +kernel
set_option maxRecDepth 65536 in
theorem w_named : about1.methodNamed? x = some theMethod := by decide +kernel
set_option maxRecDepth 65536 in
theorem w_hears : about1.hears theMethod below0 = true := by decide +kernel
set_option maxRecDepth 65536 in
theorem w_ripe : about1.ripe theMethod args0 below0 = true := by decide +kernel
theorem w_running : about1.status = .running := rfl
set_option maxRecDepth 65536 in
theorem w_room : about1.hasRoom e0.platform room_1 = true :=
  launch0.hasRoom_least _ room_1 (by decide +kernel) (by decide +kernel) (by decide +kernel) (by decide +kernel) (by decide +kernel) (by decide +kernel)
theorem allAtoms_all (ts : List Jvm.Cond) (a : Array Jvm.Value) (st : Jvm.State) : (allAtoms ts).before a st = ts.all (fun c => c.before a st) := by
  induction ts with
  | nil => rfl
  | cons c t ih =>
    show (Jvm.Cond.and c (allAtoms t)).before a st = _
    rw [Jvm.Cond.before_and, ih, List.all_cons]
def words1 : List Jvm.Cond := Jvm.Cond.code x code maxLocals ret :: tables_1
/-- a 'code' word, met by the world's own term for the bytes: nothing is compared byte by byte -/
theorem code_word {y : MethodName} {bytes : ByteArray} {mx : Nat} {rt : Option FieldType} {a : Array Value} {s : State} {m : MethodId} {meth : Method} {c : Code} (h1 : s.methodNamed? y = some m) (h2 : s.vm.method? m = some meth) (h3 : meth.code = some c) (h4 : c.code = bytes)
    (h5 : (c.maxLocals == mx && c.exceptionTable.isEmpty && decide (c.maxStack ≤ mostOperands) && decide (meth.sig.returnType = rt) && !meth.locks && decide (parseMethodDescriptor y.desc = some meth.sig)) = true) : (Jvm.Cond.code y bytes mx rt).before a s = true := by
  simp only [Bool.and_eq_true, beq_iff_eq, Bool.not_eq_true', decide_eq_true_eq] at h5
  obtain ⟨⟨⟨⟨⟨g1, g2⟩, g3⟩, g4⟩, g5⟩, g6⟩ := h5
  simp [Cond.before, Cond.holds, Cond.value, h1, h2, h3, h4, g1, g2, g3, g4, g5, g6]
def isCode : Jvm.Cond → Bool
  | .code _ _ _ _ => true
  | _ => false
theorem all_split {L : List Jvm.Cond} {P : Jvm.Cond → Bool} (h1 : L.all (fun c => isCode c || P c) = true) (h2 : ∀ c ∈ L.filter isCode, P c = true) : L.all P = true := by
  refine List.all_eq_true.mpr fun c hc => ?_
  have h := List.all_eq_true.mp h1 c hc
  rcases Bool.eq_false_or_eq_true (isCode c) with hi | hi
  · exact h2 c (List.mem_filter.mpr ⟨hc, hi⟩)
  · simpa [hi] using h
set_option maxRecDepth 65536 in
theorem w_c0 : (Jvm.Cond.code x code maxLocals ret).before args0 about1 = true := code_word (m := ⟨1, 1⟩) (meth := k1m1) (c := k1c1) (by decide +kernel) rfl rfl rfl (by decide +kernel)
set_option maxRecDepth 65536 in
theorem w_c1 : (Jvm.Cond.code ({ cls := "java/lang/String", name := "<init>", desc := "([C)V" } : Jvm.MethodName) jdk_42_method_3_code (2 : Nat) (Option.none : Option Jvm.ClassFile.FieldType)).before args0 about1 = true := code_word (m := ⟨7, 1⟩) (meth := k7m1) (c := k7c1) (by decide +kernel) rfl rfl rfl (by decide +kernel)
set_option maxRecDepth 65536 in
theorem w_c2 : (Jvm.Cond.code ({ cls := "java/lang/String", name := "<init>", desc := "([CIILjava/lang/Void;)V" } : Jvm.MethodName) jdk_42_method_149_code (6 : Nat) (Option.none : Option Jvm.ClassFile.FieldType)).before args0 about1 = true := code_word (m := ⟨7, 8⟩) (meth := k7m8) (c := k7c8) (by decide +kernel) rfl rfl rfl (by decide +kernel)
set_option maxRecDepth 65536 in
theorem w_c3 : (Jvm.Cond.code ({ cls := "java/lang/Object", name := "<init>", desc := "()V" } : Jvm.MethodName) object_method_1_code (1 : Nat) (Option.none : Option Jvm.ClassFile.FieldType)).before args0 about1 = true := code_word (m := ⟨0, 0⟩) (meth := k0m0) (c := k0c0) (by decide +kernel) rfl rfl rfl (by decide +kernel)
set_option maxRecDepth 65536 in
theorem w_c4 : (Jvm.Cond.code ({ cls := "com/example/holdfast/holdfast/InvalidInputException", name := "quoted", desc := "(Ljava/lang/String;)Ljava/lang/String;" } : Jvm.MethodName) prog_7_method_2_code (1 : Nat) (Option.some (Jvm.ClassFile.FieldType.object "java/lang/String"))).before args0 about1 = true := code_word (m := ⟨11, 0⟩) (meth := k11m0) (c := k11c0) (by decide +kernel) rfl rfl rfl (by decide +kernel)
set_option maxRecDepth 65536 in
theorem w_c5 : (Jvm.Cond.code ({ cls := "java/lang/String", name := "length", desc := "()I" } : Jvm.MethodName) jdk_42_method_54_code (1 : Nat) (Option.some Jvm.ClassFile.FieldType.int)).before args0 about1 = true := code_word (m := ⟨7, 3⟩) (meth := k7m3) (c := k7c3) (by decide +kernel) rfl rfl rfl (by decide +kernel)
set_option maxRecDepth 65536 in
theorem w_c6 : (Jvm.Cond.code ({ cls := "java/lang/String", name := "coder", desc := "()B" } : Jvm.MethodName) jdk_42_method_152_code (1 : Nat) (Option.some Jvm.ClassFile.FieldType.byte)).before args0 about1 = true := code_word (m := ⟨7, 11⟩) (meth := k7m11) (c := k7c11) (by decide +kernel) rfl rfl rfl (by decide +kernel)
set_option maxRecDepth 65536 in
theorem w_c7 : (Jvm.Cond.code ({ cls := "java/lang/String", name := "equals", desc := "(Ljava/lang/Object;)Z" } : Jvm.MethodName) jdk_42_method_66_code (3 : Nat) (Option.some Jvm.ClassFile.FieldType.boolean)).before args0 about1 = true := code_word (m := ⟨7, 5⟩) (meth := k7m5) (c := k7c5) (by decide +kernel) rfl rfl rfl (by decide +kernel)
set_option maxRecDepth 65536 in
theorem w_c8 : (Jvm.Cond.code ({ cls := "java/lang/StringUTF16", name := "compress", desc := "([CII)[B" } : Jvm.MethodName) jdk_52_method_16_code (6 : Nat) (Option.some (Jvm.ClassFile.FieldType.array Jvm.ClassFile.FieldType.byte))).before args0 about1 = true := code_word (m := ⟨12, 8⟩) (meth := k12m8) (c := k12c8) (by decide +kernel) rfl rfl rfl (by decide +kernel)
set_option maxRecDepth 65536 in
theorem w_c9 : (Jvm.Cond.code ({ cls := "java/lang/StringUTF16", name := "compress", desc := "([CI[BII)I" } : Jvm.MethodName) jdk_52_method_21_code (7 : Nat) (Option.some Jvm.ClassFile.FieldType.int)).before args0 about1 = true := code_word (m := ⟨12, 10⟩) (meth := k12m10) (c := k12c10) (by decide +kernel) rfl rfl rfl (by decide +kernel)
set_option maxRecDepth 65536 in
theorem w_c10 : (Jvm.Cond.code ({ cls := "java/lang/StringUTF16", name := "coderFromArrayLen", desc := "([BI)B" } : Jvm.MethodName) jdk_52_method_15_code (2 : Nat) (Option.some Jvm.ClassFile.FieldType.byte)).before args0 about1 = true := code_word (m := ⟨12, 7⟩) (meth := k12m7) (c := k12c7) (by decide +kernel) rfl rfl rfl (by decide +kernel)
set_option maxRecDepth 65536 in
theorem w_c11 : (Jvm.Cond.code ({ cls := "java/lang/StringBuilder", name := "<init>", desc := "()V" } : Jvm.MethodName) jdk_67_method_1_code (1 : Nat) (Option.none : Option Jvm.ClassFile.FieldType)).before args0 about1 = true := code_word (m := ⟨15, 0⟩) (meth := k15m0) (c := k15c0) (by decide +kernel) rfl rfl rfl (by decide +kernel)
set_option maxRecDepth 65536 in
theorem w_c12 : (Jvm.Cond.code ({ cls := "java/lang/AbstractStringBuilder", name := "<init>", desc := "(I)V" } : Jvm.MethodName) jdk_68_method_2_code (2 : Nat) (Option.none : Option Jvm.ClassFile.FieldType)).before args0 about1 = true := code_word (m := ⟨14, 1⟩) (meth := k14m1) (c := k14c1) (by decide +kernel) rfl rfl rfl (by decide +kernel)
set_option maxRecDepth 65536 in
theorem w_c13 : (Jvm.Cond.code ({ cls := "java/lang/String", name := "substring", desc := "(II)Ljava/lang/String;" } : Jvm.MethodName) jdk_42_method_92_code (5 : Nat) (Option.some (Jvm.ClassFile.FieldType.object "java/lang/String"))).before args0 about1 = true := code_word (m := ⟨7, 6⟩) (meth := k7m6) (c := k7c6) (by decide +kernel) rfl rfl rfl (by decide +kernel)
set_option maxRecDepth 65536 in
theorem w_c14 : (Jvm.Cond.code ({ cls := "java/lang/String", name := "checkBoundsBeginEnd", desc := "(III)V" } : Jvm.MethodName) jdk_42_method_158_code (3 : Nat) (Option.none : Option Jvm.ClassFile.FieldType)).before args0 about1 = true := code_word (m := ⟨7, 15⟩) (meth := k7m15) (c := k7c15) (by decide +kernel) rfl rfl rfl (by decide +kernel)
set_option maxRecDepth 65536 in
theorem w_c15 : (Jvm.Cond.code ({ cls := "jdk/internal/util/Preconditions", name := "checkFromToIndex", desc := "(IIILjava/util/function/BiFunction;)I" } : Jvm.MethodName) jdk_41_method_12_code (4 : Nat) (Option.some Jvm.ClassFile.FieldType.int)).before args0 about1 = true := code_word (m := ⟨16, 2⟩) (meth := k16m2) (c := k16c2) (by decide +kernel) rfl rfl rfl (by decide +kernel)
set_option maxRecDepth 65536 in
theorem w_c16 : (Jvm.Cond.code ({ cls := "java/lang/String", name := "isLatin1", desc := "()Z" } : Jvm.MethodName) jdk_42_method_154_code (1 : Nat) (Option.some Jvm.ClassFile.FieldType.boolean)).before args0 about1 = true := code_word (m := ⟨7, 12⟩) (meth := k7m12) (c := k7c12) (by decide +kernel) rfl rfl rfl (by decide +kernel)
set_option maxRecDepth 65536 in
theorem w_c17 : (Jvm.Cond.code ({ cls := "java/lang/StringLatin1", name := "newString", desc := "([BII)Ljava/lang/String;" } : Jvm.MethodName) jdk_43_method_47_code (3 : Nat) (Option.some (Jvm.ClassFile.FieldType.object "java/lang/String"))).before args0 about1 = true := code_word (m := ⟨17, 2⟩) (meth := k17m2) (c := k17c2) (by decide +kernel) rfl rfl rfl (by decide +kernel)
set_option maxRecDepth 65536 in
theorem w_c18 : (Jvm.Cond.code ({ cls := "java/util/Arrays", name := "copyOfRange", desc := "([BII)[B" } : Jvm.MethodName) jdk_65_method_132_code (3 : Nat) (Option.some (Jvm.ClassFile.FieldType.array Jvm.ClassFile.FieldType.byte))).before args0 about1 = true := code_word (m := ⟨18, 3⟩) (meth := k18m3) (c := k18c3) (by decide +kernel) rfl rfl rfl (by decide +kernel)
set_option maxRecDepth 65536 in
theorem w_c19 : (Jvm.Cond.code ({ cls := "java/util/Arrays", name := "copyOfRangeByte", desc := "([BII)[B" } : Jvm.MethodName) jdk_65_method_133_code (5 : Nat) (Option.some (Jvm.ClassFile.FieldType.array Jvm.ClassFile.FieldType.byte))).before args0 about1 = true := code_word (m := ⟨18, 4⟩) (meth := k18m4) (c := k18c4) (by decide +kernel) rfl rfl rfl (by decide +kernel)
set_option maxRecDepth 65536 in
theorem w_c20 : (Jvm.Cond.code ({ cls := "java/util/Arrays", name := "checkLength", desc := "(II)V" } : Jvm.MethodName) jdk_65_method_131_code (2 : Nat) (Option.none : Option Jvm.ClassFile.FieldType)).before args0 about1 = true := code_word (m := ⟨18, 2⟩) (meth := k18m2) (c := k18c2) (by decide +kernel) rfl rfl rfl (by decide +kernel)
set_option maxRecDepth 65536 in
theorem w_c21 : (Jvm.Cond.code ({ cls := "java/lang/Math", name := "min", desc := "(II)I" } : Jvm.MethodName) jdk_29_method_69_code (2 : Nat) (Option.some Jvm.ClassFile.FieldType.int)).before args0 about1 = true := code_word (m := ⟨19, 2⟩) (meth := k19m2) (c := k19c2) (by decide +kernel) rfl rfl rfl (by decide +kernel)
set_option maxRecDepth 65536 in
theorem w_c22 : (Jvm.Cond.code ({ cls := "java/lang/String", name := "<init>", desc := "([BB)V" } : Jvm.MethodName) jdk_42_method_151_code (3 : Nat) (Option.none : Option Jvm.ClassFile.FieldType)).before args0 about1 = true := code_word (m := ⟨7, 10⟩) (meth := k7m10) (c := k7c10) (by decide +kernel) rfl rfl rfl (by decide +kernel)
set_option maxRecDepth 65536 in
theorem w_c23 : (Jvm.Cond.code ({ cls := "java/lang/StringBuilder", name := "append", desc := "(Ljava/lang/String;)Ljava/lang/StringBuilder;" } : Jvm.MethodName) jdk_67_method_7_code (2 : Nat) (Option.some (Jvm.ClassFile.FieldType.object "java/lang/StringBuilder"))).before args0 about1 = true := code_word (m := ⟨15, 1⟩) (meth := k15m1) (c := k15c1) (by decide +kernel) rfl rfl rfl (by decide +kernel)
set_option maxRecDepth 65536 in
theorem w_c24 : (Jvm.Cond.code ({ cls := "java/lang/AbstractStringBuilder", name := "append", desc := "(Ljava/lang/String;)Ljava/lang/AbstractStringBuilder;" } : Jvm.MethodName) jdk_68_method_22_code (3 : Nat) (Option.some (Jvm.ClassFile.FieldType.object "java/lang/AbstractStringBuilder"))).before args0 about1 = true := code_word (m := ⟨14, 6⟩) (meth := k14m6) (c := k14c6) (by decide +kernel) rfl rfl rfl (by decide +kernel)
set_option maxRecDepth 65536 in
theorem w_c25 : (Jvm.Cond.code ({ cls := "java/lang/AbstractStringBuilder", name := "ensureCapacityInternal", desc := "(I)V" } : Jvm.MethodName) jdk_68_method_9_code (3 : Nat) (Option.none : Option Jvm.ClassFile.FieldType)).before args0 about1 = true := code_word (m := ⟨14, 3⟩) (meth := k14m3) (c := k14c3) (by decide +kernel) rfl rfl rfl (by decide +kernel)
set_option maxRecDepth 65536 in
theorem w_c26 : (Jvm.Cond.code ({ cls := "java/lang/AbstractStringBuilder", name := "newCapacity", desc := "(I)I" } : Jvm.MethodName) jdk_68_method_10_code (6 : Nat) (Option.some Jvm.ClassFile.FieldType.int)).before args0 about1 = true := code_word (m := ⟨14, 4⟩) (meth := k14m4) (c := k14c4) (by decide +kernel) rfl rfl rfl (by decide +kernel)
set_option maxRecDepth 65536 in
theorem w_c27 : (Jvm.Cond.code ({ cls := "jdk/internal/util/ArraysSupport", name := "newLength", desc := "(III)I" } : Jvm.MethodName) jdk_48_method_27_code (4 : Nat) (Option.some Jvm.ClassFile.FieldType.int)).before args0 about1 = true := code_word (m := ⟨21, 1⟩) (meth := k21m1) (c := k21c1) (by decide +kernel) rfl rfl rfl (by decide +kernel)
set_option maxRecDepth 65536 in
theorem w_c28 : (Jvm.Cond.code ({ cls := "java/lang/Math", name := "max", desc := "(II)I" } : Jvm.MethodName) jdk_29_method_65_code (2 : Nat) (Option.some Jvm.ClassFile.FieldType.int)).before args0 about1 = true := code_word (m := ⟨19, 1⟩) (meth := k19m1) (c := k19c1) (by decide +kernel) rfl rfl rfl (by decide +kernel)
set_option maxRecDepth 65536 in
theorem w_c29 : (Jvm.Cond.code ({ cls := "java/util/Arrays", name := "copyOf", desc := "([BI)[B" } : Jvm.MethodName) jdk_65_method_121_code (3 : Nat) (Option.some (Jvm.ClassFile.FieldType.array Jvm.ClassFile.FieldType.byte))).before args0 about1 = true := code_word (m := ⟨18, 1⟩) (meth := k18m1) (c := k18c1) (by decide +kernel) rfl rfl rfl (by decide +kernel)
set_option maxRecDepth 65536 in
theorem w_c30 : (Jvm.Cond.code ({ cls := "java/lang/AbstractStringBuilder", name := "putStringAt", desc := "(ILjava/lang/String;)V" } : Jvm.MethodName) jdk_68_method_73_code (3 : Nat) (Option.none : Option Jvm.ClassFile.FieldType)).before args0 about1 = true := code_word (m := ⟨14, 10⟩) (meth := k14m10) (c := k14c10) (by decide +kernel) rfl rfl rfl (by decide +kernel)
set_option maxRecDepth 65536 in
theorem w_c31 : (Jvm.Cond.code ({ cls := "java/lang/AbstractStringBuilder", name := "inflateIfNeededFor", desc := "(Ljava/lang/String;)V" } : Jvm.MethodName) jdk_68_method_71_code (2 : Nat) (Option.none : Option Jvm.ClassFile.FieldType)).before args0 about1 = true := code_word (m := ⟨14, 9⟩) (meth := k14m9) (c := k14c9) (by decide +kernel) rfl rfl rfl (by decide +kernel)
set_option maxRecDepth 65536 in
theorem w_c32 : (Jvm.Cond.code ({ cls := "java/lang/String", name := "getBytes", desc := "([BIB)V" } : Jvm.MethodName) jdk_42_method_147_code (4 : Nat) (Option.none : Option Jvm.ClassFile.FieldType)).before args0 about1 = true := code_word (m := ⟨7, 7⟩) (meth := k7m7) (c := k7c7) (by decide +kernel) rfl rfl rfl (by decide +kernel)
set_option maxRecDepth 65536 in
theorem w_c33 : (Jvm.Cond.code ({ cls := "java/lang/StringBuilder", name := "toString", desc := "()Ljava/lang/String;" } : Jvm.MethodName) jdk_67_method_42_code (1 : Nat) (Option.some (Jvm.ClassFile.FieldType.object "java/lang/String"))).before args0 about1 = true := code_word (m := ⟨15, 2⟩) (meth := k15m2) (c := k15c2) (by decide +kernel) rfl rfl rfl (by decide +kernel)
set_option maxRecDepth 65536 in
theorem w_c34 : (Jvm.Cond.code ({ cls := "java/lang/String", name := "<init>", desc := "(Ljava/lang/StringBuilder;)V" } : Jvm.MethodName) jdk_42_method_53_code (2 : Nat) (Option.none : Option Jvm.ClassFile.FieldType)).before args0 about1 = true := code_word (m := ⟨7, 2⟩) (meth := k7m2) (c := k7c2) (by decide +kernel) rfl rfl rfl (by decide +kernel)
set_option maxRecDepth 65536 in
theorem w_c35 : (Jvm.Cond.code ({ cls := "java/lang/String", name := "<init>", desc := "(Ljava/lang/AbstractStringBuilder;Ljava/lang/Void;)V" } : Jvm.MethodName) jdk_42_method_150_code (5 : Nat) (Option.none : Option Jvm.ClassFile.FieldType)).before args0 about1 = true := code_word (m := ⟨7, 9⟩) (meth := k7m9) (c := k7c9) (by decide +kernel) rfl rfl rfl (by decide +kernel)
set_option maxRecDepth 65536 in
theorem w_c36 : (Jvm.Cond.code ({ cls := "java/lang/AbstractStringBuilder", name := "getValue", desc := "()[B" } : Jvm.MethodName) jdk_68_method_64_code (1 : Nat) (Option.some (Jvm.ClassFile.FieldType.array Jvm.ClassFile.FieldType.byte))).before args0 about1 = true := code_word (m := ⟨14, 7⟩) (meth := k14m7) (c := k14c7) (by decide +kernel) rfl rfl rfl (by decide +kernel)
set_option maxRecDepth 65536 in
theorem w_c37 : (Jvm.Cond.code ({ cls := "java/lang/StringBuilder", name := "length", desc := "()I" } : Jvm.MethodName) jdk_67_method_93_code (1 : Nat) (Option.some Jvm.ClassFile.FieldType.int)).before args0 about1 = true := code_word (m := ⟨15, 3⟩) (meth := k15m3) (c := k15c3) (by decide +kernel) rfl rfl rfl (by decide +kernel)
set_option maxRecDepth 65536 in
theorem w_c38 : (Jvm.Cond.code ({ cls := "java/lang/AbstractStringBuilder", name := "length", desc := "()I" } : Jvm.MethodName) jdk_68_method_6_code (1 : Nat) (Option.some Jvm.ClassFile.FieldType.int)).before args0 about1 = true := code_word (m := ⟨14, 2⟩) (meth := k14m2) (c := k14c2) (by decide +kernel) rfl rfl rfl (by decide +kernel)
set_option maxRecDepth 65536 in
theorem w_c39 : (Jvm.Cond.code ({ cls := "java/lang/AbstractStringBuilder", name := "isLatin1", desc := "()Z" } : Jvm.MethodName) jdk_68_method_68_code (1 : Nat) (Option.some Jvm.ClassFile.FieldType.boolean)).before args0 about1 = true := code_word (m := ⟨14, 8⟩) (meth := k14m8) (c := k14c8) (by decide +kernel) rfl rfl rfl (by decide +kernel)
set_option maxRecDepth 65536 in
theorem w_c40 : (Jvm.Cond.code ({ cls := "java/lang/String", name := "charAt", desc := "(I)C" } : Jvm.MethodName) jdk_42_method_56_code (2 : Nat) (Option.some Jvm.ClassFile.FieldType.char)).before args0 about1 = true := code_word (m := ⟨7, 4⟩) (meth := k7m4) (c := k7c4) (by decide +kernel) rfl rfl rfl (by decide +kernel)
set_option maxRecDepth 65536 in
theorem w_c41 : (Jvm.Cond.code ({ cls := "java/lang/StringLatin1", name := "charAt", desc := "([BI)C" } : Jvm.MethodName) jdk_43_method_2_code (2 : Nat) (Option.some Jvm.ClassFile.FieldType.char)).before args0 about1 = true := code_word (m := ⟨17, 1⟩) (meth := k17m1) (c := k17c1) (by decide +kernel) rfl rfl rfl (by decide +kernel)
set_option maxRecDepth 65536 in
theorem w_c42 : (Jvm.Cond.code ({ cls := "java/lang/String", name := "checkIndex", desc := "(II)V" } : Jvm.MethodName) jdk_42_method_155_code (2 : Nat) (Option.none : Option Jvm.ClassFile.FieldType)).before args0 about1 = true := code_word (m := ⟨7, 13⟩) (meth := k7m13) (c := k7c13) (by decide +kernel) rfl rfl rfl (by decide +kernel)
set_option maxRecDepth 65536 in
theorem w_c43 : (Jvm.Cond.code ({ cls := "jdk/internal/util/Preconditions", name := "checkIndex", desc := "(IILjava/util/function/BiFunction;)I" } : Jvm.MethodName) jdk_41_method_11_code (3 : Nat) (Option.some Jvm.ClassFile.FieldType.int)).before args0 about1 = true := code_word (m := ⟨16, 1⟩) (meth := k16m1) (c := k16c1) (by decide +kernel) rfl rfl rfl (by decide +kernel)
set_option maxRecDepth 65536 in
theorem w_c44 : (Jvm.Cond.code ({ cls := "java/lang/StringUTF16", name := "toBytes", desc := "([CII)[B" } : Jvm.MethodName) jdk_52_method_14_code (5 : Nat) (Option.some (Jvm.ClassFile.FieldType.array Jvm.ClassFile.FieldType.byte))).before args0 about1 = true := code_word (m := ⟨12, 6⟩) (meth := k12m6) (c := k12c6) (by decide +kernel) rfl rfl rfl (by decide +kernel)
set_option maxRecDepth 65536 in
theorem w_c45 : (Jvm.Cond.code ({ cls := "java/lang/StringUTF16", name := "newBytesFor", desc := "(I)[B" } : Jvm.MethodName) jdk_52_method_2_code (1 : Nat) (Option.some (Jvm.ClassFile.FieldType.array Jvm.ClassFile.FieldType.byte))).before args0 about1 = true := code_word (m := ⟨12, 1⟩) (meth := k12m1) (c := k12c1) (by decide +kernel) rfl rfl rfl (by decide +kernel)
set_option maxRecDepth 65536 in
theorem w_c46 : (Jvm.Cond.code ({ cls := "java/lang/StringUTF16", name := "newBytesLength", desc := "(I)I" } : Jvm.MethodName) jdk_52_method_3_code (1 : Nat) (Option.some Jvm.ClassFile.FieldType.int)).before args0 about1 = true := code_word (m := ⟨12, 2⟩) (meth := k12m2) (c := k12c2) (by decide +kernel) rfl rfl rfl (by decide +kernel)
set_option maxRecDepth 65536 in
theorem w_c47 : (Jvm.Cond.code ({ cls := "java/lang/StringUTF16", name := "putChar", desc := "([BII)V" } : Jvm.MethodName) jdk_52_method_4_code (3 : Nat) (Option.none : Option Jvm.ClassFile.FieldType)).before args0 about1 = true := code_word (m := ⟨12, 3⟩) (meth := k12m3) (c := k12c3) (by decide +kernel) rfl rfl rfl (by decide +kernel)
set_option maxRecDepth 65536 in
theorem w_c48 : (Jvm.Cond.code ({ cls := "java/lang/StringUTF16", name := "getChar", desc := "([BI)C" } : Jvm.MethodName) jdk_52_method_5_code (2 : Nat) (Option.some Jvm.ClassFile.FieldType.char)).before args0 about1 = true := code_word (m := ⟨12, 4⟩) (meth := k12m4) (c := k12c4) (by decide +kernel) rfl rfl rfl (by decide +kernel)
set_option maxRecDepth 65536 in
theorem w_c49 : (Jvm.Cond.code ({ cls := "java/lang/StringUTF16", name := "newString", desc := "([BII)Ljava/lang/String;" } : Jvm.MethodName) jdk_52_method_69_code (5 : Nat) (Option.some (Jvm.ClassFile.FieldType.object "java/lang/String"))).before args0 about1 = true := code_word (m := ⟨12, 12⟩) (meth := k12m12) (c := k12c12) (by decide +kernel) rfl rfl rfl (by decide +kernel)
set_option maxRecDepth 65536 in
theorem w_c50 : (Jvm.Cond.code ({ cls := "java/lang/StringUTF16", name := "compress", desc := "([BII)[B" } : Jvm.MethodName) jdk_52_method_17_code (6 : Nat) (Option.some (Jvm.ClassFile.FieldType.array Jvm.ClassFile.FieldType.byte))).before args0 about1 = true := code_word (m := ⟨12, 9⟩) (meth := k12m9) (c := k12c9) (by decide +kernel) rfl rfl rfl (by decide +kernel)
set_option maxRecDepth 65536 in
theorem w_c51 : (Jvm.Cond.code ({ cls := "java/lang/StringUTF16", name := "compress", desc := "([BI[BII)I" } : Jvm.MethodName) jdk_52_method_22_code (7 : Nat) (Option.some Jvm.ClassFile.FieldType.int)).before args0 about1 = true := code_word (m := ⟨12, 11⟩) (meth := k12m11) (c := k12c11) (by decide +kernel) rfl rfl rfl (by decide +kernel)
set_option maxRecDepth 65536 in
theorem w_c52 : (Jvm.Cond.code ({ cls := "java/lang/StringUTF16", name := "checkBoundsOffCount", desc := "(II[B)V" } : Jvm.MethodName) jdk_52_method_94_code (3 : Nat) (Option.none : Option Jvm.ClassFile.FieldType)).before args0 about1 = true := code_word (m := ⟨12, 16⟩) (meth := k12m16) (c := k12c16) (by decide +kernel) rfl rfl rfl (by decide +kernel)
set_option maxRecDepth 65536 in
theorem w_c53 : (Jvm.Cond.code ({ cls := "java/lang/StringUTF16", name := "length", desc := "([B)I" } : Jvm.MethodName) jdk_52_method_6_code (1 : Nat) (Option.some Jvm.ClassFile.FieldType.int)).before args0 about1 = true := code_word (m := ⟨12, 5⟩) (meth := k12m5) (c := k12c5) (by decide +kernel) rfl rfl rfl (by decide +kernel)
set_option maxRecDepth 65536 in
theorem w_c54 : (Jvm.Cond.code ({ cls := "java/lang/String", name := "checkBoundsOffCount", desc := "(III)I" } : Jvm.MethodName) jdk_42_method_157_code (3 : Nat) (Option.some Jvm.ClassFile.FieldType.int)).before args0 about1 = true := code_word (m := ⟨7, 14⟩) (meth := k7m14) (c := k7c14) (by decide +kernel) rfl rfl rfl (by decide +kernel)
set_option maxRecDepth 65536 in
theorem w_c55 : (Jvm.Cond.code ({ cls := "jdk/internal/util/Preconditions", name := "checkFromIndexSize", desc := "(IIILjava/util/function/BiFunction;)I" } : Jvm.MethodName) jdk_41_method_13_code (4 : Nat) (Option.some Jvm.ClassFile.FieldType.int)).before args0 about1 = true := code_word (m := ⟨16, 3⟩) (meth := k16m3) (c := k16c3) (by decide +kernel) rfl rfl rfl (by decide +kernel)
set_option maxRecDepth 65536 in
theorem w_c56 : (Jvm.Cond.code ({ cls := "java/lang/AbstractStringBuilder", name := "inflate", desc := "()V" } : Jvm.MethodName) jdk_68_method_11_code (2 : Nat) (Option.none : Option Jvm.ClassFile.FieldType)).before args0 about1 = true := code_word (m := ⟨14, 5⟩) (meth := k14m5) (c := k14c5) (by decide +kernel) rfl rfl rfl (by decide +kernel)
set_option maxRecDepth 65536 in
theorem w_c57 : (Jvm.Cond.code ({ cls := "java/lang/StringLatin1", name := "inflate", desc := "([BI[BII)V" } : Jvm.MethodName) jdk_43_method_50_code (5 : Nat) (Option.none : Option Jvm.ClassFile.FieldType)).before args0 about1 = true := code_word (m := ⟨17, 3⟩) (meth := k17m3) (c := k17c3) (by decide +kernel) rfl rfl rfl (by decide +kernel)
set_option maxRecDepth 65536 in
theorem w_c58 : (Jvm.Cond.code ({ cls := "java/lang/StringUTF16", name := "inflate", desc := "([BI[BII)V" } : Jvm.MethodName) jdk_52_method_86_code (6 : Nat) (Option.none : Option Jvm.ClassFile.FieldType)).before args0 about1 = true := code_word (m := ⟨12, 14⟩) (meth := k12m14) (c := k12c14) (by decide +kernel) rfl rfl rfl (by decide +kernel)
set_option maxRecDepth 65536 in
theorem w_c59 : (Jvm.Cond.code ({ cls := "java/lang/StringUTF16", name := "charAt", desc := "([BI)C" } : Jvm.MethodName) jdk_52_method_83_code (2 : Nat) (Option.some Jvm.ClassFile.FieldType.char)).before args0 about1 = true := code_word (m := ⟨12, 13⟩) (meth := k12m13) (c := k12c13) (by decide +kernel) rfl rfl rfl (by decide +kernel)
set_option maxRecDepth 65536 in
theorem w_c60 : (Jvm.Cond.code ({ cls := "java/lang/StringUTF16", name := "checkIndex", desc := "(I[B)V" } : Jvm.MethodName) jdk_52_method_91_code (2 : Nat) (Option.none : Option Jvm.ClassFile.FieldType)).before args0 about1 = true := code_word (m := ⟨12, 15⟩) (meth := k12m15) (c := k12c15) (by decide +kernel) rfl rfl rfl (by decide +kernel)
def codes1 : List Jvm.Cond := [Jvm.Cond.code x code maxLocals ret, Jvm.Cond.code ({ cls := "java/lang/String", name := "<init>", desc := "([C)V" } : Jvm.MethodName) jdk_42_method_3_code (2 : Nat) (Option.none : Option Jvm.ClassFile.FieldType), Jvm.Cond.code ({ cls := "java/lang/String", name := "<init>", desc := "([CIILjava/lang/Void;)V" } : Jvm.MethodName) jdk_42_method_149_code (6 : Nat) (Option.none : Option Jvm.ClassFile.FieldType), Jvm.Cond.code ({ cls := "java/lang/Object", name := "<init>", desc := "()V" } : Jvm.MethodName) object_method_1_code (1 : Nat) (Option.none : Option Jvm.ClassFile.FieldType), Jvm.Cond.code ({ cls := "com/example/holdfast/holdfast/InvalidInputException", name := "quoted", desc := "(Ljava/lang/String;)Ljava/lang/String;" } : Jvm.MethodName) prog_7_method_2_code (1 : Nat) (Option.some (Jvm.ClassFile.FieldType.object "java/lang/String")), Jvm.Cond.code ({ cls := "java/lang/String", name := "length", desc := "()I" } : Jvm.MethodName) jdk_42_method_54_code (1 : Nat) (Option.some Jvm.ClassFile.FieldType.int), Jvm.Cond.code ({ cls := "java/lang/String", name := "coder", desc := "()B" } : Jvm.MethodName) jdk_42_method_152_code (1 : Nat) (Option.some Jvm.ClassFile.FieldType.byte), Jvm.Cond.code ({ cls := "java/lang/String", name := "equals", desc := "(Ljava/lang/Object;)Z" } : Jvm.MethodName) jdk_42_method_66_code (3 : Nat) (Option.some Jvm.ClassFile.FieldType.boolean), Jvm.Cond.code ({ cls := "java/lang/StringUTF16", name := "compress", desc := "([CII)[B" } : Jvm.MethodName) jdk_52_method_16_code (6 : Nat) (Option.some (Jvm.ClassFile.FieldType.array Jvm.ClassFile.FieldType.byte)), Jvm.Cond.code ({ cls := "java/lang/StringUTF16", name := "compress", desc := "([CI[BII)I" } : Jvm.MethodName) jdk_52_method_21_code (7 : Nat) (Option.some Jvm.ClassFile.FieldType.int), Jvm.Cond.code ({ cls := "java/lang/StringUTF16", name := "coderFromArrayLen", desc := "([BI)B" } : Jvm.MethodName) jdk_52_method_15_code (2 : Nat) (Option.some Jvm.ClassFile.FieldType.byte), Jvm.Cond.code ({ cls := "java/lang/StringBuilder", name := "<init>", desc := "()V" } : Jvm.MethodName) jdk_67_method_1_code (1 : Nat) (Option.none : Option Jvm.ClassFile.FieldType), Jvm.Cond.code ({ cls := "java/lang/AbstractStringBuilder", name := "<init>", desc := "(I)V" } : Jvm.MethodName) jdk_68_method_2_code (2 : Nat) (Option.none : Option Jvm.ClassFile.FieldType), Jvm.Cond.code ({ cls := "java/lang/String", name := "substring", desc := "(II)Ljava/lang/String;" } : Jvm.MethodName) jdk_42_method_92_code (5 : Nat) (Option.some (Jvm.ClassFile.FieldType.object "java/lang/String")), Jvm.Cond.code ({ cls := "java/lang/String", name := "checkBoundsBeginEnd", desc := "(III)V" } : Jvm.MethodName) jdk_42_method_158_code (3 : Nat) (Option.none : Option Jvm.ClassFile.FieldType), Jvm.Cond.code ({ cls := "jdk/internal/util/Preconditions", name := "checkFromToIndex", desc := "(IIILjava/util/function/BiFunction;)I" } : Jvm.MethodName) jdk_41_method_12_code (4 : Nat) (Option.some Jvm.ClassFile.FieldType.int), Jvm.Cond.code ({ cls := "java/lang/String", name := "isLatin1", desc := "()Z" } : Jvm.MethodName) jdk_42_method_154_code (1 : Nat) (Option.some Jvm.ClassFile.FieldType.boolean), Jvm.Cond.code ({ cls := "java/lang/StringLatin1", name := "newString", desc := "([BII)Ljava/lang/String;" } : Jvm.MethodName) jdk_43_method_47_code (3 : Nat) (Option.some (Jvm.ClassFile.FieldType.object "java/lang/String")), Jvm.Cond.code ({ cls := "java/util/Arrays", name := "copyOfRange", desc := "([BII)[B" } : Jvm.MethodName) jdk_65_method_132_code (3 : Nat) (Option.some (Jvm.ClassFile.FieldType.array Jvm.ClassFile.FieldType.byte)), Jvm.Cond.code ({ cls := "java/util/Arrays", name := "copyOfRangeByte", desc := "([BII)[B" } : Jvm.MethodName) jdk_65_method_133_code (5 : Nat) (Option.some (Jvm.ClassFile.FieldType.array Jvm.ClassFile.FieldType.byte)), Jvm.Cond.code ({ cls := "java/util/Arrays", name := "checkLength", desc := "(II)V" } : Jvm.MethodName) jdk_65_method_131_code (2 : Nat) (Option.none : Option Jvm.ClassFile.FieldType), Jvm.Cond.code ({ cls := "java/lang/Math", name := "min", desc := "(II)I" } : Jvm.MethodName) jdk_29_method_69_code (2 : Nat) (Option.some Jvm.ClassFile.FieldType.int), Jvm.Cond.code ({ cls := "java/lang/String", name := "<init>", desc := "([BB)V" } : Jvm.MethodName) jdk_42_method_151_code (3 : Nat) (Option.none : Option Jvm.ClassFile.FieldType), Jvm.Cond.code ({ cls := "java/lang/StringBuilder", name := "append", desc := "(Ljava/lang/String;)Ljava/lang/StringBuilder;" } : Jvm.MethodName) jdk_67_method_7_code (2 : Nat) (Option.some (Jvm.ClassFile.FieldType.object "java/lang/StringBuilder")), Jvm.Cond.code ({ cls := "java/lang/AbstractStringBuilder", name := "append", desc := "(Ljava/lang/String;)Ljava/lang/AbstractStringBuilder;" } : Jvm.MethodName) jdk_68_method_22_code (3 : Nat) (Option.some (Jvm.ClassFile.FieldType.object "java/lang/AbstractStringBuilder")), Jvm.Cond.code ({ cls := "java/lang/AbstractStringBuilder", name := "ensureCapacityInternal", desc := "(I)V" } : Jvm.MethodName) jdk_68_method_9_code (3 : Nat) (Option.none : Option Jvm.ClassFile.FieldType), Jvm.Cond.code ({ cls := "java/lang/AbstractStringBuilder", name := "newCapacity", desc := "(I)I" } : Jvm.MethodName) jdk_68_method_10_code (6 : Nat) (Option.some Jvm.ClassFile.FieldType.int), Jvm.Cond.code ({ cls := "jdk/internal/util/ArraysSupport", name := "newLength", desc := "(III)I" } : Jvm.MethodName) jdk_48_method_27_code (4 : Nat) (Option.some Jvm.ClassFile.FieldType.int), Jvm.Cond.code ({ cls := "java/lang/Math", name := "max", desc := "(II)I" } : Jvm.MethodName) jdk_29_method_65_code (2 : Nat) (Option.some Jvm.ClassFile.FieldType.int), Jvm.Cond.code ({ cls := "java/util/Arrays", name := "copyOf", desc := "([BI)[B" } : Jvm.MethodName) jdk_65_method_121_code (3 : Nat) (Option.some (Jvm.ClassFile.FieldType.array Jvm.ClassFile.FieldType.byte)), Jvm.Cond.code ({ cls := "java/lang/AbstractStringBuilder", name := "putStringAt", desc := "(ILjava/lang/String;)V" } : Jvm.MethodName) jdk_68_method_73_code (3 : Nat) (Option.none : Option Jvm.ClassFile.FieldType), Jvm.Cond.code ({ cls := "java/lang/AbstractStringBuilder", name := "inflateIfNeededFor", desc := "(Ljava/lang/String;)V" } : Jvm.MethodName) jdk_68_method_71_code (2 : Nat) (Option.none : Option Jvm.ClassFile.FieldType), Jvm.Cond.code ({ cls := "java/lang/String", name := "getBytes", desc := "([BIB)V" } : Jvm.MethodName) jdk_42_method_147_code (4 : Nat) (Option.none : Option Jvm.ClassFile.FieldType), Jvm.Cond.code ({ cls := "java/lang/StringBuilder", name := "toString", desc := "()Ljava/lang/String;" } : Jvm.MethodName) jdk_67_method_42_code (1 : Nat) (Option.some (Jvm.ClassFile.FieldType.object "java/lang/String")), Jvm.Cond.code ({ cls := "java/lang/String", name := "<init>", desc := "(Ljava/lang/StringBuilder;)V" } : Jvm.MethodName) jdk_42_method_53_code (2 : Nat) (Option.none : Option Jvm.ClassFile.FieldType), Jvm.Cond.code ({ cls := "java/lang/String", name := "<init>", desc := "(Ljava/lang/AbstractStringBuilder;Ljava/lang/Void;)V" } : Jvm.MethodName) jdk_42_method_150_code (5 : Nat) (Option.none : Option Jvm.ClassFile.FieldType), Jvm.Cond.code ({ cls := "java/lang/AbstractStringBuilder", name := "getValue", desc := "()[B" } : Jvm.MethodName) jdk_68_method_64_code (1 : Nat) (Option.some (Jvm.ClassFile.FieldType.array Jvm.ClassFile.FieldType.byte)), Jvm.Cond.code ({ cls := "java/lang/StringBuilder", name := "length", desc := "()I" } : Jvm.MethodName) jdk_67_method_93_code (1 : Nat) (Option.some Jvm.ClassFile.FieldType.int), Jvm.Cond.code ({ cls := "java/lang/AbstractStringBuilder", name := "length", desc := "()I" } : Jvm.MethodName) jdk_68_method_6_code (1 : Nat) (Option.some Jvm.ClassFile.FieldType.int), Jvm.Cond.code ({ cls := "java/lang/AbstractStringBuilder", name := "isLatin1", desc := "()Z" } : Jvm.MethodName) jdk_68_method_68_code (1 : Nat) (Option.some Jvm.ClassFile.FieldType.boolean), Jvm.Cond.code ({ cls := "java/lang/String", name := "charAt", desc := "(I)C" } : Jvm.MethodName) jdk_42_method_56_code (2 : Nat) (Option.some Jvm.ClassFile.FieldType.char), Jvm.Cond.code ({ cls := "java/lang/StringLatin1", name := "charAt", desc := "([BI)C" } : Jvm.MethodName) jdk_43_method_2_code (2 : Nat) (Option.some Jvm.ClassFile.FieldType.char), Jvm.Cond.code ({ cls := "java/lang/String", name := "checkIndex", desc := "(II)V" } : Jvm.MethodName) jdk_42_method_155_code (2 : Nat) (Option.none : Option Jvm.ClassFile.FieldType), Jvm.Cond.code ({ cls := "jdk/internal/util/Preconditions", name := "checkIndex", desc := "(IILjava/util/function/BiFunction;)I" } : Jvm.MethodName) jdk_41_method_11_code (3 : Nat) (Option.some Jvm.ClassFile.FieldType.int), Jvm.Cond.code ({ cls := "java/lang/StringUTF16", name := "toBytes", desc := "([CII)[B" } : Jvm.MethodName) jdk_52_method_14_code (5 : Nat) (Option.some (Jvm.ClassFile.FieldType.array Jvm.ClassFile.FieldType.byte)), Jvm.Cond.code ({ cls := "java/lang/StringUTF16", name := "newBytesFor", desc := "(I)[B" } : Jvm.MethodName) jdk_52_method_2_code (1 : Nat) (Option.some (Jvm.ClassFile.FieldType.array Jvm.ClassFile.FieldType.byte)), Jvm.Cond.code ({ cls := "java/lang/StringUTF16", name := "newBytesLength", desc := "(I)I" } : Jvm.MethodName) jdk_52_method_3_code (1 : Nat) (Option.some Jvm.ClassFile.FieldType.int), Jvm.Cond.code ({ cls := "java/lang/StringUTF16", name := "putChar", desc := "([BII)V" } : Jvm.MethodName) jdk_52_method_4_code (3 : Nat) (Option.none : Option Jvm.ClassFile.FieldType), Jvm.Cond.code ({ cls := "java/lang/StringUTF16", name := "getChar", desc := "([BI)C" } : Jvm.MethodName) jdk_52_method_5_code (2 : Nat) (Option.some Jvm.ClassFile.FieldType.char), Jvm.Cond.code ({ cls := "java/lang/StringUTF16", name := "newString", desc := "([BII)Ljava/lang/String;" } : Jvm.MethodName) jdk_52_method_69_code (5 : Nat) (Option.some (Jvm.ClassFile.FieldType.object "java/lang/String")), Jvm.Cond.code ({ cls := "java/lang/StringUTF16", name := "compress", desc := "([BII)[B" } : Jvm.MethodName) jdk_52_method_17_code (6 : Nat) (Option.some (Jvm.ClassFile.FieldType.array Jvm.ClassFile.FieldType.byte)), Jvm.Cond.code ({ cls := "java/lang/StringUTF16", name := "compress", desc := "([BI[BII)I" } : Jvm.MethodName) jdk_52_method_22_code (7 : Nat) (Option.some Jvm.ClassFile.FieldType.int), Jvm.Cond.code ({ cls := "java/lang/StringUTF16", name := "checkBoundsOffCount", desc := "(II[B)V" } : Jvm.MethodName) jdk_52_method_94_code (3 : Nat) (Option.none : Option Jvm.ClassFile.FieldType), Jvm.Cond.code ({ cls := "java/lang/StringUTF16", name := "length", desc := "([B)I" } : Jvm.MethodName) jdk_52_method_6_code (1 : Nat) (Option.some Jvm.ClassFile.FieldType.int), Jvm.Cond.code ({ cls := "java/lang/String", name := "checkBoundsOffCount", desc := "(III)I" } : Jvm.MethodName) jdk_42_method_157_code (3 : Nat) (Option.some Jvm.ClassFile.FieldType.int), Jvm.Cond.code ({ cls := "jdk/internal/util/Preconditions", name := "checkFromIndexSize", desc := "(IIILjava/util/function/BiFunction;)I" } : Jvm.MethodName) jdk_41_method_13_code (4 : Nat) (Option.some Jvm.ClassFile.FieldType.int), Jvm.Cond.code ({ cls := "java/lang/AbstractStringBuilder", name := "inflate", desc := "()V" } : Jvm.MethodName) jdk_68_method_11_code (2 : Nat) (Option.none : Option Jvm.ClassFile.FieldType), Jvm.Cond.code ({ cls := "java/lang/StringLatin1", name := "inflate", desc := "([BI[BII)V" } : Jvm.MethodName) jdk_43_method_50_code (5 : Nat) (Option.none : Option Jvm.ClassFile.FieldType), Jvm.Cond.code ({ cls := "java/lang/StringUTF16", name := "inflate", desc := "([BI[BII)V" } : Jvm.MethodName) jdk_52_method_86_code (6 : Nat) (Option.none : Option Jvm.ClassFile.FieldType), Jvm.Cond.code ({ cls := "java/lang/StringUTF16", name := "charAt", desc := "([BI)C" } : Jvm.MethodName) jdk_52_method_83_code (2 : Nat) (Option.some Jvm.ClassFile.FieldType.char), Jvm.Cond.code ({ cls := "java/lang/StringUTF16", name := "checkIndex", desc := "(I[B)V" } : Jvm.MethodName) jdk_52_method_91_code (2 : Nat) (Option.none : Option Jvm.ClassFile.FieldType)]
set_option maxRecDepth 65536 in
theorem codes_eq : words1.filter isCode = codes1 := rfl
theorem w_codes : ∀ c ∈ words1.filter isCode, c.before args0 about1 = true := by
  rw [codes_eq]
  intro c hc
  simp only [codes1, List.mem_cons, List.not_mem_nil, or_false] at hc
  rcases hc with rfl | rfl | rfl | rfl | rfl | rfl | rfl | rfl | rfl | rfl | rfl | rfl | rfl | rfl | rfl | rfl | rfl | rfl | rfl | rfl | rfl | rfl | rfl | rfl | rfl | rfl | rfl | rfl | rfl | rfl | rfl | rfl | rfl | rfl | rfl | rfl | rfl | rfl | rfl | rfl | rfl | rfl | rfl | rfl | rfl | rfl | rfl | rfl | rfl | rfl | rfl | rfl | rfl | rfl | rfl | rfl | rfl | rfl | rfl | rfl | rfl
  · exact w_c0
  · exact w_c1
  · exact w_c2
  · exact w_c3
  · exact w_c4
  · exact w_c5
  · exact w_c6
  · exact w_c7
  · exact w_c8
  · exact w_c9
  · exact w_c10
  · exact w_c11
  · exact w_c12
  · exact w_c13
  · exact w_c14
  · exact w_c15
  · exact w_c16
  · exact w_c17
  · exact w_c18
  · exact w_c19
  · exact w_c20
  · exact w_c21
  · exact w_c22
  · exact w_c23
  · exact w_c24
  · exact w_c25
  · exact w_c26
  · exact w_c27
  · exact w_c28
  · exact w_c29
  · exact w_c30
  · exact w_c31
  · exact w_c32
  · exact w_c33
  · exact w_c34
  · exact w_c35
  · exact w_c36
  · exact w_c37
  · exact w_c38
  · exact w_c39
  · exact w_c40
  · exact w_c41
  · exact w_c42
  · exact w_c43
  · exact w_c44
  · exact w_c45
  · exact w_c46
  · exact w_c47
  · exact w_c48
  · exact w_c49
  · exact w_c50
  · exact w_c51
  · exact w_c52
  · exact w_c53
  · exact w_c54
  · exact w_c55
  · exact w_c56
  · exact w_c57
  · exact w_c58
  · exact w_c59
  · exact w_c60
set_option maxRecDepth 65536 in
theorem w_t1 : (words1.take 24).all (fun c => isCode c || c.before args0 about1) = true := by decide +kernel
set_option maxRecDepth 65536 in
theorem w_t2 : ((words1.drop 24).take 24).all (fun c => isCode c || c.before args0 about1) = true := by decide +kernel
set_option maxRecDepth 65536 in
theorem w_t3 : (((words1.drop 24).drop 24).take 24).all (fun c => isCode c || c.before args0 about1) = true := by decide +kernel
set_option maxRecDepth 65536 in
theorem w_t4 : ((((words1.drop 24).drop 24).drop 24).take 24).all (fun c => isCode c || c.before args0 about1) = true := by decide +kernel
set_option maxRecDepth 65536 in
theorem w_t5 : (((((words1.drop 24).drop 24).drop 24).drop 24).take 24).all (fun c => isCode c || c.before args0 about1) = true := by decide +kernel
set_option maxRecDepth 65536 in
theorem w_t6 : ((((((words1.drop 24).drop 24).drop 24).drop 24).drop 24).take 24).all (fun c => isCode c || c.before args0 about1) = true := by decide +kernel
set_option maxRecDepth 65536 in
theorem w_t7 : (((((((words1.drop 24).drop 24).drop 24).drop 24).drop 24).drop 24).take 24).all (fun c => isCode c || c.before args0 about1) = true := by decide +kernel
set_option maxRecDepth 65536 in
theorem w_t8 : ((((((((words1.drop 24).drop 24).drop 24).drop 24).drop 24).drop 24).drop 24).take 24).all (fun c => isCode c || c.before args0 about1) = true := by decide +kernel
set_option maxRecDepth 65536 in
theorem w_t9 : (((((((((words1.drop 24).drop 24).drop 24).drop 24).drop 24).drop 24).drop 24).drop 24).take 24).all (fun c => isCode c || c.before args0 about1) = true := by decide +kernel
set_option maxRecDepth 65536 in
theorem w_t10 : ((((((((((words1.drop 24).drop 24).drop 24).drop 24).drop 24).drop 24).drop 24).drop 24).drop 24).take 24).all (fun c => isCode c || c.before args0 about1) = true := by decide +kernel
set_option maxRecDepth 65536 in
theorem w_t11 : (((((((((((words1.drop 24).drop 24).drop 24).drop 24).drop 24).drop 24).drop 24).drop 24).drop 24).drop 24).take 24).all (fun c => isCode c || c.before args0 about1) = true := by decide +kernel
set_option maxRecDepth 65536 in
theorem w_t12 : (((((((((((words1.drop 24).drop 24).drop 24).drop 24).drop 24).drop 24).drop 24).drop 24).drop 24).drop 24).drop 24).all (fun c => isCode c || c.before args0 about1) = true := by decide +kernel
theorem w_tables : (allAtoms (Jvm.Cond.code x code maxLocals ret :: tables_1)).before args0 about1 = true := by
  rw [allAtoms_all]
  show words1.all (fun c => c.before args0 about1) = true
  refine all_split ?_ w_codes
  rw [← List.take_append_drop 24 words1, List.all_append, w_t1, ← List.take_append_drop 24 (words1.drop 24), List.all_append, w_t2, ← List.take_append_drop 24 ((words1.drop 24).drop 24), List.all_append, w_t3, ← List.take_append_drop 24 (((words1.drop 24).drop 24).drop 24), List.all_append, w_t4, ← List.take_append_drop 24 ((((words1.drop 24).drop 24).drop 24).drop 24), List.all_append, w_t5, ← List.take_append_drop 24 (((((words1.drop 24).drop 24).drop 24).drop 24).drop 24), List.all_append, w_t6, ← List.take_append_drop 24 ((((((words1.drop 24).drop 24).drop 24).drop 24).drop 24).drop 24), List.all_append, w_t7, ← List.take_append_drop 24 (((((((words1.drop 24).drop 24).drop 24).drop 24).drop 24).drop 24).drop 24), List.all_append, w_t8, ← List.take_append_drop 24 ((((((((words1.drop 24).drop 24).drop 24).drop 24).drop 24).drop 24).drop 24).drop 24), List.all_append, w_t9, ← List.take_append_drop 24 (((((((((words1.drop 24).drop 24).drop 24).drop 24).drop 24).drop 24).drop 24).drop 24).drop 24), List.all_append, w_t10, ← List.take_append_drop 24 ((((((((((words1.drop 24).drop 24).drop 24).drop 24).drop 24).drop 24).drop 24).drop 24).drop 24).drop 24), List.all_append, w_t11, w_t12]
  rfl
set_option maxRecDepth 65536 in
theorem w_rest : rest_1_c.before args0 about1 = true := by decide +kernel
set_option maxRecDepth 65536 in
theorem w_case : (Jvm.Cond.and given_1 narrow_1).before args0 about1 = true := by decide +kernel
set_option maxRecDepth 65536 in
theorem w_consts : constsHeld consts_1 about1 := Jvm.Lit.constsHeldB_iff.mp (by decide +kernel)
theorem w_applies : (headSpec (Jvm.Cond.code x code maxLocals ret :: tables_1) room_1).applies x e0.platform about1 = true :=
  (Spec.applies_iff w_frames).mpr ⟨w_running, w_runnable, w_alone, w_named, w_hears, w_ripe, w_room, w_tables⟩
theorem atStart : AtStart classFile x code maxLocals ret World_1 tables_1 room_1 Calls_1 rest_1 Pre_1 launch0 p0 e0 about1 theMethod args0 below0 :=
  ⟨lists_1, trivial, launch0.admits_env _ _ _, launch0.least_env, fairChoices_fair.cas, fairChoices_fair.clock, w_frames, w_args, w_heap, w_applies, ⟨w_consts, trivial⟩, w_rest, w_case⟩
end start1
theorem witness_1 : WitnessClaimed_1 := ⟨start1.p0, start1.e0, start1.about1, start1.theMethod, start1.args0, start1.below0, start1.atStart⟩
end Jvm.Pilot.@@N@@
