import JvmDerived
import JvmDerived.Pilot.@@N@@Statement
import JvmDerived.Pilot.@@N@@Code
set_option linter.unusedVariables false
set_option linter.unusedSimpArgs false
namespace Jvm.RoadKit
open Sem ClassFile Op Lib Jvm.Stand Jvm.Free Jvm.LawKit
section New
variable {p : Program} {l : Launch} {e : Env} {R : Room} {s : State} {m : MethodId} {args : Array Value} {below : List Frame} {meth : Method} {c : Code} {T : State} {locs : List Loc} {cells slots : Nat}
theorem retI (X : Stand p l e R s m args below meth c T locs cells slots) (hx : p.tables.exec = Jvm.exec) {pc : Nat} {Ls : Array Slot} {z : Int32} {rest : List Value} (hret : meth.sig.returnType = some .int) (hd : decode c.code pc = .ok (.ireturn, 1)) {fs : List Frame}
    (hl : ∀ (f : JFrame) (acts : List Action), f.method = m → f.locked = none → f.entered = [] → (doReturn e (T.setTop f) acts (some (.int z))).1 = T.setFrames fs) : Steps p.tables e below (T.setTop (mkF m pc Ls (.int z :: rest))) (T.setFrames fs) := by
  have hm' : T.vm.method? m = some meth := X.method'
  have hn : narrow .int (.int z) = .int z := rfl
  show Steps p.tables e below (T.setTop { method := m, pc := pc, locals := Ls, stack := _ :: rest, locked := none }) _
  jvm_step X.here [X.here.top, hx, hd, hm', hret, hn]
  first | (intro acts; rw [hl _ acts rfl rfl rfl]) | rw [hl _ _ rfl rfl rfl]
  exact Steps.refl _
end New
end Jvm.RoadKit
/- laws to paste: Road.lenW, Road.chN, StrChars.pair_says, StrChars.shr0, StrChars.lo8_mask (cut by pick.py; bodies as the Statement names them) -/
namespace Jvm.Pilot.@@N@@
namespace StrChars
open Jvm Sem ClassFile Op Lib Jvm.Stand Jvm.Free.XT Jvm.Free.ALB Jvm.Free.JM Jvm.Free
open Jvm.Lib.Cold (StaticIs)
/-- the byte that i2b leaves of a char -/
def lo8 (x : Int32) : Int32 := x.toInt8.toInt32
def U16 : String := "java/lang/StringUTF16"
namespace Cmp5
def yN : MethodName := ⟨"java/lang/StringUTF16", "compress", "([CI[BII)I"⟩
abbrev yB : ByteArray := jdk_52_method_21_code
end Cmp5
namespace Cmp3
def yN : MethodName := ⟨"java/lang/StringUTF16", "compress", "([CII)[B"⟩
abbrev yB : ByteArray := jdk_52_method_16_code
end Cmp3
namespace CodL
def yN : MethodName := ⟨"java/lang/StringUTF16", "coderFromArrayLen", "([BI)B"⟩
abbrev yB : ByteArray := jdk_52_method_15_code
end CodL
namespace New4
def yN : MethodName := ⟨"java/lang/String", "<init>", "([CIILjava/lang/Void;)V"⟩
abbrev yB : ByteArray := jdk_42_method_149_code
end New4
namespace New1
def yN : MethodName := ⟨"java/lang/String", "<init>", "([C)V"⟩
abbrev yB : ByteArray := jdk_42_method_3_code
end New1
/-- the byte, read back as charAt reads it, is the char -/
theorem lo8_mask {x : Int32} (h0 : ¬ x < 0) (h1 : ¬ 255 < x) : lo8 x &&& 255 = x := by
  have t : ∀ k : Fin 256, lo8 (Int32.ofNat k.val) &&& 255 = Int32.ofNat k.val := by decide +kernel
  rw [Int32.lt_iff_toInt_lt] at h0 h1
  have e0 : (0 : Int32).toInt = 0 := rfl
  have e1 : (255 : Int32).toInt = 255 := rfl
  obtain ⟨k, hk⟩ : ∃ k : Nat, x.toInt = k := ⟨x.toInt.toNat, by omega⟩
  have hx : x = Int32.ofNat k := Int32.toInt_inj.mp (by rw [hk, Int32.toInt_ofNat_small (by omega)])
  rw [hx]
  exact t ⟨k, by omega⟩
end StrChars
namespace StrChars.Road
open Jvm Sem ClassFile Op Lib Jvm.Stand Jvm.Free Jvm.Free.XT
open Jvm.Lib.Cold (StaticIs)
abbrev ST : String := "java/lang/String"
/-- every table word that New1's law asks, flat -/
abbrev words : List Jvm.Cond := [.code New1.yN New1.yB 2 none, .initialized ST, .methodLink ST 27 New4.yN, .instanceMethod New4.yN,
  .code New4.yN New4.yB 6 none, .fieldLink ST 38 ST "COMPACT_STRINGS" "Z", .laysFinal ST ST "value" "[B", .fieldLink ST 9 ST "value" "[B", .laysFinal ST ST "coder" "B", .fieldLink ST 15 ST "coder" "B",
  .methodLink ST 1 Lib.objectInit, .instanceMethod Lib.objectInit, .code Lib.objectInit ⟨#[0xb1]⟩ 1 none, .methodLink ST 177 Cmp3.yN, .static Cmp3.yN, .methodLink ST 47 CodL.yN, .static CodL.yN,
  .code Cmp3.yN Cmp3.yB 6 (some (.array .byte)), .initialized U16, .arrayClass .byte, .methodLink U16 115 Cmp5.yN, .static Cmp5.yN, .code Cmp5.yN Cmp5.yB 7 (some .int), .code CodL.yN CodL.yB 2 (some .byte)]
end StrChars.Road
namespace StrChars
open Jvm Sem ClassFile Op Lib Jvm.Stand Jvm.Free.XT Jvm.Free.ALB Jvm.Free.JM Jvm.Free
open Jvm.Lib.Cold (StaticIs)
def hi8 (x : Int32) : Int32 := lo8 (x >>> ((8 : Int32) &&& 31))
/-- what StringUTF16.getChar makes of two bytes -/
def pairCh (u v : Int32) : Int32 := (((u &&& 255) <<< ((0 : Int32) &&& 31)) ||| ((v &&& 255) <<< ((8 : Int32) &&& 31))).toUInt32.toUInt16.toUInt32.toInt32
theorem shr0 (c : Int32) : c >>> ((0 : Int32) &&& 31) = c := by
  have e : ((0 : Int32) &&& 31) = 0 := by decide
  rw [e]
  apply Int32.toBitVec_inj.mp
  rw [Int32.toBitVec_shiftRight]
  have e1 : ((0 : Int32).toBitVec.smod 32) = 0#32 := by decide
  rw [e1, BitVec.sshiftRight_eq']
  exact BitVec.sshiftRight_zero
theorem lo8_and (x : Int32) : (lo8 x &&& 255).toBitVec.toNat = x.toBitVec.toNat % 256 := by
  have h : (lo8 x).toBitVec = (x.toBitVec.signExtend 8).signExtend 32 := by rw [lo8, Int8.toBitVec_toInt32, Int32.toBitVec_toInt8]
  rw [Int32.toBitVec_and, BitVec.toNat_and, h]
  have e : ((x.toBitVec.signExtend 8).signExtend 32).toNat % 256 = x.toBitVec.toNat % 256 := by
    rw [BitVec.toNat_signExtend]
    have hlt := x.toBitVec.isLt
    simp only [BitVec.toNat_setWidth, BitVec.toNat_signExtend]
    split <;> split <;> omega
  rw [← e]
  exact Nat.and_two_pow_sub_one_eq_mod _ 8
theorem pair_says {c : Int32} (h0 : ¬ c < 0) (h1 : ¬ 65535 < c) : pairCh (lo8 c) (hi8 c) = c := by
  rw [Int32.lt_iff_toInt_lt] at h0 h1
  have e0 : (0 : Int32).toInt = 0 := rfl
  have e1 : (65535 : Int32).toInt = 65535 := rfl
  have hc : c.toInt = c.toBitVec.toNat := by
    have := c.toBitVec.isLt
    have e : c.toInt = c.toBitVec.toInt := rfl
    rw [e] at h0 h1
    rw [e]
    rw [BitVec.toInt_eq_toNat_cond] at h0 h1 ⊢
    split at h0 <;> split <;> omega
  have hn : c.toBitVec.toNat < 65536 := by omega
  have a1 := lo8_and c
  have a2 : (hi8 c &&& 255).toBitVec.toNat = c.toBitVec.toNat / 256 := by
    rw [hi8, lo8_and]
    have e : ((8 : Int32) &&& 31) = 8 := by decide
    rw [e, Int32.toBitVec_shiftRight]
    have e2 : ((8 : Int32).toBitVec.smod 32) = 8#32 := by decide
    rw [e2, BitVec.sshiftRight_eq', BitVec.toNat_sshiftRight_of_msb_false (by rw [BitVec.msb_eq_false_iff_two_mul_lt]; omega)]
    show c.toBitVec.toNat >>> 8 % 256 = _
    rw [Nat.shiftRight_eq_div_pow]
    omega
  unfold pairCh
  apply Int32.toBitVec_inj.mp
  apply BitVec.eq_of_toNat_eq
  have f0 : ((0 : Int32) &&& 31) = 0 := by decide
  have f8 : ((8 : Int32) &&& 31) = 8 := by decide
  rw [f0, f8]
  have g : (((lo8 c &&& 255) <<< (0 : Int32)) ||| ((hi8 c &&& 255) <<< (8 : Int32))).toBitVec.toNat = c.toBitVec.toNat := by
    rw [Int32.toBitVec_or, Int32.toBitVec_shiftLeft, Int32.toBitVec_shiftLeft]
    have s0 : ((0 : Int32).toBitVec.smod 32) = 0#32 := by decide
    have s8 : ((8 : Int32).toBitVec.smod 32) = 8#32 := by decide
    rw [s0, s8, BitVec.toNat_or]
    simp only [BitVec.shiftLeft_eq', BitVec.toNat_shiftLeft, a1, a2]
    show (c.toBitVec.toNat % 256) <<< 0 % 2 ^ 32 ||| (c.toBitVec.toNat / 256) <<< 8 % 2 ^ 32 = _
    rw [Nat.shiftLeft_zero, Nat.mod_eq_of_lt (show c.toBitVec.toNat % 256 < 2 ^ 32 by omega), Nat.mod_eq_of_lt (show (c.toBitVec.toNat / 256) <<< 8 < 2 ^ 32 by rw [Nat.shiftLeft_eq]; omega), Nat.or_comm, ← Nat.shiftLeft_add_eq_or_of_lt (by omega), Nat.shiftLeft_eq]
    omega
  show BitVec.toNat (((((lo8 c &&& 255) <<< (0 : Int32)) ||| ((hi8 c &&& 255) <<< (8 : Int32))).toBitVec.setWidth 16).setWidth 32) = _
  rw [BitVec.toNat_setWidth, BitVec.toNat_setWidth, g]
  omega
end StrChars
namespace StrChars
open Jvm Sem ClassFile Op Lib Jvm.Stand Jvm.Free.XT Jvm.Free.ALB Jvm.Free.JM Jvm.Free
open Jvm.Lib.Cold (StaticIs)
theorem shr1 {n : Nat} (h : 2 * n < 2 ^ 31) : Int32.ofNat (2 * n) >>> ((1 : Int32) &&& 31) = Int32.ofNat n := by
  have e : ((1 : Int32) &&& 31) = 1 := by decide
  rw [e]
  apply Int32.toBitVec_inj.mp
  rw [Int32.toBitVec_shiftRight]
  have e1 : ((1 : Int32).toBitVec.smod 32) = 1#32 := by decide
  have hm : (BitVec.ofNat 32 (2 * n)).toNat = 2 * n := by rw [BitVec.toNat_ofNat, Nat.mod_eq_of_lt (by omega)]
  rw [e1, BitVec.sshiftRight_eq']
  apply BitVec.eq_of_toNat_eq
  show ((BitVec.ofNat 32 (2 * n)).sshiftRight 1).toNat = (BitVec.ofNat 32 n).toNat
  rw [BitVec.toNat_sshiftRight_of_msb_false (by rw [BitVec.msb_eq_false_iff_two_mul_lt, hm]; omega), hm, BitVec.toNat_ofNat, Nat.shiftRight_eq_div_pow]
  omega
/-- charAt's cast of a byte read back -/
def chr8 (u : Int32) : Int32 := (u &&& 255).toUInt32.toUInt16.toUInt32.toInt32
theorem chr8_lo8 {c : Int32} (h0 : ¬ c < 0) (h1 : ¬ 255 < c) : chr8 (lo8 c) = c := by
  have t : ∀ k : Fin 256, (Int32.ofNat k.val).toUInt32.toUInt16.toUInt32.toInt32 = Int32.ofNat k.val := by decide +kernel
  unfold chr8
  rw [lo8_mask h0 h1]
  rw [Int32.lt_iff_toInt_lt] at h0 h1
  have e0 : (0 : Int32).toInt = 0 := rfl
  have e1 : (255 : Int32).toInt = 255 := rfl
  obtain ⟨k, hk⟩ : ∃ k : Nat, c.toInt = k := ⟨c.toInt.toNat, by omega⟩
  have hx : c = Int32.ofNat k := Int32.toInt_inj.mp (by rw [hk, Int32.toInt_ofNat_small (by omega)])
  rw [hx]
  exact t ⟨k, by omega⟩
theorem narrow_ch {c : Int32} (h0 : ¬ c < 0) (h1 : ¬ 65535 < c) : narrow .char (.int c) = .int c := by
  have q : narrow .char (.int (pairCh (lo8 c) (hi8 c))) = .int (pairCh (lo8 c) (hi8 c)) := narrow_c _
  rwa [pair_says h0 h1] at q
/-- the array's cell V codes the n chars f 0 .. f (n - 1) by the coder cd, as the JDK does: coder 1 just where some char is above 255 -/
def Cod (cd : Int32) (n : Nat) (f : Nat → Int32) (V : Cell) : Prop := (cd = 0 ∧ V.slots.size = n ∧ ∀ j, j < n → V.slots[j]? = some (.int (lo8 (f j))) ∧ ¬ 255 < f j) ∨ (cd = 1 ∧ V.slots.size = 2 * n ∧ (∀ j, j < n → V.slots[2 * j]? = some (.int (lo8 (f j))) ∧ V.slots[2 * j + 1]? = some (.int (hi8 (f j)))) ∧ ∃ j, j < n ∧ 255 < f j)
theorem Cod.cd {cd : Int32} {n : Nat} {f : Nat → Int32} {V : Cell} (h : Cod cd n f V) : cd = 0 ∨ cd = 1 := h.imp (fun q => q.1) fun q => q.1
theorem Cod.len {cd : Int32} {n : Nat} {f : Nat → Int32} {V : Cell} (h : Cod cd n f V) (hs : V.slots.size < 2 ^ 31) : Int32.ofNat V.slots.size >>> (cd &&& 31) = Int32.ofNat n := by
  rcases h with ⟨rfl, h, -⟩ | ⟨rfl, h, -⟩
  · rw [shr0, h]
  · rw [h, shr1 (by omega)]
/-- **x is a String of the n chars f 0 .. f (n - 1)**, Latin-1 or UTF-16; its array at t has the cell V -/
def Txt (x t : Addr) (V : Cell) (cd : Int32) (n : Nat) (f : Nat → Int32) (U : State) : Prop := Exact "java/lang/String" x U ∧ Has x "java/lang/String" "value" "[B" (.ref t) U ∧ Has x "java/lang/String" "coder" "B" (.int cd) U ∧ XT.Arr .byte t V U ∧ Cod cd n f V ∧ ∀ j, j < n → ¬ f j < 0 ∧ ¬ 65535 < f j
theorem Txt.mv {x t : Addr} {V : Cell} {cd : Int32} {n : Nat} {f : Nat → Int32} {U U' : State} (h : Txt x t V cd n f U) (hal : U.vm.Alike U'.vm) (hh : U'.heap = U.heap) : Txt x t V cd n f U' := ⟨h.1.mv hal hh, h.2.1.mv hal hh, h.2.2.1.mv hal hh, h.2.2.2.1.mv hal hh, h.2.2.2.2⟩
namespace Cdr
def yN : MethodName := ⟨"java/lang/String", "coder", "()B"⟩
abbrev yB : ByteArray := jdk_42_method_152_code
theorem d0 : decode yB 0 = .ok (.getstatic 38, 3) := by decide +kernel
theorem d3 : decode yB 3 = .ok (.ifCond (.eq) 10, 3) := by decide +kernel
theorem d6 : decode yB 6 = .ok (.aload_n 0, 1) := by decide +kernel
theorem d7 : decode yB 7 = .ok (.getfield 15, 3) := by decide +kernel
theorem d10 : decode yB 10 = .ok (.goto 4, 3) := by decide +kernel
theorem d14 : decode yB 14 = .ok (.ireturn, 1) := by decide +kernel
def site : List Cond := [.fieldLink "java/lang/String" 38 "java/lang/String" "COMPACT_STRINGS" "Z", .fieldLink "java/lang/String" 15 "java/lang/String" "coder" "B"]
def tab : Cond := tabOf yN yB 1 (some .byte) site
def P (x : Addr) (cd z : Int32) (args : Array Value) (s : State) : Prop := args = #[.ref x] ∧ Has x "java/lang/String" "coder" "B" (.int cd) s ∧ (cd = 0 ∨ cd = 1) ∧ StaticIs s "java/lang/String" "COMPACT_STRINGS" "Z" (.int z) ∧ ¬ z = 0
def E (cd : Int32) (r : Option Value) (s u : State) : Prop := XT.PureE (some (.int cd)) r s u
theorem law (l : Launch) (x : Addr) (cd z : Int32) : Law l yN 1 0 0 0 yB 1 (some .byte) site (P x cd z) (E cd) [] 0 0 := by
  refine Law.of_walk (plainFor_of_name (by decide +kernel)) (by decide +kernel) (by decide +kernel) (by decide) (fun _ _ h => by rw [h.1]; rfl) (fun _ U U' hal hh h => ⟨h.1, h.2.1.mv hal hh, h.2.2.1, h.2.2.2.1.there hal hh, h.2.2.2.2⟩) (fun r U U' V V' h1 hal h2 h => XT.PureE.mv r U U' V V' h1 hal h2 h) ?_
  intro p e s m args below meth c s₁ X0 hexec hbytes hml hret hlk hnm hown hh0 W hP
  obtain ⟨rfl, hx, hc, s1, hz⟩ := hP
  have c1 : Steps p.tables e below (s₁.setTop (entryFrame m #[.ref x] 1)) (s₁.setTop (mkF m 0 #[.val (.ref x)] [])) := entry rfl
  obtain ⟨T2, X2, q2, st2⟩ := X0.sget hexec hown (wk W (.fieldLink "java/lang/String" 38 "java/lang/String" "COMPACT_STRINGS" "Z")) s1 (fun _ _ h => by rw [hh0]; exact h) (g := (mkF m 0 #[.val (.ref x)] [])) rfl (hb hbytes d0)
  have hh2 := q2.trans hh0
  have c3 : Steps p.tables e below (s₁.setTop (entryFrame m #[.ref x] 1)) (T2.setTop (mkF m 7 #[.val (.ref x)] [.ref x])) := (c1.trans (st2 _ (Steps.refl _))).trans (by
    refine XS.ifNo X2.here hexec rfl (hb hbytes d3) rfl (i0_eq_f hz) ?_
    refine XS.aloadN X2.here hexec rfl (hb hbytes d6) rfl rfl ?_
    exact Steps.refl _)
  obtain ⟨T4, X4, q4, st4⟩ := X2.hget hexec hown (wk W (.fieldLink "java/lang/String" 15 "java/lang/String" "coder" "B")) (hx.mv X2.warmed.alike hh2) (g := (mkF m 7 #[.val (.ref x)] [.ref x])) rfl (rest := []) rfl (hb hbytes d7)
  have c5 : Steps p.tables e below (s₁.setTop (entryFrame m #[.ref x] 1)) (T4.setTop (mkF m 14 #[.val (.ref x)] [.int cd])) := (c3.trans (st4 _ (Steps.refl _))).trans (by
    refine XS.goto X4.here hexec rfl (pc0 := 10) rfl (hb hbytes d10) (by decide) rfl ?_
    exact Steps.refl _)
  exact ⟨T4, some (.int cd), _, _, _, X4, rfl, rfl, rfl, (fun h => by cases h), ⟨rfl, q4.trans hh2⟩, fun fs hl => c5.trans (X4.ireturnOut hexec hret (by rcases hc with rfl | rfl <;> rfl) (Or.inr (Or.inr (Or.inl rfl))) (hb hbytes d14) hl)⟩
end Cdr
namespace Len
def yN : MethodName := ⟨"java/lang/String", "length", "()I"⟩
abbrev yB : ByteArray := jdk_42_method_54_code
theorem d0 : decode yB 0 = .ok (.aload_n 0, 1) := by decide +kernel
theorem d1 : decode yB 1 = .ok (.getfield 9, 3) := by decide +kernel
theorem d4 : decode yB 4 = .ok (.arraylength, 1) := by decide +kernel
theorem d5 : decode yB 5 = .ok (.aload_n 0, 1) := by decide +kernel
theorem d6 : decode yB 6 = .ok (.invokevirtual 335, 3) := by decide +kernel
theorem d9 : decode yB 9 = .ok (.ishr, 1) := by decide +kernel
theorem d10 : decode yB 10 = .ok (.ireturn, 1) := by decide +kernel
def site : List Cond := [.fieldLink "java/lang/String" 9 "java/lang/String" "value" "[B", Cdr.tab] ++ virtW "java/lang/String" 335 "java/lang/String" Cdr.yN Cdr.yN
def tab : Cond := tabOf yN yB 1 (some .int) site
def P (x t : Addr) (V : Cell) (cd : Int32) (n : Nat) (f : Nat → Int32) (z : Int32) (args : Array Value) (s : State) : Prop := args = #[.ref x] ∧ Txt x t V cd n f s ∧ StaticIs s "java/lang/String" "COMPACT_STRINGS" "Z" (.int z) ∧ ¬ z = 0
def E (n : Nat) (r : Option Value) (s u : State) : Prop := XT.PureE (some (.int (Int32.ofNat n))) r s u
/-- length() of a String of n chars, in either coding -/
theorem law (l : Launch) (x t : Addr) (V : Cell) (cd : Int32) (n : Nat) (f : Nat → Int32) (z : Int32) : Law l yN 1 0 1 13 yB 1 (some .int) site (P x t V cd n f z) (E n) [] 0 0 := by
  refine Law.of_walk (plainFor_of_name (by decide +kernel)) (by decide +kernel) (by decide +kernel) (by decide) (fun _ _ h => by rw [h.1]; rfl) (fun _ U U' hal hh h => ⟨h.1, h.2.1.mv hal hh, h.2.2.1.there hal hh, h.2.2.2⟩) (fun r U U' V V' h1 hal h2 h => XT.PureE.mv r U U' V V' h1 hal h2 h) ?_
  intro p e s m args below meth c s₁ X0 hexec hbytes hml hret hlk hnm hown hh0 W hP
  obtain ⟨rfl, hx, s1, hz⟩ := hP
  have v31 := hx.2.2.2.1.2.2.2
  have c1 : Steps p.tables e below (s₁.setTop (entryFrame m #[.ref x] 1)) (s₁.setTop (mkF m 1 #[.val (.ref x)] [.ref x])) := Steps.trans (entry rfl) (by
    show Steps p.tables e below (s₁.setTop (mkF m 0 #[.val (.ref x)] [])) _
    refine XS.aloadN X0.here hexec rfl (hb hbytes d0) rfl rfl ?_
    exact Steps.refl _)
  obtain ⟨T2, X2, q2, st2⟩ := X0.hget hexec hown (wk W (.fieldLink "java/lang/String" 9 "java/lang/String" "value" "[B")) (hx.mv X0.warmed.alike hh0).2.1 (g := (mkF m 1 #[.val (.ref x)] [.ref x])) rfl (rest := []) rfl (hb hbytes d1)
  have hh2 := q2.trans hh0
  have hx2 := hx.mv X2.warmed.alike hh2
  have c3 : Steps p.tables e below (s₁.setTop (entryFrame m #[.ref x] 1)) (T2.setTop (mkF m 6 #[.val (.ref x)] [.ref x, .int (Int32.ofNat V.slots.size)])) := (c1.trans (st2 _ (Steps.refl _))).trans (by
    refine X2.alen hexec hx2.2.2.2.1 rfl rfl (hb hbytes d4) ?_
    refine XS.aloadN X2.here hexec rfl (hb hbytes d5) rfl rfl ?_
    exact Steps.refl _)
  obtain ⟨v4, T4, X4, E4, g4⟩ := X2.callV hexec (Cdr.law l x cd z) hown (wks W (virtW "java/lang/String" 335 "java/lang/String" Cdr.yN Cdr.yN)) rfl (by decide) (wk W Cdr.tab) (W := 1) (Nat.le_of_ble_eq_true rfl) (Nat.le_of_ble_eq_true rfl) (Nat.le_refl _) (Nat.le_refl _) (hx2.1.fc X2.warmed.alike) hx2.1.is (g := (mkF m 6 #[.val (.ref x)] [.ref x, .int (Int32.ofNat V.slots.size)])) rfl (by rw [hml]; rfl) c3 (argsL := []) (rest := [.int (Int32.ofNat V.slots.size)]) rfl rfl (by show 2 * 0 + (1 + 0) ≤ _; decide) (hb hbytes d6) (⟨rfl, hx2.2.2.1, hx.2.2.2.2.1.cd, s1.there X2.warmed.alike hh2, hz⟩)
  obtain ⟨rfl, q4⟩ := E4
  have c5 : Steps p.tables e below (s₁.setTop (entryFrame m #[.ref x] 1)) (T4.setTop (mkF m 10 #[.val (.ref x)] [.int (Int32.ofNat V.slots.size >>> (cd &&& 31))])) := Steps.trans g4 (by
    refine ishr X4.here hexec rfl (hb hbytes d9) rfl ?_
    exact Steps.refl _)
  rw [hx.2.2.2.2.1.len v31] at c5
  exact ⟨T4, some (.int (Int32.ofNat n)), _, _, _, X4, rfl, rfl, rfl, (fun h => by cases h), ⟨rfl, q4.trans hh2⟩, fun fs hl => c5.trans (X4.ireturnOut hexec hret rfl (Or.inl rfl) (hb hbytes d10) hl)⟩
theorem pays {l : Launch} {R : Room} {p : Program} {e : Env} {below : List Frame} {s : State} {sargs : Array Value} {len W : Nat} (x t : Addr) (V : Cell) (cd : Int32) (n : Nat) (f : Nat → Int32) (z : Int32) (htab : tab.before sargs s = true) (hfr : 2 ≤ R.frames) (hlo : W + 25 ≤ R.locals) :
    Back l R p e below s sargs yN len W (fun A₁ a₁ => A₁.cells + 0 ≤ R.cells ∧ A₁.slots + 0 ≤ R.slots ∧ P x t V cd n f z a₁ A₁.U) (fun A₁ _ v₁ B₁ => E n v₁ A₁.U B₁.U ∧ B₁.locs = A₁.locs ++ [] ∧ B₁.cells = A₁.cells + 0 ∧ B₁.slots = A₁.slots + 0) :=
  (law l x t V cd n f z).pays htab hfr (by omega)
end Len
namespace IsL
def yN : MethodName := ⟨"java/lang/String", "isLatin1", "()Z"⟩
abbrev yB : ByteArray := jdk_42_method_154_code
theorem d0 : decode yB 0 = .ok (.getstatic 38, 3) := by decide +kernel
theorem d3 : decode yB 3 = .ok (.ifCond (.eq) 14, 3) := by decide +kernel
theorem d6 : decode yB 6 = .ok (.aload_n 0, 1) := by decide +kernel
theorem d7 : decode yB 7 = .ok (.getfield 15, 3) := by decide +kernel
theorem d10 : decode yB 10 = .ok (.ifCond (.ne) 7, 3) := by decide +kernel
theorem d13 : decode yB 13 = .ok (.iconst 1, 1) := by decide +kernel
theorem d14 : decode yB 14 = .ok (.goto 4, 3) := by decide +kernel
theorem d17 : decode yB 17 = .ok (.iconst 0, 1) := by decide +kernel
theorem d18 : decode yB 18 = .ok (.ireturn, 1) := by decide +kernel
def site : List Cond := [.fieldLink "java/lang/String" 38 "java/lang/String" "COMPACT_STRINGS" "Z", .fieldLink "java/lang/String" 15 "java/lang/String" "coder" "B"]
def tab : Cond := tabOf yN yB 1 (some .boolean) site
def P (x : Addr) (cd z : Int32) (args : Array Value) (s : State) : Prop := args = #[.ref x] ∧ Has x "java/lang/String" "coder" "B" (.int cd) s ∧ (cd = 0 ∨ cd = 1) ∧ StaticIs s "java/lang/String" "COMPACT_STRINGS" "Z" (.int z) ∧ ¬ z = 0
def E (cd : Int32) (r : Option Value) (s u : State) : Prop := XT.PureE (some (.int (1 - cd))) r s u
theorem law (l : Launch) (x : Addr) (cd z : Int32) : Law l yN 1 0 0 0 yB 1 (some .boolean) site (P x cd z) (E cd) [] 0 0 := by
  refine Law.of_walk (plainFor_of_name (by decide +kernel)) (by decide +kernel) (by decide +kernel) (by decide) (fun _ _ h => by rw [h.1]; rfl) (fun _ U U' hal hh h => ⟨h.1, h.2.1.mv hal hh, h.2.2.1, h.2.2.2.1.there hal hh, h.2.2.2.2⟩) (fun r U U' V V' h1 hal h2 h => XT.PureE.mv r U U' V V' h1 hal h2 h) ?_
  intro p e s m args below meth c s₁ X0 hexec hbytes hml hret hlk hnm hown hh0 W hP
  obtain ⟨rfl, hx, hc, s1, hz⟩ := hP
  have c1 : Steps p.tables e below (s₁.setTop (entryFrame m #[.ref x] 1)) (s₁.setTop (mkF m 0 #[.val (.ref x)] [])) := entry rfl
  obtain ⟨T2, X2, q2, st2⟩ := X0.sget hexec hown (wk W (.fieldLink "java/lang/String" 38 "java/lang/String" "COMPACT_STRINGS" "Z")) s1 (fun _ _ h => by rw [hh0]; exact h) (g := (mkF m 0 #[.val (.ref x)] [])) rfl (hb hbytes d0)
  have hh2 := q2.trans hh0
  have c3 : Steps p.tables e below (s₁.setTop (entryFrame m #[.ref x] 1)) (T2.setTop (mkF m 7 #[.val (.ref x)] [.ref x])) := (c1.trans (st2 _ (Steps.refl _))).trans (by
    refine XS.ifNo X2.here hexec rfl (hb hbytes d3) rfl (i0_eq_f hz) ?_
    refine XS.aloadN X2.here hexec rfl (hb hbytes d6) rfl rfl ?_
    exact Steps.refl _)
  obtain ⟨T4, X4, q4, st4⟩ := X2.hget hexec hown (wk W (.fieldLink "java/lang/String" 15 "java/lang/String" "coder" "B")) (hx.mv X2.warmed.alike hh2) (g := (mkF m 7 #[.val (.ref x)] [.ref x])) rfl (rest := []) rfl (hb hbytes d7)
  have c5 : Steps p.tables e below (s₁.setTop (entryFrame m #[.ref x] 1)) (T4.setTop (mkF m 10 #[.val (.ref x)] [.int cd])) := c3.trans (st4 _ (Steps.refl _))
  have c6 : Steps p.tables e below (s₁.setTop (entryFrame m #[.ref x] 1)) (T4.setTop (mkF m 18 #[.val (.ref x)] [.int (1 - cd)])) := by
    rcases hc with rfl | rfl
    · exact c5.trans (by
        refine XS.ifNo X4.here hexec rfl (hb hbytes d10) rfl (i0_ne_f rfl) ?_
        refine iconstV X4.here hexec rfl 1 (hb hbytes d13) (by decide) ?_
        refine XS.goto X4.here hexec rfl (pc0 := 14) rfl (hb hbytes d14) (by decide) rfl ?_
        exact Steps.refl _)
    · exact c5.trans (by
        refine XS.ifYes X4.here hexec rfl (pc0 := 10) rfl (hb hbytes d10) rfl (i0_ne_t (by decide)) (by decide) rfl ?_
        refine iconstV X4.here hexec rfl 0 (hb hbytes d17) (by decide) ?_
        exact Steps.refl _)
  exact ⟨T4, some (.int (1 - cd)), _, _, _, X4, rfl, rfl, rfl, (fun h => by cases h), ⟨rfl, q4.trans hh2⟩, fun fs hl => c6.trans (X4.ireturnOut hexec hret (by rcases hc with rfl | rfl <;> rfl) (Or.inr (Or.inl rfl)) (hb hbytes d18) hl)⟩
end IsL
namespace LChA
def yN : MethodName := ⟨"java/lang/StringLatin1", "charAt", "([BI)C"⟩
abbrev yB : ByteArray := jdk_43_method_2_code
theorem d0 : decode yB 0 = .ok (.iload_n 1, 1) := by decide +kernel
theorem d1 : decode yB 1 = .ok (.aload_n 0, 1) := by decide +kernel
theorem d2 : decode yB 2 = .ok (.arraylength, 1) := by decide +kernel
theorem d3 : decode yB 3 = .ok (.invokestatic 9, 3) := by decide +kernel
theorem d6 : decode yB 6 = .ok (.aload_n 0, 1) := by decide +kernel
theorem d7 : decode yB 7 = .ok (.iload_n 1, 1) := by decide +kernel
theorem d8 : decode yB 8 = .ok (.baload, 1) := by decide +kernel
theorem d9 : decode yB 9 = .ok (.sipush 255, 3) := by decide +kernel
theorem d12 : decode yB 12 = .ok (.iand, 1) := by decide +kernel
theorem d13 : decode yB 13 = .ok (.i2c, 1) := by decide +kernel
theorem d14 : decode yB 14 = .ok (.ireturn, 1) := by decide +kernel
def site : List Cond := [JO.Str_checkIndex.tab] ++ staticW "java/lang/StringLatin1" 9 JO.Str_checkIndex.yN
def tab : Cond := tabOf yN yB 2 (some .char) site
def P (t : Addr) (V : Cell) (i : Nat) (u : Int32) (fm : Value) (args : Array Value) (s : State) : Prop := args = #[.ref t, .int (Int32.ofNat i)] ∧ XT.Arr .byte t V s ∧ V.slots[i]? = some (.int u) ∧ (StaticIs s "jdk/internal/util/Preconditions" "SIOOBE_FORMATTER" "Ljava/util/function/BiFunction;" fm ∧ fm.isRef = true)
def E (u : Int32) (r : Option Value) (s w : State) : Prop := XT.PureE (some (.int (chr8 u))) r s w
theorem law (l : Launch) (t : Addr) (V : Cell) (i : Nat) (u : Int32) (fm : Value) : Law l yN 2 2 2 27 yB 2 (some .char) site (P t V i u fm) (E u) [] 0 0 := by
  refine Law.of_walk (plainFor_of_name (by decide +kernel)) (by decide +kernel) (by decide +kernel) (by decide) (fun _ _ h => by rw [h.1]; rfl) (fun _ U U' hal hh h => ⟨h.1, h.2.1.mv hal hh, h.2.2.1, h.2.2.2.1.there hal hh, h.2.2.2.2⟩) (fun r U U' V V' h1 hal h2 h => XT.PureE.mv r U U' V V' h1 hal h2 h) ?_
  intro p e s m args below meth c s₁ X0 hexec hbytes hml hret hlk hnm hown hh0 W hP
  obtain ⟨rfl, hV, hu, s1, rf⟩ := hP
  have v31 := hV.2.2.2
  have hi : i < V.slots.size := (Array.getElem?_eq_some_iff.mp hu).1
  have c1 : Steps p.tables e below (s₁.setTop (entryFrame m #[.ref t, .int (Int32.ofNat i)] 2)) (s₁.setTop (mkF m 0 #[.val (.ref t), .val (.int (Int32.ofNat i))] [])) := entry rfl
  have c2 : Steps p.tables e below (s₁.setTop (entryFrame m #[.ref t, .int (Int32.ofNat i)] 2)) (s₁.setTop (mkF m 3 #[.val (.ref t), .val (.int (Int32.ofNat i))] [.int (Int32.ofNat V.slots.size), .int (Int32.ofNat i)])) := c1.trans (by
    refine XS.iloadN X0.here hexec rfl (hb hbytes d0) rfl ?_
    refine XS.aloadN X0.here hexec rfl (hb hbytes d1) rfl rfl ?_
    refine X0.alen hexec (hV.mv X0.warmed.alike hh0) rfl rfl (hb hbytes d2) ?_
    exact Steps.refl _)
  obtain ⟨v3, T3, X3, E3, g3⟩ := X0.callS hexec (JO.Str_checkIndex.law l (Int32.ofNat i) (Int32.ofNat V.slots.size) fm) hown (wks W (staticW "java/lang/StringLatin1" 9 JO.Str_checkIndex.yN)) (wk W JO.Str_checkIndex.tab) (W := 0) (Nat.le_of_ble_eq_true rfl) (Nat.le_of_ble_eq_true rfl) (Nat.le_refl _) (Nat.le_refl _) (g := (mkF m 3 #[.val (.ref t), .val (.int (Int32.ofNat i))] [.int (Int32.ofNat V.slots.size), .int (Int32.ofNat i)])) rfl (by rw [hml]; rfl) c2 (argsL := [.int (Int32.ofNat i), .int (Int32.ofNat V.slots.size)]) (rest := []) rfl rfl (by show 2 * 0 + 0 ≤ _; decide) (hb hbytes d3) (⟨rfl, rf, s1.there X0.warmed.alike hh0, Int32.ofNat_not_neg (by omega), lt32 v31 hi⟩)
  obtain ⟨rfl, q3⟩ := E3
  have hh3 := q3.trans hh0
  have c4 : Steps p.tables e below (s₁.setTop (entryFrame m #[.ref t, .int (Int32.ofNat i)] 2)) (T3.setTop (mkF m 14 #[.val (.ref t), .val (.int (Int32.ofNat i))] [.int (chr8 u)])) := Steps.trans g3 (by
    refine XS.aloadN X3.here hexec rfl (hb hbytes d6) rfl rfl ?_
    refine XS.iloadN X3.here hexec rfl (hb hbytes d7) rfl ?_
    refine X3.aget hexec (hV.mv X3.warmed.alike hh3) rfl hu rfl rfl (hb hbytes d8) ?_
    refine sipushV X3.here hexec rfl 255 (hb hbytes d9) (by decide) ?_
    refine XS.iand X3.here hexec rfl (hb hbytes d12) rfl ?_
    refine i2c X3.here hexec rfl (hb hbytes d13) rfl ?_
    exact Steps.refl _)
  exact ⟨T3, some (.int (chr8 u)), _, _, _, X3, rfl, rfl, rfl, (fun h => by cases h), ⟨rfl, hh3⟩, fun fs hl => c4.trans (X3.ireturnOut hexec hret (narrow_c _) (Or.inr (Or.inr (Or.inr (Or.inl rfl)))) (hb hbytes d14) hl)⟩
end LChA
end StrChars
namespace StrChars.Road
open Jvm Sem ClassFile Op Lib Jvm.Stand Jvm.Free Jvm.Free.XT
open Jvm.Lib.Cold (StaticIs)
theorem consq {a : Array Value} {s : State} {c : Jvm.Cond} {L : List Jvm.Cond} (h0 : c.before a s = true) (h : ∀ w ∈ L, w.before a s = true) : ∀ w ∈ c :: L, w.before a s = true := fun w hw => (List.mem_cons.mp hw).elim (fun e => e ▸ h0) (h w)
/-- the words of String.length(), either coding -/
abbrev wordsLen : List Jvm.Cond := [.code Len.yN Len.yB 1 (some .int), .initialized ST, .fieldLink ST 9 ST "value" "[B", .fieldLink ST 38 ST "COMPACT_STRINGS" "Z", .fieldLink ST 15 ST "coder" "B", .code Cdr.yN Cdr.yB 1 (some .byte), .methodLink ST 335 Cdr.yN, .declares Cdr.yN, .selects ST Cdr.yN Cdr.yN, .instanceMethod Cdr.yN]
theorem tabLen_of {a : Array Value} {s : State} (h : ∀ w ∈ wordsLen, w.before a s = true) : Len.tab.before a s = true := by
  have hc : Cdr.tab.before a s = true := unparts (wk h (.code Cdr.yN Cdr.yB 1 (some .byte))) (wks h (.initialized Cdr.yN.cls :: Cdr.site))
  have q := consq hc h
  exact unparts (wk q (.code Len.yN Len.yB 1 (some .int))) (wks q (.initialized Len.yN.cls :: Len.site))
theorem movedLen {Z s : State} {a0 args : Array Value} (hZ : Z.Warmed39 s.vm) (hw : ∀ d ∈ wordsLen, d.before a0 Z = true) : ∀ d ∈ wordsLen, d.before args s = true := fun d hd => by
  have q := hw d hd
  have t : ∀ d ∈ wordsLen, d = .arrayClass .byte ∨ (d.onTables && d.keepsFace) = true := by decide +kernel
  rcases t d hd with rfl | t
  · exact RoadKit.mvA hZ q
  · exact RoadKit.mv hZ q t
/-- the bytes of the chars cs, low before high -/
def wideBytes : List Int32 → List Value
  | [] => []
  | c :: cs => .int (lo8 c) :: .int (hi8 c) :: wideBytes cs
theorem wide_lo (d : Value) : ∀ (cs : List Int32) (j : Nat), j < cs.length → (wideBytes cs).getD (2 * j) d = .int (lo8 (cs.getD j 0))
  | [], j, h => absurd h (Nat.not_lt_zero j)
  | c :: cs, 0, _ => rfl
  | c :: cs, j + 1, h => by
    have q := wide_lo d cs j (by simpa using h)
    rw [show 2 * (j + 1) = 2 * j + 1 + 1 from by omega]
    simpa [wideBytes] using q
theorem wide_hi (d : Value) : ∀ (cs : List Int32) (j : Nat), j < cs.length → (wideBytes cs).getD (2 * j + 1) d = .int (hi8 (cs.getD j 0))
  | [], j, h => absurd h (Nat.not_lt_zero j)
  | c :: cs, 0, _ => rfl
  | c :: cs, j + 1, h => by
    have q := wide_hi d cs j (by simpa using h)
    rw [show 2 * (j + 1) + 1 = 2 * j + 1 + 1 + 1 from by omega]
    simpa [wideBytes] using q
theorem low_at (d : Value) (cs : List Int32) (j : Nat) (h : j < cs.length) : (cs.map fun c => Value.int (lo8 c)).getD j d = .int (lo8 (cs.getD j 0)) := by
  simp [List.getD_eq_getElem?_getD, h]
/-- an array of N2 bytes vs codes the chars cs by the coder cd -/
def CodA (cs : List Int32) (cd N2 : Int32) (vs : List Value) : Prop := (cd = 0 ∧ N2 = Int32.ofNat cs.length ∧ vs = (cs.map fun c => Value.int (lo8 c)) ∧ ∀ c ∈ cs, ¬ 255 < c) ∨ (cd = 1 ∧ N2 = Int32.ofNat (2 * cs.length) ∧ vs = wideBytes cs ∧ ∃ c ∈ cs, 255 < c)
theorem CodA.cod {cs : List Int32} {cd N2 : Int32} {vs : List Value} {V : Cell} (h : CodA cs cd N2 vs) (hn : 2 * cs.length < 2 ^ 31) (hs : V.slots.size = N2.toNatClampNeg) (hv : RoadKit.Has V vs (.int 0)) : Cod cd cs.length (fun j => cs.getD j 0) V := by
  rcases h with ⟨rfl, rfl, rfl, h⟩ | ⟨rfl, rfl, rfl, c, hc, hw⟩
  · rw [n32 (by omega)] at hs
    exact Or.inl ⟨rfl, hs, fun j hj => ⟨by rw [hv j (by omega), low_at _ _ _ hj], by
      have e : cs.getD j 0 = cs[j] := by simp [List.getD_eq_getElem?_getD, hj]
      show ¬ 255 < cs.getD j 0
      rw [e]; exact h _ (List.getElem_mem _)⟩⟩
  · rw [n32 (by omega)] at hs
    obtain ⟨j, hj, rfl⟩ := List.getElem_of_mem hc
    exact Or.inr ⟨rfl, hs, fun j hj => ⟨by rw [hv _ (by omega), wide_lo _ _ _ hj], by rw [hv _ (by omega), wide_hi _ _ _ hj]⟩, j, hj, by
      have e : cs.getD j 0 = cs[j] := by simp [List.getD_eq_getElem?_getD, hj]
      show 255 < cs.getD j 0
      rw [e]; exact hw⟩
/-- an object of exactly java/lang/String, its two fields found: as the laws ask it -/
theorem strObj {Z U : State} {a0 : Array Value} {kI : Nat} (wi : (Jvm.Cond.instantiable ST kI).before a0 Z = true) (al : Z.vm.Alike U.vm) {x : Addr} {v0 c0 : Value} (E : RoadKit.Exa Z U.heap x ST) (V : RoadKit.Fld Z U.heap x ST "value" "[B" v0) (C : RoadKit.Fld Z U.heap x ST "coder" "B" c0) :
    ∃ (D : Cell) (fV fC : Field), Blank ST x D U ∧ Found ST "value" "[B" fV U ∧ Found ST "coder" "B" fC U ∧ D.slots[fV.slot]? = some v0 ∧ D.slots[fC.slot]? = some c0 ∧ RoadKit.slotOf Z ST "value" "[B" = fV.slot ∧ RoadKit.slotOf Z ST "coder" "B" = fC.slot := by
  obtain ⟨D, cfV, kV, iV, fV, hD, gV, stV, knV, obV, asV, slV⟩ := V
  obtain ⟨D', cfC, kC, iC, fC, hD', gC, stC, -, -, asC, slC⟩ := C
  cases hD.symm.trans hD'
  obtain ⟨D2, kD, e1, e2, e3, e4, e5⟩ := E
  cases hD.symm.trans e1
  obtain ⟨c2, k2, i1, i2, i3, -⟩ := Cond.instantiable_spec wi
  cases e2.symm.trans i1
  cases e3.symm.trans i2
  obtain ⟨kU, u1, u2⟩ := al.2.2 _ _ e3
  exact ⟨D, fV, fC, ⟨hD, ⟨knV, fun q hq => by rw [hq] at obV; cases obV⟩, by rw [al.findClass]; exact e2, kU, u1, by rw [u2]; exact i3, by rw [u2]; exact e5 i3⟩, ⟨SBG.found_only al ⟨cfV, kV, iV, gV⟩, stV⟩, ⟨SBG.found_only al ⟨cfC, kC, iC, gC⟩, stC⟩, slV, slC, by simp [RoadKit.slotOf, gV], by simp [RoadKit.slotOf, gC]⟩
theorem sta_is {Z U : State} (al : Z.vm.Alike U.vm) {C n d : String} {v : Value} (S : RoadKit.Sta Z U.heap C n d v) : StaticIs U C n d v := by
  obtain ⟨cfS, iS, kS, fS, st, cS, t1, t2, t3, t4, t5, t6, t7⟩ := S
  exact StaticIs.there (s := { Z with heap := U.heap }) ⟨cfS, iS, kS, fS, st, cS, t1, t2, t3, t4, t5, (fun q => by rw [q] at t6; cases t6), t7⟩ al rfl
/-- **length() OF SUCH A STRING** -/
theorem lenW {p : Program} {l : Launch} {e : Env} {R : Room} {s : State} {args : Array Value} {below : List Frame} {len W : Nat} {Z : State} {a0 : Array Value} {h : Heap} (hZ : Z.Warmed39 s.vm) (hw : ∀ d ∈ wordsLen, d.before a0 Z = true) {kI : Nat} (wi : (Jvm.Cond.instantiable ST kI).before a0 Z = true)
    {x t : Addr} {kb : ClassId} {cs : List Int32} {cd N2 z : Int32} {vs : List Value} (E : RoadKit.Exa Z h x ST) (V : RoadKit.Fld Z h x ST "value" "[B" (.ref t)) (C : RoadKit.Fld Z h x ST "coder" "B" (.int cd)) (K : RoadKit.Arv Z h t kb .byte N2 vs (.int 0)) (hc : CodA cs cd N2 vs) (hb : ∀ c ∈ cs, ¬ c < 0 ∧ ¬ (65535 : Int32) < c)
    (S : RoadKit.Sta Z h ST "COMPACT_STRINGS" "Z" (.int z)) (hz : ¬ z = 0) (l2 : cs.length ≤ 4000) (hfr : 2 ≤ R.frames) (hlo : W + 25 ≤ R.locals) :
    Back l R p e below s args (⟨"java/lang/String", "length", "()I"⟩ : MethodName) len W (fun P a => a = #[.ref x] ∧ P.U.heap = h ∧ P.cells + 0 ≤ R.cells ∧ P.slots + 0 ≤ R.slots)
      (fun P _ v B => ∃ L, (v = some (.int (Int32.ofNat cs.length)) ∧ L = [] ∧ B.U.heap = h) ∧ B.locs = P.locs ++ L ∧ B.cells = P.cells + 0 ∧ B.slots = P.slots + 0) := by
  obtain ⟨A, K1, K2, K3, K4, K5, K6⟩ := K
  have hcod := hc.cod (by omega) K3 K5
  intro m meth c P g ig mk a X hg hsize hdg hW hn hp'
  obtain ⟨rfl, rfl, r1, r2⟩ := hp'
  have al : Z.vm.Alike P.U.vm := hZ.alike.trans X.warmed.alike
  obtain ⟨D, fV, fC, hB, F1, F2, g1, g2, -, -⟩ := strObj wi al E V C
  have hx : Txt x t A cd cs.length (fun j => cs.getD j 0) P.U := ⟨⟨_, hB.2.2.1, D, hB.1, rfl, by cases q : D.vm <;> first | rfl | exact absurd q (hB.2.1.2 _)⟩, Has.of hB F1 g1, Has.of hB F2 g2, ⟨K1.1, State.isArrayOf_alike al K1.2.1, K1.2.2, by rcases hcod with ⟨-, q, -⟩ | ⟨-, q, -⟩ <;> omega⟩, hcod, fun j hj => by
    have e : cs.getD j 0 = cs[j] := by simp [List.getD_eq_getElem?_getD, hj]
    show ¬ cs.getD j 0 < 0 ∧ ¬ 65535 < cs.getD j 0
    rw [e]; exact hb _ (List.getElem_mem _)⟩
  obtain ⟨v, B, X', ⟨⟨hv, hh⟩, hl, hk, hs⟩, st⟩ := Len.pays x t A cd cs.length (fun j => cs.getD j 0) z (tabLen_of (movedLen hZ hw)) hfr hlo m meth c P g ig mk _ X hg hsize hdg hW hn ⟨r1, r2, rfl, hx, sta_is al S, hz⟩
  exact ⟨v, B, X', ⟨[], ⟨hv, rfl, hh⟩, hl, hk, hs⟩, st⟩
end StrChars.Road
namespace StrChars.Road
open Jvm Sem ClassFile Op Lib Jvm.Stand Jvm.Free Jvm.Free.XT
open Jvm.Lib.Cold (StaticIs)
/-- the road's facts of a String, as the laws ask it -/
theorem txt_of {Z U : State} {a0 : Array Value} {kI : Nat} (wi : (Jvm.Cond.instantiable ST kI).before a0 Z = true) (al : Z.vm.Alike U.vm) {x t : Addr} {kb : ClassId} {cs : List Int32} {cd N2 : Int32} {vs : List Value} (E : RoadKit.Exa Z U.heap x ST) (V : RoadKit.Fld Z U.heap x ST "value" "[B" (.ref t)) (C : RoadKit.Fld Z U.heap x ST "coder" "B" (.int cd)) (K : RoadKit.Arv Z U.heap t kb .byte N2 vs (.int 0)) (hc : CodA cs cd N2 vs) (hb : ∀ c ∈ cs, ¬ c < 0 ∧ ¬ (65535 : Int32) < c) (l2 : cs.length ≤ 4000) :
    ∃ A, Txt x t A cd cs.length (fun j => cs.getD j 0) U := by
  obtain ⟨A, K1, K2, K3, K4, K5, K6⟩ := K
  have hcod := hc.cod (by omega) K3 K5
  obtain ⟨D, fV, fC, hB, F1, F2, g1, g2, -, -⟩ := strObj wi al E V C
  exact ⟨A, ⟨_, hB.2.2.1, D, hB.1, rfl, by cases q : D.vm <;> first | rfl | exact absurd q (hB.2.1.2 _)⟩, Has.of hB F1 g1, Has.of hB F2 g2, ⟨K1.1, State.isArrayOf_alike al K1.2.1, K1.2.2, by rcases hcod with ⟨-, q, -⟩ | ⟨-, q, -⟩ <;> omega⟩, hcod, fun j hj => by
    have e : cs.getD j 0 = cs[j] := by simp [List.getD_eq_getElem?_getD, hj]
    show ¬ cs.getD j 0 < 0 ∧ ¬ 65535 < cs.getD j 0
    rw [e]; exact hb _ (List.getElem_mem _)⟩
end StrChars.Road
namespace StrChars
open Jvm Sem ClassFile Op Lib Jvm.Stand Jvm.Free.XT Jvm.Free.ALB Jvm.Free.JM Jvm.Free
open Jvm.Lib.Cold (StaticIs)
namespace ChN
def yN : MethodName := ⟨"java/lang/String", "charAt", "(I)C"⟩
abbrev yB : ByteArray := jdk_42_method_56_code
theorem d0 : decode yB 0 = .ok (.aload_n 0, 1) := by decide +kernel
theorem d1 : decode yB 1 = .ok (.invokevirtual 492, 3) := by decide +kernel
theorem d4 : decode yB 4 = .ok (.ifCond (.eq) 12, 3) := by decide +kernel
theorem d7 : decode yB 7 = .ok (.aload_n 0, 1) := by decide +kernel
theorem d8 : decode yB 8 = .ok (.getfield 9, 3) := by decide +kernel
theorem d11 : decode yB 11 = .ok (.iload_n 1, 1) := by decide +kernel
theorem d12 : decode yB 12 = .ok (.invokestatic 495, 3) := by decide +kernel
theorem d15 : decode yB 15 = .ok (.ireturn, 1) := by decide +kernel
def site : List Cond := [.fieldLink "java/lang/String" 9 "java/lang/String" "value" "[B", IsL.tab, LChA.tab] ++ virtW "java/lang/String" 492 "java/lang/String" IsL.yN IsL.yN ++ staticW "java/lang/String" 495 LChA.yN
def tab : Cond := tabOf yN yB 2 (some .char) site
def P (x t : Addr) (V : Cell) (n : Nat) (f : Nat → Int32) (z : Int32) (fm : Value) (i : Nat) (args : Array Value) (s : State) : Prop := args = #[.ref x, .int (Int32.ofNat i)] ∧ Txt x t V 0 n f s ∧ i < n ∧ StaticIs s "java/lang/String" "COMPACT_STRINGS" "Z" (.int z) ∧ ¬ z = 0 ∧ StaticIs s "jdk/internal/util/Preconditions" "SIOOBE_FORMATTER" "Ljava/util/function/BiFunction;" fm ∧ fm.isRef = true
def E (f : Nat → Int32) (i : Nat) (r : Option Value) (s u : State) : Prop := XT.PureE (some (.int (f i))) r s u
/-- charAt(i) of a Latin-1 String of n chars, i < n: f i -/
theorem law (l : Launch) (x t : Addr) (V : Cell) (n : Nat) (f : Nat → Int32) (z : Int32) (fm : Value) (i : Nat) : Law l yN 2 1 3 40 yB 2 (some .char) site (P x t V n f z fm i) (E f i) [] 0 0 := by
  refine Law.of_walk (plainFor_of_name (by decide +kernel)) (by decide +kernel) (by decide +kernel) (by decide) (fun _ _ h => by rw [h.1]; rfl) (fun _ U U' hal hh h => ⟨h.1, h.2.1.mv hal hh, h.2.2.1, h.2.2.2.1.there hal hh, h.2.2.2.2.1, h.2.2.2.2.2.1.there hal hh, h.2.2.2.2.2.2⟩) (fun r U U' V V' h1 hal h2 h => XT.PureE.mv r U U' V V' h1 hal h2 h) ?_
  intro p e s m args below meth c s₁ X0 hexec hbytes hml hret hlk hnm hown hh0 W hP
  obtain ⟨rfl, hx, hi, s1, hz, s3, rf⟩ := hP
  have v31 := hx.2.2.2.1.2.2.2
  have hr := hx.2.2.2.2.2 i hi
  have hx0 := hx.mv X0.warmed.alike hh0
  have c1 : Steps p.tables e below (s₁.setTop (entryFrame m #[.ref x, .int (Int32.ofNat i)] 2)) (s₁.setTop (mkF m 1 #[.val (.ref x), .val (.int (Int32.ofNat i))] [.ref x])) := Steps.trans (entry rfl) (by
    show Steps p.tables e below (s₁.setTop (mkF m 0 #[.val (.ref x), .val (.int (Int32.ofNat i))] [])) _
    refine XS.aloadN X0.here hexec rfl (hb hbytes d0) rfl rfl ?_
    exact Steps.refl _)
  obtain ⟨v2, T2, X2, E2, g2⟩ := X0.callV hexec (IsL.law l x 0 z) hown (wks W (virtW "java/lang/String" 492 "java/lang/String" IsL.yN IsL.yN)) rfl (by decide) (wk W IsL.tab) (W := 0) (Nat.le_of_ble_eq_true rfl) (Nat.le_of_ble_eq_true rfl) (Nat.le_refl _) (Nat.le_refl _) (hx0.1.fc X0.warmed.alike) hx0.1.is (g := (mkF m 1 #[.val (.ref x), .val (.int (Int32.ofNat i))] [.ref x])) rfl (by rw [hml]; rfl) c1 (argsL := []) (rest := []) rfl rfl (by show 2 * 0 + 0 ≤ _; decide) (hb hbytes d1) (⟨rfl, hx0.2.2.1, hx.2.2.2.2.1.cd, s1.there X0.warmed.alike hh0, hz⟩)
  obtain ⟨rfl, q2⟩ := E2
  have hh2 := q2.trans hh0
  have hx2 := hx.mv X2.warmed.alike hh2
  obtain ⟨-, k1, k2⟩ | ⟨k0, -⟩ := hx.2.2.2.2.1
  · have c3 : Steps p.tables e below (s₁.setTop (entryFrame m #[.ref x, .int (Int32.ofNat i)] 2)) (T2.setTop (mkF m 8 #[.val (.ref x), .val (.int (Int32.ofNat i))] [.ref x])) := Steps.trans g2 (by
      refine XS.ifNo X2.here hexec rfl (hb hbytes d4) rfl (i0_eq_f (by decide)) ?_
      refine XS.aloadN X2.here hexec rfl (hb hbytes d7) rfl rfl ?_
      exact Steps.refl _)
    obtain ⟨T4, X4, q4, st4⟩ := X2.hget hexec hown (wk W (.fieldLink "java/lang/String" 9 "java/lang/String" "value" "[B")) hx2.2.1 (g := (mkF m 8 #[.val (.ref x), .val (.int (Int32.ofNat i))] [.ref x])) rfl (rest := []) rfl (hb hbytes d8)
    have hh4 := q4.trans hh2
    have c5 : Steps p.tables e below (s₁.setTop (entryFrame m #[.ref x, .int (Int32.ofNat i)] 2)) (T4.setTop (mkF m 12 #[.val (.ref x), .val (.int (Int32.ofNat i))] [.int (Int32.ofNat i), .ref t])) := (c3.trans (st4 _ (Steps.refl _))).trans (by
      refine XS.iloadN X4.here hexec rfl (hb hbytes d11) rfl ?_
      exact Steps.refl _)
    obtain ⟨v6, T6, X6, E6, g6⟩ := X4.callS hexec (LChA.law l t V i (lo8 (f i)) fm) hown (wks W (staticW "java/lang/String" 495 LChA.yN)) (wk W LChA.tab) (W := 0) (Nat.le_of_ble_eq_true rfl) (Nat.le_of_ble_eq_true rfl) (Nat.le_refl _) (Nat.le_refl _) (g := (mkF m 12 #[.val (.ref x), .val (.int (Int32.ofNat i))] [.int (Int32.ofNat i), .ref t])) rfl (by rw [hml]; rfl) c5 (argsL := [.ref t, .int (Int32.ofNat i)]) (rest := []) rfl rfl (by show 2 * 0 + 0 ≤ _; decide) (hb hbytes d12) (⟨rfl, hx.2.2.2.1.mv X4.warmed.alike hh4, (k2 i hi).1, s3.there X4.warmed.alike hh4, rf⟩)
    obtain ⟨rfl, q6⟩ := E6
    rw [chr8_lo8 hr.1 (k2 i hi).2] at g6
    exact ⟨T6, some (.int (f i)), _, _, _, X6, rfl, rfl, rfl, (fun h => by cases h), ⟨rfl, q6.trans hh4⟩, fun fs hl => Steps.trans g6 (X6.ireturnOut hexec hret (narrow_ch hr.1 hr.2) (Or.inr (Or.inr (Or.inr (Or.inl rfl)))) (hb hbytes d15) hl)⟩
  · exact absurd k0 (by decide)
theorem pays {l : Launch} {R : Room} {p : Program} {e : Env} {below : List Frame} {s : State} {sargs : Array Value} {len W : Nat} (x t : Addr) (V : Cell) (n : Nat) (f : Nat → Int32) (z : Int32) (fm : Value) (i : Nat) (htab : tab.before sargs s = true) (hfr : 4 ≤ R.frames) (hlo : W + 53 ≤ R.locals) :
    Back l R p e below s sargs yN len W (fun A₁ a₁ => A₁.cells + 0 ≤ R.cells ∧ A₁.slots + 0 ≤ R.slots ∧ P x t V n f z fm i a₁ A₁.U) (fun A₁ _ v₁ B₁ => E f i v₁ A₁.U B₁.U ∧ B₁.locs = A₁.locs ++ [] ∧ B₁.cells = A₁.cells + 0 ∧ B₁.slots = A₁.slots + 0) :=
  (law l x t V n f z fm i).pays htab hfr (by omega)
end ChN
end StrChars
namespace StrChars.Road
open Jvm Sem ClassFile Op Lib Jvm.Stand Jvm.Free Jvm.Free.XT
open Jvm.Lib.Cold (StaticIs)
/-- the words of String.charAt(int), the Latin-1 road alone -/
abbrev wordsChN : List Jvm.Cond := [.code ChN.yN ChN.yB 2 (some .char), .initialized ST, .fieldLink ST 9 ST "value" "[B", .fieldLink ST 38 ST "COMPACT_STRINGS" "Z", .fieldLink ST 15 ST "coder" "B", .code IsL.yN IsL.yB 1 (some .boolean), .methodLink ST 492 IsL.yN, .declares IsL.yN, .selects ST IsL.yN IsL.yN, .instanceMethod IsL.yN,
  .methodLink ST 495 LChA.yN, .static LChA.yN, .code LChA.yN LChA.yB 2 (some .char), .initialized "java/lang/StringLatin1", .methodLink "java/lang/StringLatin1" 9 JO.Str_checkIndex.yN, .static JO.Str_checkIndex.yN, .code JO.Str_checkIndex.yN JO.Str_checkIndex.yB 2 none,
  .fieldLink ST 1053 "jdk/internal/util/Preconditions" "SIOOBE_FORMATTER" "Ljava/util/function/BiFunction;", .methodLink ST 1059 JC.PreCheck.yN, .static JC.PreCheck.yN, .code JC.PreCheck.yN JC.PreCheck.yB 3 (some .int), .initialized "jdk/internal/util/Preconditions"]
theorem tabChN_of {a : Array Value} {s : State} (h : ∀ w ∈ wordsChN, w.before a s = true) : ChN.tab.before a s = true := by
  have hp : JC.PreCheck.tab.before a s = true := unparts (wk h (.code JC.PreCheck.yN JC.PreCheck.yB 3 (some .int))) (wks h (.initialized JC.PreCheck.yN.cls :: JC.PreCheck.site))
  have qk := consq hp h
  have hk : JO.Str_checkIndex.tab.before a s = true := unparts (wk qk (.code JO.Str_checkIndex.yN JO.Str_checkIndex.yB 2 none)) (wks qk (.initialized JO.Str_checkIndex.yN.cls :: JO.Str_checkIndex.site))
  have ql := consq hk h
  have hl : LChA.tab.before a s = true := unparts (wk ql (.code LChA.yN LChA.yB 2 (some .char))) (wks ql (.initialized LChA.yN.cls :: LChA.site))
  have hi : IsL.tab.before a s = true := unparts (wk h (.code IsL.yN IsL.yB 1 (some .boolean))) (wks h (.initialized IsL.yN.cls :: IsL.site))
  have q := consq hi (consq hl h)
  exact unparts (wk q (.code ChN.yN ChN.yB 2 (some .char))) (wks q (.initialized ChN.yN.cls :: ChN.site))
theorem movedChN {Z s : State} {a0 args : Array Value} (hZ : Z.Warmed39 s.vm) (hw : ∀ d ∈ wordsChN, d.before a0 Z = true) : ∀ d ∈ wordsChN, d.before args s = true := fun d hd => by
  have t : ∀ d ∈ wordsChN, (d.onTables && d.keepsFace) = true := by decide +kernel
  exact RoadKit.mv hZ (hw d hd) (t d hd)
/-- **charAt(i) OF A LATIN-1 STRING**, i < n: the char -/
theorem chN {p : Program} {l : Launch} {e : Env} {R : Room} {s : State} {args : Array Value} {below : List Frame} {len W : Nat} {Z : State} {a0 : Array Value} {h : Heap} (hZ : Z.Warmed39 s.vm) (hw : ∀ d ∈ wordsChN, d.before a0 Z = true) {kI : Nat} (wi : (Jvm.Cond.instantiable ST kI).before a0 Z = true)
    {x t : Addr} {kb : ClassId} {cs : List Int32} {N2 z : Int32} {vs : List Value} {fm : Value} {i : Nat} {j : Int32} (E : RoadKit.Exa Z h x ST) (V : RoadKit.Fld Z h x ST "value" "[B" (.ref t)) (C : RoadKit.Fld Z h x ST "coder" "B" (.int 0)) (K : RoadKit.Arv Z h t kb .byte N2 vs (.int 0)) (hc : CodA cs 0 N2 vs) (hb : ∀ c ∈ cs, ¬ c < 0 ∧ ¬ (65535 : Int32) < c)
    (S : RoadKit.Sta Z h ST "COMPACT_STRINGS" "Z" (.int z)) (hz : ¬ z = 0) (F : RoadKit.Sta Z h "jdk/internal/util/Preconditions" "SIOOBE_FORMATTER" "Ljava/util/function/BiFunction;" fm) (rf : fm.isRef = true) (l2 : cs.length ≤ 4000) (hi : i < cs.length) (hj : j = Int32.ofNat i) (hfr : 4 ≤ R.frames) (hlo : W + 53 ≤ R.locals) :
    Back l R p e below s args (⟨"java/lang/String", "charAt", "(I)C"⟩ : MethodName) len W (fun P a => a = #[.ref x, .int j] ∧ P.U.heap = h ∧ P.cells + 0 ≤ R.cells ∧ P.slots + 0 ≤ R.slots)
      (fun P _ v B => ∃ L, (v = some (.int (cs.getD i 0)) ∧ L = [] ∧ B.U.heap = h) ∧ B.locs = P.locs ++ L ∧ B.cells = P.cells + 0 ∧ B.slots = P.slots + 0) := by
  subst hj
  intro m meth c P g ig mk a X hg hsize hdg hW hn hp'
  obtain ⟨rfl, rfl, r1, r2⟩ := hp'
  have al : Z.vm.Alike P.U.vm := hZ.alike.trans X.warmed.alike
  obtain ⟨A, hx⟩ := txt_of wi al E V C K hc hb l2
  obtain ⟨v, B, X', ⟨⟨hv, hh⟩, hl, hk, hs⟩, st⟩ := ChN.pays x t A cs.length (fun j => cs.getD j 0) z fm i (tabChN_of (movedChN hZ hw)) hfr hlo m meth c P g ig mk _ X hg hsize hdg hW hn ⟨r1, r2, rfl, hx, hi, sta_is al S, hz, sta_is al F, rf⟩
  exact ⟨v, B, X', ⟨[], ⟨hv, rfl, hh⟩, hl, hk, hs⟩, st⟩
end StrChars.Road
end Jvm.Pilot.@@N@@
namespace Jvm.Pilot.@@N@@
open Jvm Jvm.ClassFile Sem Op Lib Jvm.Free Jvm.Stand Jvm.LawKit Jvm.RoadKit Bundle Jvm.Pilot.@@N@@.Jvm.D
abbrev vi (x : Int32) : Slot := .val (.int x)
abbrev vj (x : Int64) : Slot := .val (.long x)
abbrev vr (a : Addr) : Slot := .val (.ref a)
abbrev vn : Slot := .val .null
abbrev uu : Slot := .unset
abbrev ss : Slot := .second
theorem own_lt {a b : Nat} (h : a < b) : a < b := h
theorem own_ne {a b : Nat} (h : a ≠ b) : a ≠ b := h
/-- the run from cur comes to an end of which G holds -/
def own_Fin (p : Program) (e : Env) (below : List Frame) (cur : State) (G : State → Outcome → Prop) : Prop :=
  ∃ t o, Steps p.tables e below cur t ∧ t.status = .running ∧ Ended t below o ∧ G t o
theorem own_go {p : Program} {e : Env} {below : List Frame} {cur cur' : State} {G : State → Outcome → Prop} (st : ∀ target, Steps p.tables e below cur' target → Steps p.tables e below cur target) (k : own_Fin p e below cur' G) : own_Fin p e below cur G := by
  obtain ⟨t, o, h, r⟩ := k
  exact ⟨t, o, st _ h, r⟩
theorem own_gs {p : Program} {e : Env} {below : List Frame} {cur cur' : State} {G : State → Outcome → Prop} (st : Steps p.tables e below cur cur') (k : own_Fin p e below cur' G) : own_Fin p e below cur G := by
  obtain ⟨t, o, h, r⟩ := k
  exact ⟨t, o, st.trans h, r⟩
theorem own_le {a b : Nat} (h : Nat.ble a b = true) : a ≤ b := Nat.le_of_ble_eq_true h
theorem tw_ {Z : State} {a0 : Array Value} (hw : ∀ d ∈ tables_1, d.before a0 Z = true) (i : Nat) {d : Cond} (h : tables_1[i]? = some d) : d.before a0 Z = true := hw d (List.mem_of_getElem? h)
theorem own_merge {p : Program} {e : Env} {below : List Frame} {cur : Int32 → State} {cur0 : State} {G : State → Outcome → Prop} {d0 : Int32} (k : own_Fin p e below (cur d0) G) (h : (∀ d, d = d0 → own_Fin p e below (cur d) G) → own_Fin p e below cur0 G) : own_Fin p e below cur0 G := h fun d q => by subst q; exact k
abbrev own_r (f c s l : Nat) : Room := { frames := f, cells := c, slots := s, locals := l }
abbrev own_M (l : Launch) (y : MethodName) (by' : ByteArray) (mx : Nat) (re' : Option FieldType) (r : Room) (A : Array Value) (Z : State) (h0 : Heap) (Q : Option Value → Heap → List Loc → Prop) : Prop := MetFree l y (head1 [Jvm.Cond.code y by' mx re'] r) (fun a U => a = A ∧ Z.Warmed39 U.vm ∧ U.heap = h0) (fun _ _ _ _ _ => True) (fun _ U o U' => ∃ v L, o = .returned v ∧ Q v U'.heap L ∧ FrameEnd U o U' L r.cells r.slots)
/-! ## entering a body, and leaving it -/
def own_G (s : State) (Q : Option Value → Heap → List Loc → Prop) (r : Room) (t : State) (o : Outcome) : Prop := ∃ v L, o = .returned v ∧ Q v t.heap L ∧ FrameEnd s o t L r.cells r.slots
theorem own_enter {l : Launch} {y : MethodName} {by' : ByteArray} {mx : Nat} {re' : Option FieldType} {r : Room} {A : Array Value} {Z : State} {h0 : Heap} {Q : Option Value → Heap → List Loc → Prop} {Ls : Array Slot} {own : String} (ho : y.cls = own) (hp : plainFor y = true) (hef : ∀ m, entryFrame m A mx = mkF m 0 Ls [])
    (H : ∀ (p : Program) (e : Env) (s : State) (m : MethodId) (below : List Frame) (meth : Method) (c : Code) (s₁ : State), BodyLoose p l y (head1 [Jvm.Cond.code y by' mx re'] r) by' mx re' e s m A below meth c s₁ → Z.Warmed39 s.vm → s.heap = h0 → p.tables.exec = Jvm.exec → c.code = by' → c.maxLocals = mx → s.vm.findClass own = some m.cls → meth.name = y.name →
      Stand p l e r s m A below meth c s₁ [] 0 0 → s₁.heap = h0 → own_Fin p e below (s₁.setTop (mkF m 0 Ls [])) (own_G s Q r)) : own_M l y by' mx re' r A Z h0 Q := by
  refine MetFree.of_bodySF hp hisR ?_
  intro p e s m args below meth c s₁ Bd hml hP _
  obtain ⟨rfl, hZ, hh⟩ := hP
  have h := H p e s m below meth c s₁ Bd hZ hh Bd.exec Bd.bytes hml (ho ▸ findClass_of_methodNamed Bd.named) (name_of_methodNamed Bd.named Bd.method).1 (Stand.of_body Bd) (by rw [← hh, Bd.state]; rfl)
  rw [hef]
  exact h
section OwnRet
variable {p : Program} {l : Launch} {e : Env} {r : Room} {s : State} {m : MethodId} {A : Array Value} {below : List Frame} {meth : Method} {c : Code} {T s₁ : State} {locs : List Loc} {cells slots : Nat} {y : MethodName} {S : Spec} {by' : ByteArray} {mx : Nat} {h : Heap} {Q : Option Value → Heap → List Loc → Prop} {Ls : Array Slot} {pc : Nat} {rest : List Value}
theorem own_rV (X : Stand p l e r s m A below meth c T locs cells slots) (Bd : BodyLoose p l y S by' mx none e s m A below meth c s₁) (D : decode c.code pc = .ok (.return_, 1)) (eT : T.heap = h) (q : Q none h locs) (hc : Nat.ble cells r.cells = true) (hs : Nat.ble slots r.slots = true) : own_Fin p e below (T.setTop (mkF m pc Ls [])) (own_G s Q r) := by
  obtain ⟨fs, hr, hrun, hended, hW1, hsame⟩ := X.leave (v := none) (fun _ => rfl)
  exact ⟨_, _, X.returnOut Bd.exec Bd.returns D hr, hrun, hended, _, _, rfl, by show Q _ T.heap _; rw [eT]; exact q, ⟨_, rfl⟩, hW1, hsame.mono (own_le hc) (own_le hs)⟩
theorem own_rA {t : FieldType} (X : Stand p l e r s m A below meth c T locs cells slots) (Bd : BodyLoose p l y S by' mx (some t) e s m A below meth c s₁) (ht : t.isReference = true) {v : Value} (hv : v.isRef = true) (D : decode c.code pc = .ok (.areturn, 1)) (eT : T.heap = h) (q : Q (some v) h locs) (hc : Nat.ble cells r.cells = true) (hs : Nat.ble slots r.slots = true) : own_Fin p e below (T.setTop (mkF m pc Ls [v])) (own_G s Q r) := by
  obtain ⟨fs, hr, hrun, hended, hW1, hsame⟩ := X.leave (v := some v) (fun h => by rw [Bd.returns] at h; cases h)
  exact ⟨_, _, X.areturnOut Bd.exec hv Bd.returns ht D hr, hrun, hended, _, _, rfl, by show Q _ T.heap _; rw [eT]; exact q, ⟨_, rfl⟩, hW1, hsame.mono (own_le hc) (own_le hs)⟩
theorem own_rI (X : Stand p l e r s m A below meth c T locs cells slots) (Bd : BodyLoose p l y S by' mx (some .int) e s m A below meth c s₁) {v : Int32} (D : decode c.code pc = .ok (.ireturn, 1)) (eT : T.heap = h) (q : Q (some (.int v)) h locs) (hc : Nat.ble cells r.cells = true) (hs : Nat.ble slots r.slots = true) : own_Fin p e below (T.setTop (mkF m pc Ls (.int v :: rest))) (own_G s Q r) := by
  obtain ⟨fs, hr, hrun, hended, hW1, hsame⟩ := X.leave (v := some (.int v)) (fun h => by rw [Bd.returns] at h; cases h)
  exact ⟨_, _, retI X Bd.exec Bd.returns D hr, hrun, hended, _, _, rfl, by show Q _ T.heap _; rw [eT]; exact q, ⟨_, rfl⟩, hW1, hsame.mono (own_le hc) (own_le hs)⟩
theorem own_rJ (X : Stand p l e r s m A below meth c T locs cells slots) (Bd : BodyLoose p l y S by' mx (some .long) e s m A below meth c s₁) {v : Int64} (D : decode c.code pc = .ok (.lreturn, 1)) (eT : T.heap = h) (q : Q (some (.long v)) h locs) (hc : Nat.ble cells r.cells = true) (hs : Nat.ble slots r.slots = true) : own_Fin p e below (T.setTop (mkF m pc Ls [.long v])) (own_G s Q r) := by
  obtain ⟨fs, hr, hrun, hended, hW1, hsame⟩ := X.leave (v := some (.long v)) (fun h => by rw [Bd.returns] at h; cases h)
  exact ⟨_, _, X.lreturnOut Bd.exec Bd.returns D hr, hrun, hended, _, _, rfl, by show Q _ T.heap _; rw [eT]; exact q, ⟨_, rfl⟩, hW1, hsame.mono (own_le hc) (own_le hs)⟩
theorem own_rN {t : FieldType} (X : Stand p l e r s m A below meth c T locs cells slots) (Bd : BodyLoose p l y S by' mx (some t) e s m A below meth c s₁) (ht : t = .boolean ∨ t = .byte ∨ t = .char ∨ t = .short) {z v : Int32} (hv : nar t z = v) (D : decode c.code pc = .ok (.ireturn, 1)) (eT : T.heap = h) (q : Q (some (.int v)) h locs) (hc : Nat.ble cells r.cells = true) (hs : Nat.ble slots r.slots = true) : own_Fin p e below (T.setTop (mkF m pc Ls (.int z :: rest))) (own_G s Q r) := by
  subst hv
  obtain ⟨fs, hr, hrun, hended, hW1, hsame⟩ := X.leave (v := some (.int (nar t z))) (fun h => by rw [Bd.returns] at h; cases h)
  exact ⟨_, _, retN X Bd.exec Bd.returns ht D hr, hrun, hended, _, _, rfl, by show Q _ T.heap _; rw [eT]; exact q, ⟨_, rfl⟩, hW1, hsame.mono (own_le hc) (own_le hs)⟩
end OwnRet
/-! ## Strings: one fact, its carriage, and who pays a call -/
section OwnStr
variable {Z : State} {h h' : Heap} {x t : Addr} {cs : List Int32} {ws : List Addr}
/-- the String at x, its bytes at t, spells cs -/
def own_Str (Z : State) (h : Heap) (x t : Addr) (cs : List Int32) : Prop := ∃ (k : ClassId) (cd N : Int32) (vs : List Value), Exa Z h x "java/lang/String" ∧ Fld Z h x "java/lang/String" "value" "[B" (.ref t) ∧ Fld Z h x "java/lang/String" "coder" "B" (.int cd) ∧ Arv Z h t k .byte N vs (.int 0) ∧ StrChars.Road.CodA cs cd N vs ∧ (∀ c ∈ cs, ¬ c < 0 ∧ ¬ (65535 : Int32) < c) ∧ cs.length ≤ 4000
theorem own_Str.ext (F : own_Str Z h x t cs) (E : Ext h h') : own_Str Z h' x t cs := by
  obtain ⟨k, cd, N, vs, a, b, c, d, r⟩ := F
  exact ⟨k, cd, N, vs, a.ext E, b.ext E, c.ext E, d.ext E, r⟩
theorem own_Str.keep (F : own_Str Z h x t cs) (K : Keep h h' ws) (q1 : x ∉ ws) (q2 : t ∉ ws) : own_Str Z h' x t cs := by
  obtain ⟨k, cd, N, vs, a, b, c, d, r⟩ := F
  exact ⟨k, cd, N, vs, a.keep K, b.keep K q1, c.keep K q1, d.keep K q2, r⟩
theorem own_Str.exa (F : own_Str Z h x t cs) : Exa Z h x "java/lang/String" := by obtain ⟨k, cd, N, vs, a, r⟩ := F; exact a
theorem own_Str.lt {x t : Nat} (F : own_Str Z h x t cs) : x < h.size ∧ t < h.size := by obtain ⟨k, cd, N, vs, a, b, c, d, r⟩ := F; exact ⟨a.lt, d.lt⟩
end OwnStr
theorem own_nar {c : Int32} (h0 : ¬ c < 0) (h1 : ¬ (65535 : Int32) < c) : nar .char c = c := by
  have h3 := c_i2c c
  show c.toUInt32.toUInt16.toUInt32.toInt32 = c
  rw [Int32.lt_iff_toInt_lt] at h0 h1
  have e0 : (0 : Int32).toInt = 0 := rfl
  have e1 : (65535 : Int32).toInt = 65535 := rfl
  exact Int32.toInt_inj.mp (by omega)
theorem own_up {c : Int32} (h1 : ¬ (255 : Int32) < c) : ¬ (65535 : Int32) < c := by
  rw [Int32.lt_iff_toInt_lt] at h1 ⊢
  have e1 : (65535 : Int32).toInt = 65535 := rfl
  have e2 : (255 : Int32).toInt = 255 := rfl
  omega
theorem own_and255 (x : Int32) : ¬ nar .char ((x &&& (255 : Int32)).toUInt32.toUInt16.toUInt32.toInt32) < 0 ∧ ¬ (255 : Int32) < nar .char ((x &&& (255 : Int32)).toUInt32.toUInt16.toUInt32.toInt32) := by
  have h1 := c_mask x 255 8 (by decide) (by decide)
  have h2 := c_i2c (x &&& (255 : Int32))
  have h3 := c_i2c ((x &&& (255 : Int32)).toUInt32.toUInt16.toUInt32.toInt32)
  have e1 : (255 : Int32).toInt = 255 := rfl
  have e0 : (0 : Int32).toInt = 0 := rfl
  show ¬ ((x &&& (255 : Int32)).toUInt32.toUInt16.toUInt32.toInt32).toUInt32.toUInt16.toUInt32.toInt32 < 0 ∧ ¬ (255 : Int32) < ((x &&& (255 : Int32)).toUInt32.toUInt16.toUInt32.toInt32).toUInt32.toUInt16.toUInt32.toInt32
  rw [Int32.lt_iff_toInt_lt, Int32.lt_iff_toInt_lt, e0, e1]
  simp only [Nat.reducePow, Int.cast_ofNat_Int] at h1
  omega
theorem own_and3 (x : Int32) : (x &&& (3 : Int32)) = 0 ∨ (x &&& (3 : Int32)) = 1 ∨ (x &&& (3 : Int32)) = 2 ∨ (x &&& (3 : Int32)) = 3 := by
  have h1 := c_mask x 3 2 (by decide) (by decide)
  simp only [Nat.reducePow, Int.cast_ofNat_Int] at h1
  have e0 : (0 : Int32).toInt = 0 := rfl
  have e1 : (1 : Int32).toInt = 1 := rfl
  have e2 : (2 : Int32).toInt = 2 := rfl
  have e3 : (3 : Int32).toInt = 3 := rfl
  simp only [← Int32.toInt_inj, e0, e1, e2, e3]
  omega
theorem own_m255 (x : Int32) : ¬ ((x &&& (255 : Int32)).toUInt32.toUInt16.toUInt32.toInt32) < 0 ∧ ¬ (255 : Int32) < ((x &&& (255 : Int32)).toUInt32.toUInt16.toUInt32.toInt32) := by
  have h1 := c_mask x 255 8 (by decide) (by decide)
  have h2 := c_i2c (x &&& (255 : Int32))
  have e1 : (255 : Int32).toInt = 255 := rfl
  have e0 : (0 : Int32).toInt = 0 := rfl
  rw [Int32.lt_iff_toInt_lt, Int32.lt_iff_toInt_lt, e0, e1]
  simp only [Nat.reducePow, Int.cast_ofNat_Int] at h1
  omega
/-! ## small numbers as ints -/
theorem own_n32 {n : Nat} (h : n ≤ 100000) : (Int32.ofNat n).toInt = n := Int32.toInt_ofNat_of_lt (by omega)
theorem own_nat {n : Nat} (h : n ≤ 100000) : (Int32.ofNat n).toNatClampNeg = n := by
  have := own_n32 h
  simp only [Int32.toNatClampNeg, this]
  omega
theorem own_in {a b : Nat} (h : a < b) (hb : b ≤ 100000) : ¬ Int32.ofNat a < 0 ∧ Int32.ofNat a < Int32.ofNat b := by
  rw [Int32.lt_iff_toInt_lt, Int32.lt_iff_toInt_lt, own_n32 (by omega), own_n32 hb]
  have e0 : (0 : Int32).toInt = 0 := rfl
  omega
theorem own_shl1 {i : Nat} (h : i ≤ 40000) : (Int32.ofNat i <<< ((1 : Int32) &&& 31)) = Int32.ofNat (2 * i) := by
  have h1 := c_ishl (Int32.ofNat i) 1 1 (by decide)
  have h2 := rng32 (Int32.ofNat i <<< ((1 : Int32) &&& 31))
  rw [own_n32 (by omega)] at h1
  simp only [Nat.reducePow, Int.cast_ofNat_Int] at h1
  apply Int32.toInt_inj.mp
  rw [own_n32 (by omega)]
  omega
theorem own_shr1 {n : Nat} (h : n ≤ 40000) : (Int32.ofNat (2 * n) >>> ((1 : Int32) &&& 31)) = Int32.ofNat n := by
  have h1 := c_ishr (Int32.ofNat (2 * n)) 1 1 (by decide)
  rw [own_n32 (by omega)] at h1
  simp only [Nat.reducePow, Int.cast_ofNat_Int] at h1
  apply Int32.toInt_inj.mp
  rw [own_n32 (by omega), h1]
  omega
theorem own_p1 (m : Nat) : (Int32.ofNat m + (1 : Int32)) = Int32.ofNat (m + 1) := (Int32.ofNat_add m 1).symm
theorem own_nar2 (y : Int32) : nar .char (y.toUInt32.toUInt16.toUInt32.toInt32) = y.toUInt32.toUInt16.toUInt32.toInt32 := by simp only [nar, UInt32.toUInt32_toInt32, UInt16.toUInt16_toUInt32]
theorem own_b2 (y : Int32) : y.toInt8.toInt32.toInt8.toInt32 = y.toInt8.toInt32 := by
  have h1 := c_i2b y
  have h2 := c_i2b (y.toInt8.toInt32)
  apply Int32.toInt_inj.mp
  omega
theorem own_narb (x : Int32) : ¬ nar .char x < 0 ∧ ¬ (65535 : Int32) < nar .char x := by
  have h2 := c_i2c x
  have e1 : (65535 : Int32).toInt = 65535 := rfl
  have e0 : (0 : Int32).toInt = 0 := rfl
  show ¬ x.toUInt32.toUInt16.toUInt32.toInt32 < 0 ∧ ¬ (65535 : Int32) < x.toUInt32.toUInt16.toUInt32.toInt32
  rw [Int32.lt_iff_toInt_lt, Int32.lt_iff_toInt_lt, e0, e1]
  omega
theorem own_lsw {tb : Tables} [Ours tb] {e : Env} {below : List Frame} {T target : State} {m : MethodId} {c : Code} {g : JFrame} (h : At T m c below) (hx : tb.exec = Jvm.exec) (hg : g.method = m) {dflt : Int} {ps : Array (Int × Int)} {len : Nat} {o : Int} {pc0 pc' : Nat} (hpc : g.pc = pc0) (hd : decode c.code g.pc = .ok (.lookupswitch dflt ps, len)) {i : Int32} {rest : List Value} (hs : g.stack = .int i :: rest)
    (hsort : (ps.toList.zip (ps.toList.drop 1)).all (fun (a, next) => a.1 < next.1) = true) (hoff : lookupswitch.offset ps.toList dflt i.toInt = o) (ho : 0 ≤ (pc0 : Int) + o) (hp : ((pc0 : Int) + o).toNat = pc')
    (hr : Steps tb e below (T.setTop { g with pc := pc', stack := rest }) target) : Steps tb e below (T.setTop g) target := by
  subst hg hpc hp
  jvm_step h [h.top, hx, hd, hs, lookupswitch.wp_chain, hsort, hoff, ho]
  exact ⟨by simpa using hsort, hr⟩
theorem own_exaB {Z : State} {h : Heap} {t : Addr} {kb : ClassId} {n : Int32} {vs : List Value} {d : Value} (V : Arv Z h t kb .byte n vs d) (hf : Z.vm.findClass "[B" = some kb) : Exa Z h t "[B" := by
  obtain ⟨c, ⟨h1, ⟨h2, k, h3, comp, h4⟩, h5⟩, rfl, r⟩ := V
  refine ⟨c, k, h1, hf, h3, ?_, fun q => by rw [h4] at q; cases q⟩
  cases hc : c.vm <;> simp [VmData.isStatics]
  exact absurd hc (h2 _)
theorem own_nf {s : State} {y y' : MethodName} {args : Array Value} (h : NotFace s y) (w : (Cond.instanceMethod y).before args s = true) (hc : y.cls = y'.cls) : NotFace s y' := fun r0 h0 => by
  obtain ⟨mk, methM, hnamed, -⟩ := Cond.instanceMethod_spec w
  obtain ⟨k, h1, h2⟩ := h mk hnamed
  have e1 := findClass_of_methodNamed hnamed
  have e2 := findClass_of_methodNamed h0
  rw [hc, e2] at e1
  exact ⟨k, by rw [Option.some.inj e1]; exact h1, h2⟩
theorem own_sameM {s : State} {y : MethodName} {args : Array Value} (h : NotFace s y) (w : (Cond.instanceMethod y).before args s = true) (hy : y.cls ≠ "java/lang/invoke/MethodHandle" ∧ y.cls ≠ "java/lang/invoke/VarHandle") : (Cond.sameMethod y.cls y.cls y.name y.desc).before args s = true := by
  obtain ⟨mk, methM, hnamed, -⟩ := Cond.instanceMethod_spec w
  obtain ⟨k, h1, h2⟩ := h mk hnamed
  have hf : s.methodFound? y.cls y.name y.desc = some mk := State.methodFound?_of_named hnamed hy
  have e1 := findClass_of_methodNamed hnamed
  have e2 : s.methodNamed? ⟨y.cls, y.name, y.desc⟩ = some mk := hnamed
  simp [Cond.before, Cond.holds, Cond.value, e1, hf, e2, h1, h2]
theorem own_selP {s : State} {y : MethodName} {args : Array Value} (h : NotFace s y) (w : (Cond.instanceMethod y).before args s = true) (hp : (Cond.privateMethod y).before args s = true) (hy : y.cls ≠ "java/lang/invoke/MethodHandle" ∧ y.cls ≠ "java/lang/invoke/VarHandle") : (Cond.selects y.cls y y).before args s = true := by
  obtain ⟨mk, methM, hnamed, -⟩ := Cond.instanceMethod_spec w
  obtain ⟨k, h1, h2⟩ := h mk hnamed
  exact selects_self_of_private (findClass_of_methodNamed hnamed) h1 h2 (Cond.privateMethod_at hp) w hy
theorem own_cell {Z : State} {h : Heap} {a : Addr} {C : String} (F : Exa Z h a C) : ∃ cell, h[a]? = some cell ∧ ∀ q, cell.vm ≠ .statics q := by
  obtain ⟨cell, h1, h2⟩ := F.cell
  exact ⟨cell, h1, h2⟩
theorem own_fcB {Z : State} {h : Heap} {t : Addr} {kb : ClassId} {n : Int32} {vs : List Value} {d : Value} (V : Arv Z h t kb .byte n vs d) (E : Exa Z h t "[B") : Z.vm.findClass "[B" = some kb := by
  obtain ⟨c, ⟨h1, h2⟩, rfl, r⟩ := V
  obtain ⟨c2, k, e1, e2, -⟩ := E
  cases h1.symm.trans e1
  exact e2
theorem own_subn {i n : Nat} (h : i < n) (hn : n ≤ 100) : ¬ (0 : Int32) < Int32.ofNat (i + 1) - Int32.ofNat n := by
  have h1 := c_isub (Int32.ofNat (i + 1)) (Int32.ofNat n)
  have e0 : (0 : Int32).toInt = 0 := rfl
  have r1 := rng32 (Int32.ofNat (i + 1) - Int32.ofNat n)
  rw [own_n32 (by omega), own_n32 (by omega)] at h1
  rw [Int32.lt_iff_toInt_lt, e0]
  omega
theorem own_ltM {n : Nat} (hn : n ≤ 100) : Int32.ofNat n < (1073741823 : Int32) := by
  have e0 : (1073741823 : Int32).toInt = 1073741823 := rfl
  rw [Int32.lt_iff_toInt_lt, e0, own_n32 (by omega)]
  omega
theorem own_cfi {n i : Nat} (hn : n ≤ 3) (hi : i ≤ n) : ¬ ((Int32.ofNat n ||| (0 : Int32)) ||| Int32.ofNat i) < (0 : Int32) ∧ ¬ (Int32.ofNat n - (0 : Int32)) < Int32.ofNat i := by
  have h1 : n = 0 ∨ n = 1 ∨ n = 2 ∨ n = 3 := by omega
  have h2 : i = 0 ∨ i = 1 ∨ i = 2 ∨ i = 3 := by omega
  rcases h1 with rfl | rfl | rfl | rfl <;> rcases h2 with rfl | rfl | rfl | rfl <;> first | decide | (exfalso; omega)
/-- what oneLine shows of a char -/
def own_sh (c : Int32) : Int32 := if 31 < c then (if c < 127 then c else if 159 < c then c else 32) else 32
theorem own_sh_a {c : Int32} (h : (159 : Int32) < c) : own_sh c = c := by
  have e1 : (159 : Int32).toInt = 159 := rfl
  have e2 : (31 : Int32).toInt = 31 := rfl
  have e3 : (127 : Int32).toInt = 127 := rfl
  have h1 : (31 : Int32) < c := by rw [Int32.lt_iff_toInt_lt] at h ⊢; omega
  have h2 : ¬ c < 127 := by rw [Int32.lt_iff_toInt_lt] at h ⊢; omega
  unfold own_sh
  rw [if_pos h1, if_neg h2, if_pos h]
theorem own_sh_b {c : Int32} (h : ¬ (159 : Int32) < c) (h2 : ¬ c < 127) : own_sh c = 32 := by
  have e2 : (31 : Int32).toInt = 31 := rfl
  have e3 : (127 : Int32).toInt = 127 := rfl
  have h1 : (31 : Int32) < c := by rw [Int32.lt_iff_toInt_lt] at h2 ⊢; omega
  unfold own_sh
  rw [if_pos h1, if_neg h2, if_neg h]
theorem own_sh_q (c : Int32) : (c.toUInt32 >>> ((5 : Int32) &&& 31).toUInt32).toInt32.toInt = (if 0 ≤ c.toInt then c.toInt / 32 else (c.toInt + 4294967296) / 32) := by
  have q1 := c_iushr c 5 5 (by decide) (by decide)
  simp only [Nat.reducePow, Int.cast_ofNat_Int] at q1
  have r0 := rng32 c
  split <;> omega
theorem own_sh_c {c : Int32} (hc : ¬ c < 0) (h2 : (c.toUInt32 >>> ((5 : Int32) &&& 31).toUInt32).toInt32 = 0) : own_sh c = 32 := by
  have q := own_sh_q c
  have e0 : (0 : Int32).toInt = 0 := rfl
  have e2 : (31 : Int32).toInt = 31 := rfl
  rw [h2, e0] at q
  rw [Int32.lt_iff_toInt_lt, e0] at hc
  have h1 : ¬ (31 : Int32) < c := by rw [Int32.lt_iff_toInt_lt, e2]; rw [if_pos (by omega)] at q; omega
  unfold own_sh
  rw [if_neg h1]
theorem own_sh_d {c : Int32} (hc : ¬ c < 0) (h3 : c < 127) (h2 : ¬ (c.toUInt32 >>> ((5 : Int32) &&& 31).toUInt32).toInt32 = 0) : own_sh c = c := by
  have q := own_sh_q c
  have e0 : (0 : Int32).toInt = 0 := rfl
  have e2 : (31 : Int32).toInt = 31 := rfl
  rw [← Int32.toInt_inj, e0] at h2
  rw [Int32.lt_iff_toInt_lt, e0] at hc
  have h1 : (31 : Int32) < c := by rw [Int32.lt_iff_toInt_lt, e2]; rw [if_pos (by omega)] at q; omega
  unfold own_sh
  rw [if_pos h1, if_pos h3]
theorem own_sh_bd {c : Int32} (h : ¬ c < 0 ∧ ¬ (65535 : Int32) < c) : ¬ own_sh c < 0 ∧ ¬ (65535 : Int32) < own_sh c := by
  unfold own_sh
  split
  · split
    · exact h
    · split
      · exact h
      · decide
  · decide
theorem own_Str.bd {Z : State} {h : Heap} {x t : Addr} {cs : List Int32} (F : own_Str Z h x t cs) : ∀ c ∈ cs, ¬ c < 0 ∧ ¬ (65535 : Int32) < c := by obtain ⟨k, cd, N, vs, f1, f2, f3, f4, f5, f6, f7⟩ := F; exact f6
/-- the bytes of a builder of capacity n that holds cs -/
def own_lat (n : Nat) (cs : List Int32) : List Value := (cs.map fun c => Value.int (StrChars.lo8 c)) ++ List.replicate (n - cs.length) (.int 0)
def own_wid (n : Nat) (cs : List Int32) : List Value := StrChars.Road.wideBytes cs ++ List.replicate (2 * (n - cs.length)) (.int 0)
def own_puts : List Value → Nat → List Int32 → List Value
  | vs, _, [] => vs
  | vs, i, c :: cs => own_puts ((vs.set (2 * i) (.int (StrChars.lo8 c))).set (2 * i + 1) (.int (StrChars.hi8 c))) (i + 1) cs
/-- the StringBuilder at b, its bytes at t, of capacity n, holds cs -/
def own_SB (Z : State) (h : Heap) (b t : Addr) (n : Nat) (cs : List Int32) : Prop := ∃ (k : ClassId) (cd N : Int32) (vs : List Value), Exa Z h b "java/lang/StringBuilder" ∧ Fld Z h b "java/lang/AbstractStringBuilder" "value" "[B" (.ref t) ∧ Fld Z h b "java/lang/AbstractStringBuilder" "coder" "B" (.int cd) ∧ Fld Z h b "java/lang/AbstractStringBuilder" "count" "I" (.int (Int32.ofNat cs.length)) ∧ Fld Z h b "java/lang/AbstractStringBuilder" "maybeLatin1" "Z" (.int (0 : Int32)) ∧ Arv Z h t k .byte N vs (.int 0) ∧ Z.vm.findClass "[B" = some k ∧
  ((cd = 0 ∧ N = Int32.ofNat n ∧ vs = own_lat n cs ∧ ∀ c ∈ cs, ¬ (255 : Int32) < c) ∨ (cd = 1 ∧ N = Int32.ofNat (2 * n) ∧ vs = own_wid n cs ∧ ∃ c ∈ cs, (255 : Int32) < c))
theorem own_SB.lt {Z : State} {h : Heap} {b t n : Nat} {cs : List Int32} (F : own_SB Z h b t n cs) : b < h.size ∧ t < h.size := by obtain ⟨k, cd, N, vs, a, -, -, -, -, d, -⟩ := F; exact ⟨a.lt, d.lt⟩
theorem own_SB.exa {Z : State} {h : Heap} {b t : Addr} {n : Nat} {cs : List Int32} (F : own_SB Z h b t n cs) : Exa Z h b "java/lang/StringBuilder" := by obtain ⟨k, cd, N, vs, a, -⟩ := F; exact a
theorem own_keep2 {h h' : Heap} {b t : Addr} (K : Keep h h' [b]) : Keep h h' [b, t] := ⟨K.1, fun x c q r => K.2.1 x c q fun z => r (by rw [List.mem_singleton.mp z]; exact List.mem_cons_self), K.2.2⟩
section OwnW
variable {p : Program} {l : Launch} {e : Env} {R : Room} {s : State} {m : MethodId} {args : Array Value} {below : List Frame} {Z : State} {a0 : Array Value} {EL : List (String × Nat)} {h : Heap} {vm0 : Vm}
/-- a callee that may load String constants, and that is handed the objects xs, none of them a constant's -/
theorem own_backS {y : MethodName} {bytes : ByteArray} {maxL : Nat} {ret : Option FieldType} {rm : Room} {len W : Nat} {as' : Array Value} {Q : Option Value → Heap → List Loc → Prop} {xs : List Addr}
    (hM : MetFree l y (head1 [Cond.code y bytes maxL ret] rm) (fun a U => a = as' ∧ Z.Warmed39 U.vm ∧ U.heap = h ∧ CHv Z EL U.vm h ∧ ∀ x ∈ xs, Safe Z EL U.vm h x) (fun _ _ _ _ _ => True) (fun _ U o U' => ∃ v L, o = .returned v ∧ Q v U'.heap L ∧ CHr Z EL U.vm U.heap U'.vm U'.heap ∧ ReturnedEndW U o U' L rm.cells rm.slots))
    (hZ : Z.Warmed39 vm0) (wc : (Cond.code y bytes maxL ret).before a0 Z = true) (wz : (Cond.initialized y.cls).before a0 Z = true) (hf : rm.frames + 1 ≤ R.frames) (hl : W + (maxL + 11) + rm.locals ≤ R.locals) (hEL : EW Z a0 EL) (H : CHv Z EL vm0 h) (hs : ∀ x ∈ xs, Safe Z EL vm0 h x ∧ x < h.size) :
    BackS l R p e below (s.setVm vm0) args y len W (fun A a => a = as' ∧ A.U.heap = h ∧ A.cells + rm.cells ≤ R.cells ∧ A.slots + rm.slots ≤ R.slots)
      (fun A _ v B => ∃ L, Q v B.U.heap L ∧ B.locs = A.locs ++ L ∧ B.cells = A.cells + rm.cells ∧ B.slots = A.slots + rm.slots ∧ CHr Z EL vm0 h B.U.vm B.U.heap) := by
  refine BackS.of_freeW (bytes := bytes) (maxL := maxL) (ret := ret) (E := fun _ first o t L k n => (k = rm.cells ∧ n = rm.slots) ∧ CHr Z EL first.vm first.heap t.vm t.heap ∧ ∃ v, o = .returned v ∧ Q v t.heap L) hM hf hl ?_ ?_ (fun _ _ _ _ _ _ _ _ _ => trivial) ?_ ?_
  · intro m meth c A a Y hp
    have hU : Z.Warmed39 A.U.vm := wtrans (s := s.setVm vm0) hZ Y.warmed
    have w1 : (Cond.code y bytes maxL ret).before a A.U = true := mv hU wc
    refine ⟨?_, w1, mv hU wz, hp.2.2.1, hp.2.2.2⟩
    show (Cond.and _ .tt).before a A.U = true
    rw [Cond.before_and, w1]
    rfl
  · intro m meth c A a g mk Y hp
    have q := CHv.at Y hZ hEL H
    exact ⟨hp.1, wtrans (s := s.setVm vm0) hZ Y.warmed, hp.2.1, q.1, fun x hx => q.safe (hs x hx).2 (hs x hx).1⟩
  · rintro a first o t ⟨v, L, h1, h2, h3, h4⟩
    exact ⟨L, _, _, h4, ⟨rfl, rfl⟩, h3, v, h1, h2⟩
  · rintro m meth c A a g mk v t L k n Y hp - - ⟨⟨rfl, rfl⟩, hC, v', e3, e4⟩
    cases e3
    refine ⟨L, e4, rfl, rfl, rfl, (CHv.at Y hZ hEL H).trans ?_⟩
    rw [← hp.2.1]
    exact hC
end OwnW
section OwnW
variable {p : Program} {l : Launch} {e : Env} {R : Room} {s : State} {m : MethodId} {args : Array Value} {below : List Frame} {Z : State} {a0 : Array Value} {EL : List (String × Nat)} {h : Heap} {vm0 : Vm}
/-- length() -/
theorem own_lenB {len W : Nat} (hZ : Z.Warmed39 s.vm) (hw : ∀ d ∈ tables_1, d.before a0 Z = true) {x t : Addr} {cs : List Int32} {z : Int32} (F : own_Str Z h x t cs) (S : Sta Z h "java/lang/String" "COMPACT_STRINGS" "Z" (.int z)) (hz : ¬ z = 0) (hfr : 2 ≤ R.frames) (hlo : W + 25 ≤ R.locals) :
    Back l R p e below s args (⟨"java/lang/String", "length", "()I"⟩ : MethodName) len W (fun P a => a = #[.ref x] ∧ P.U.heap = h ∧ P.cells + 0 ≤ R.cells ∧ P.slots + 0 ≤ R.slots)
      (fun P _ v B => ∃ L, (v = some (.int (Int32.ofNat cs.length)) ∧ L = [] ∧ B.U.heap = h) ∧ B.locs = P.locs ++ L ∧ B.cells = P.cells + 0 ∧ B.slots = P.slots + 0) := by
  obtain ⟨k, cd, N, vs, f1, f2, f3, f4, f5, f6, f7⟩ := F
  exact StrChars.Road.lenW hZ (fun d hd => hw d ((by decide +kernel : ∀ d ∈ StrChars.Road.wordsLen, d ∈ tables_1) d hd)) (kI := 4) (tw_ hw 17 rfl) f1 f2 f3 f4 f5 f6 S hz f7 hfr hlo
end OwnW
def own_W (Z : State) (a0 : Array Value) : Prop := (∀ d ∈ tables_1, d.before a0 Z = true) ∧ (∃ g : Int32, Sta Z Z.heap "java/lang/String" "COMPACT_STRINGS" "Z" (.int g) ∧ ¬ g = 0) ∧ (∃ f : Value, Sta Z Z.heap "jdk/internal/util/Preconditions" "SIOOBE_FORMATTER" "Ljava/util/function/BiFunction;" f ∧ f.isRef = true) ∧ Sta Z Z.heap "java/lang/StringUTF16" "$assertionsDisabled" "Z" (.int 1) ∧ Sta Z Z.heap "java/lang/StringUTF16" "HI_BYTE_SHIFT" "I" (.int 0) ∧ Sta Z Z.heap "java/lang/StringUTF16" "LO_BYTE_SHIFT" "I" (.int 8)
def own_EL : List (String × Nat) := [("java/lang/String", 7)]
theorem own_mem_0 : (("java/lang/String", 7) : String × Nat) ∈ own_EL := List.mem_of_getElem? (i := 0) rfl
theorem own_lit_0 : (∀ c ∈ "".toList, c.toNat < 256) ∧ "".toList.map (fun c => Value.int (Jvm.Lit.byteI c.toNat.toUInt16)) = [] := ⟨by decide, rfl⟩
theorem own_EW {Z : State} {a0 : Array Value} (hw : ∀ d ∈ tables_1, d.before a0 Z = true) : EW Z a0 own_EL := (EW.cons (tw_ hw 179 rfl) own_lit_0.1 EW.nil)
theorem own_SA {Z : State} {a0 : Array Value} (hw : ∀ d ∈ tables_1, d.before a0 Z = true) : ∀ a ∈ Bundle.stringAtoms, a.before a0 Z = true := fun d hd => hw d ((by decide +kernel : ∀ d ∈ Bundle.stringAtoms, d ∈ tables_1) d hd)
abbrev own_c0 : ByteArray := jdk_42_method_149_code
def own_new4e_Q (Z : State) (x1 b1 : Nat) (v0 c0 : Value) (h0 : Heap) (n0 : Nat) (v : Option Value) (h : Heap) (L : List Loc) : Prop := v = none ∧ Fr n0 L ∧ Keep h0 h [x1] ∧ ∃ t : Nat, x1 ≠ t ∧ own_Str Z h x1 t []
theorem pn_java_lang_String : plainName "java/lang/String" = true := by first | (simp [plainName, overriddenIn]; done) | decide +kernel
theorem ef_own_new4e (m : MethodId) (x0 : Nat) (x1 : Nat) (x2 : Int32) (x3 : Int32) : entryFrame m #[(.ref x0), (.ref x1), (.int x2), (.int x3), .null] 6 = mkF m 0 #[vr x0, vr x1, vi x2, vi x3, vn, .unset] [] := by first | (simp [entryFrame, mkF, argsToLocals, Value.category]; done) | rfl
abbrev own_y0 : MethodName := ⟨"java/lang/String", "<init>", "([CIILjava/lang/Void;)V"⟩
theorem d0_0 : decode own_c0 0 = .ok (.aload_n 0, 1) := by decide +kernel
theorem d0_1 : decode own_c0 1 = .ok (.invokespecial 1, 3) := by decide +kernel
theorem d0_4 : decode own_c0 4 = .ok (.iload_n 3, 1) := by decide +kernel
theorem d0_5 : decode own_c0 5 = .ok (.ifCond .ne 22, 3) := by decide +kernel
theorem d0_8 : decode own_c0 8 = .ok (.aload_n 0, 1) := by decide +kernel
theorem d0_9 : decode own_c0 9 = .ok (.ldc 7, 2) := by decide +kernel
theorem d0_11 : decode own_c0 11 = .ok (.getfield 9, 3) := by decide +kernel
theorem d0_14 : decode own_c0 14 = .ok (.putfield 9, 3) := by decide +kernel
theorem d0_17 : decode own_c0 17 = .ok (.aload_n 0, 1) := by decide +kernel
theorem d0_18 : decode own_c0 18 = .ok (.ldc 7, 2) := by decide +kernel
theorem d0_20 : decode own_c0 20 = .ok (.getfield 15, 3) := by decide +kernel
theorem d0_23 : decode own_c0 23 = .ok (.putfield 15, 3) := by decide +kernel
theorem d0_26 : decode own_c0 26 = .ok (.return_, 1) := by decide +kernel
set_option maxRecDepth 65536 in
set_option maxHeartbeats 40000000 in
theorem own_new4e (l : Launch) (Z : State) (a0 : Array Value) (hW : own_W Z a0) (x1 b1 : Nat) (v0 c0 : Value) (h0 : Heap) (n0 : Nat) (Z0 : n0 ≤ h0.size) (O0 : Old Z n0 h0) (E1 : Exa Z h0 x1 "java/lang/String") (Fv1 : Fld Z h0 x1 "java/lang/String" "value" "[B" v0) (Fc1 : Fld Z h0 x1 "java/lang/String" "coder" "B" c0) (g1 : n0 ≤ x1) :
    MetFree l own_y0 (head1 (Jvm.Cond.code own_y0 own_c0 6 none :: []) (own_r 1 4 8 16)) (fun a U => a = #[(.ref x1), (.ref b1), (.int (0 : Int32)), (.int (0 : Int32)), .null] ∧ Z.Warmed39 U.vm ∧ U.heap = h0 ∧ CHv Z own_EL U.vm h0 ∧ ∀ x ∈ ([x1] : List Addr), Safe Z own_EL U.vm h0 x) (fun _ _ _ _ _ => True) (fun _ U o U' => ∃ v L, o = .returned v ∧ own_new4e_Q Z x1 b1 v0 c0 h0 n0 v U'.heap L ∧ CHr Z own_EL U.vm U.heap U'.vm U'.heap ∧ ReturnedEndW U o U' L (own_r 1 4 8 16).cells (own_r 1 4 8 16).slots) := by
  refine MetFree.of_bodySF (plainFor_of_name pn_java_lang_String) hisR ?_
  intro p e s m args below meth c s₁ Bd hml0 hP hK
  obtain ⟨rfl, hZ, hh, hCH, hSf⟩ := hP
  obtain ⟨hw, ⟨G1, O2, P5⟩, ⟨G3, O4, rG3⟩, Oa, Oh, Ol⟩ := id hW
  have hx := Bd.exec
  have hby := Bd.bytes
  have hml : c.maxLocals = 6 := hml0
  have hown : s.vm.findClass "java/lang/String" = some m.cls := findClass_of_methodNamed Bd.named
  have hnm := (name_of_methodNamed Bd.named Bd.method).1
  have X0 : Stand p l e (own_r 1 4 8 16) (s.setVm s.vm) m #[(.ref x1), (.ref b1), (.int (0 : Int32)), (.int (0 : Int32)), .null] below meth c s₁ [] 0 0 := Stand.of_body Bd
  have e0 : s₁.heap = h0 := by rw [← hh, Bd.state]; rfl
  have N0 := Fr.nil n0
  have K0 := Keep.refl h0 [x1]
  have hS0 : s.Since s.vm h0.size := (State.WarmedH.refl s).since _
  have CH0 : CHr Z own_EL s.vm h0 s.vm h0 := CHr.refl hCH
  have hEL := own_EW hw
  have hSA := own_SA hw
  have lt1 := own_lt E1.lt
  show own_Fin p e below (s₁.setTop (entryFrame m #[(.ref x1), (.ref b1), (.int (0 : Int32)), (.int (0 : Int32)), .null] 6)) _
  refine own_gs (castTop (ef_own_new4e m x1 b1 (0 : Int32) (0 : Int32)) (Steps.refl _)) ?_
  show own_Fin p e below (s₁.setTop (mkF m 0 #[vr x1, vr b1, vi (0 : Int32), vi (0 : Int32), vn, uu] [])) _
  refine own_gs (cur' := s₁.setTop (mkF m 1 #[vr x1, vr b1, vi (0 : Int32), vi (0 : Int32), vn, uu] [(.ref x1)])) ?_ ?_
  · refine XS.aloadN X0.here hx rfl (hb hby d0_0) rfl rfl ?_
    exact Steps.refl _
  obtain ⟨T11, X11, e11, st11⟩ := initO X0 hx hZ hown (tw_ hw 26 rfl) (tw_ hw 27 rfl) (tw_ hw 28 rfl) e0 (g := (mkF m 1 #[vr x1, vr b1, vi (0 : Int32), vi (0 : Int32), vn, uu] [(.ref x1)])) rfl (by rw [hml]; rfl) rfl (hb hby d0_1) (by decide) (W := 0) (own_le rfl) (by decide)
  refine own_go st11 ?_
  refine own_gs (cur' := T11.setTop (mkF m 9 #[vr x1, vr b1, vi (0 : Int32), vi (0 : Int32), vn, uu] [(.ref x1)])) ?_ ?_
  · refine XS.iloadN X11.here hx rfl (hb hby d0_4) rfl ?_
    refine XS.ifNo X11.here hx rfl (hb hby d0_5) rfl ((if0 _ _).trans (teq ((by decide) : (0 : Int32) = (0 : Int32))).2) ?_
    refine XS.aloadN X11.here hx rfl (hb hby d0_8) rfl rfl ?_
    exact Steps.refl _
  obtain ⟨sa12, T12, h12, k12, sb12, c12, X12, e12, E12, hS12, hk12, hZ12, hown12, A12, Fc12, Fv12, V12, lta12, ltt12, hC12, Li12, ne12, st12⟩ := ldcCH X11 hx hZ hown (tw_ hw 179 rfl) hSA e11 hS0 (show h0.size ≤ h0.size by omega) hEL (own_mem_0) CH0.1 (vs := []) (z := (0 : Int32)) own_lit_0 (by decide) rfl (g := (mkF m 9 #[vr x1, vr b1, vi (0 : Int32), vi (0 : Int32), vn, uu] [(.ref x1)])) rfl (hb hby d0_9) (n := 0) (by decide) (by decide) (by decide) (by decide)
  replace lta12 := own_lt lta12
  replace ltt12 := own_lt ltt12
  refine own_go st12 ?_
  have z13 := E12.1
  have K13 := K0.ext E12
  have O13 := O0.ext E12
  have CH13 := CH0.trans hC12
  have f14 := (CHr.safe hC12 (own_lt (by omega)) (hSf _ (List.mem_of_getElem? (i := 0) rfl)))
  have nx12 := ne12 x1 f14
  have nxa12 := own_ne nx12.1
  have nxb12 := own_ne nx12.2
  obtain ⟨T15, X15, e15, st15⟩ := getF X12 hx hZ12 hown12 (host := "") (Or.inl (tw_ hw 29 rfl)) Via.refl e12 Fv12 (g := (mkF m 11 #[vr x1, vr b1, vi (0 : Int32), vi (0 : Int32), vn, uu] [(.ref sa12), (.ref x1)])) rfl rfl (hb hby d0_11)
  refine own_go st15 ?_
  have f17 := (Fv1.ext E12)
  have f18 := (E1.ext E12)
  obtain ⟨T16, h16, X16, e16, W16, st16⟩ := putF X15 hx hZ12 hown12 (host := "") (Or.inl (tw_ hw 29 rfl)) Via.refl e15 f17 f18 (Or.inr ⟨(tw_ hw 30 rfl), rfl, hnm⟩) (tw_ hw 17 rfl) (ty := (.array .byte)) (by decide) rfl rfl (g := (mkF m 14 #[vr x1, vr b1, vi (0 : Int32), vi (0 : Int32), vn, uu] [(.ref sb12), (.ref x1)])) rfl rfl (hb hby d0_14)
  have F16 := f17.same W16
  refine own_go st16 ?_
  have z19 := W16.size
  have K19 := K13.wr W16 (Or.inl (List.mem_of_getElem? (i := 0) rfl))
  have O19 := O13.wr W16 (by omega)
  have CH19 := CH13.trans (CHr.wr W16 f14 CH13.1)
  have N19 := Fr.snoc X16 N0 (by omega)
  refine own_gs (cur' := T16.setTop (mkF m 18 #[vr x1, vr b1, vi (0 : Int32), vi (0 : Int32), vn, uu] [(.ref x1)])) ?_ ?_
  · refine XS.aloadN X16.here hx rfl (hb hby d0_17) rfl rfl ?_
    exact Steps.refl _
  obtain ⟨sa20, T20, h20, k20, sb20, c20, X20, e20, E20, hS20, hk20, hZ20, hown20, A20, Fc20, Fv20, V20, lta20, ltt20, hC20, Li20, ne20, st20⟩ := ldcCH X16 hx hZ12 hown12 (tw_ hw 179 rfl) hSA e16 hS12 (show k12 ≤ h16.size by omega) hEL (own_mem_0) CH19.1 (vs := []) (z := (0 : Int32)) own_lit_0 (by decide) rfl (g := (mkF m 18 #[vr x1, vr b1, vi (0 : Int32), vi (0 : Int32), vn, uu] [(.ref x1)])) rfl (hb hby d0_18) (n := 0) (by decide) (by decide) (by decide) (by decide)
  replace lta20 := own_lt lta20
  replace ltt20 := own_lt ltt20
  refine own_go st20 ?_
  have z21 := E20.1
  have K21 := K19.ext E20
  have O21 := O19.ext E20
  have CH21 := CH19.trans hC20
  have f22 := (CHr.safe hC20 (own_lt (by omega)) (Safe.wr W16 f14 CH13.1 f14))
  have nx20 := ne20 x1 f22
  have nxa20 := own_ne nx20.1
  have nxb20 := own_ne nx20.2
  obtain ⟨T23, X23, e23, st23⟩ := getF X20 hx hZ20 hown20 (host := "") (Or.inl (tw_ hw 31 rfl)) Via.refl e20 Fc20 (g := (mkF m 20 #[vr x1, vr b1, vi (0 : Int32), vi (0 : Int32), vn, uu] [(.ref sa20), (.ref x1)])) rfl rfl (hb hby d0_20)
  refine own_go st23 ?_
  have f25 := (((Fc1.ext E12).other W16 (Or.inr (slot_ne (Or.inr (tw_ hw 32 rfl)) (Or.inr (tw_ hw 30 rfl)) (by decide) (t := .byte) (t' := (.array .byte)) (by decide) (by decide)))).ext E20)
  have f26 := ((f18.wr W16).ext E20)
  obtain ⟨T24, h24, X24, e24, W24, st24⟩ := putF X23 hx hZ20 hown20 (host := "") (Or.inl (tw_ hw 31 rfl)) Via.refl e23 f25 f26 (Or.inr ⟨(tw_ hw 32 rfl), rfl, hnm⟩) (tw_ hw 17 rfl) (ty := .byte) (by decide) rfl rfl (g := (mkF m 23 #[vr x1, vr b1, vi (0 : Int32), vi (0 : Int32), vn, uu] [(.int (0 : Int32)), (.ref x1)])) rfl rfl (hb hby d0_23)
  have F24 := f25.same W24
  refine own_go st24 ?_
  have z27 := W24.size
  have K27 := K21.wr W24 (Or.inl (List.mem_of_getElem? (i := 0) rfl))
  have O27 := O21.wr W24 (by omega)
  have CH27 := CH21.trans (CHr.wr W24 f22 CH21.1)
  have N27 := Fr.snoc X24 N19 (by omega)
  have f28 := (f26.wr W24)
  have f29 := ((F16.ext E20).other W24 (Or.inr (slot_ne (Or.inr (tw_ hw 30 rfl)) (Or.inr (tw_ hw 32 rfl)) (by decide) (t := (.array .byte)) (t' := .byte) (by decide) (by decide))))
  have f30 := (((V12.other W16 (own_ne (a := sb12) (b := x1) (by omega))).ext E20).other W24 (own_ne (a := sb12) (b := x1) (by omega)))
  show own_Fin p e below (T24.setTop (mkF m 26 #[vr x1, vr b1, vi (0 : Int32), vi (0 : Int32), vn, uu] [])) _
  obtain ⟨fs, hr, hrun, hended, hRE⟩ := X24.leaveW hS20 (show k20 ≤ T24.heap.size by rw [e24]; omega) (v := none) (fun _ => rfl)
  refine ⟨_, _, X24.returnOut hx Bd.returns (hb hby d0_26) hr, hrun, hended, _, _, rfl, ?_, ?_, hRE.1, hRE.2.1, hRE.2.2.1, hRE.2.2.2.mono (own_le rfl) (own_le rfl)⟩
  · show own_new4e_Q Z x1 b1 v0 c0 h0 n0 none T24.heap _
    rw [e24]
    exact ⟨rfl, N27, K27, sb12, (by omega), ⟨_, _, _, _, f28, f29, F24, f30, Or.inl ⟨rfl, rfl, rfl, by simp⟩, by simp, by simp⟩⟩
  · have hfin := CH27.trans (CHv.at X24 hZ20 hEL CH27.1)
    rw [hh]
    show CHr Z own_EL s.vm h0 T24.vm T24.heap
    rw [e24]
    exact hfin
abbrev own_c1 : ByteArray := jdk_42_method_3_code
def own_new1e_Q (Z : State) (x1 b1 : Nat) (v0 c0 : Value) (k1 : ClassId) (h0 : Heap) (n0 : Nat) (v : Option Value) (h : Heap) (L : List Loc) : Prop := v = none ∧ Fr n0 L ∧ Keep h0 h [x1] ∧ ∃ t : Nat, x1 ≠ t ∧ own_Str Z h x1 t []
theorem ef_own_new1e (m : MethodId) (x0 : Nat) (x1 : Nat) : entryFrame m #[(.ref x0), (.ref x1)] 2 = mkF m 0 #[vr x0, vr x1] [] := by first | (simp [entryFrame, mkF, argsToLocals, Value.category]; done) | rfl
abbrev own_y1 : MethodName := ⟨"java/lang/String", "<init>", "([C)V"⟩
theorem d1_0 : decode own_c1 0 = .ok (.aload_n 0, 1) := by decide +kernel
theorem d1_1 : decode own_c1 1 = .ok (.aload_n 1, 1) := by decide +kernel
theorem d1_2 : decode own_c1 2 = .ok (.iconst 0, 1) := by decide +kernel
theorem d1_3 : decode own_c1 3 = .ok (.aload_n 1, 1) := by decide +kernel
theorem d1_4 : decode own_c1 4 = .ok (.arraylength, 1) := by decide +kernel
theorem d1_5 : decode own_c1 5 = .ok (.aconst_null, 1) := by decide +kernel
theorem d1_6 : decode own_c1 6 = .ok (.invokespecial 27, 3) := by decide +kernel
theorem pd_0 : parseMethodDescriptor "([CIILjava/lang/Void;)V" = some ⟨[(.array .char), .int, .int, (.object "java/lang/Void")], none⟩ := by decide +kernel
theorem d1_9 : decode own_c1 9 = .ok (.return_, 1) := by decide +kernel
set_option maxRecDepth 65536 in
set_option maxHeartbeats 40000000 in
theorem own_new1e (l : Launch) (Z : State) (a0 : Array Value) (hW : own_W Z a0) (x1 b1 : Nat) (v0 c0 : Value) (k1 : ClassId) (h0 : Heap) (n0 : Nat) (Z0 : n0 ≤ h0.size) (O0 : Old Z n0 h0) (E1 : Exa Z h0 x1 "java/lang/String") (Fv1 : Fld Z h0 x1 "java/lang/String" "value" "[B" v0) (Fc1 : Fld Z h0 x1 "java/lang/String" "coder" "B" c0) (g1 : n0 ≤ x1) (V1 : Arv Z h0 b1 k1 .char (0 : Int32) [] (.int (0 : Int32))) :
    MetFree l own_y1 (head1 (Jvm.Cond.code own_y1 own_c1 2 none :: []) (own_r 2 4 8 40)) (fun a U => a = #[(.ref x1), (.ref b1)] ∧ Z.Warmed39 U.vm ∧ U.heap = h0 ∧ CHv Z own_EL U.vm h0 ∧ ∀ x ∈ ([x1] : List Addr), Safe Z own_EL U.vm h0 x) (fun _ _ _ _ _ => True) (fun _ U o U' => ∃ v L, o = .returned v ∧ own_new1e_Q Z x1 b1 v0 c0 k1 h0 n0 v U'.heap L ∧ CHr Z own_EL U.vm U.heap U'.vm U'.heap ∧ ReturnedEndW U o U' L (own_r 2 4 8 40).cells (own_r 2 4 8 40).slots) := by
  refine MetFree.of_bodySF (plainFor_of_name pn_java_lang_String) hisR ?_
  intro p e s m args below meth c s₁ Bd hml0 hP hK
  obtain ⟨rfl, hZ, hh, hCH, hSf⟩ := hP
  obtain ⟨hw, ⟨G1, O2, P5⟩, ⟨G3, O4, rG3⟩, Oa, Oh, Ol⟩ := id hW
  have hx := Bd.exec
  have hby := Bd.bytes
  have hml : c.maxLocals = 2 := hml0
  have hown : s.vm.findClass "java/lang/String" = some m.cls := findClass_of_methodNamed Bd.named
  have hnm := (name_of_methodNamed Bd.named Bd.method).1
  have X0 : Stand p l e (own_r 2 4 8 40) (s.setVm s.vm) m #[(.ref x1), (.ref b1)] below meth c s₁ [] 0 0 := Stand.of_body Bd
  have e0 : s₁.heap = h0 := by rw [← hh, Bd.state]; rfl
  have N0 := Fr.nil n0
  have K0 := Keep.refl h0 [x1]
  have hS0 : s.Since s.vm h0.size := (State.WarmedH.refl s).since _
  have CH0 : CHr Z own_EL s.vm h0 s.vm h0 := CHr.refl hCH
  have hEL := own_EW hw
  have hSA := own_SA hw
  have lt1 := own_lt E1.lt
  show own_Fin p e below (s₁.setTop (entryFrame m #[(.ref x1), (.ref b1)] 2)) _
  refine own_gs (castTop (ef_own_new1e m x1 b1) (Steps.refl _)) ?_
  show own_Fin p e below (s₁.setTop (mkF m 0 #[vr x1, vr b1] [])) _
  refine own_gs (cur' := s₁.setTop (mkF m 4 #[vr x1, vr b1] [(.ref b1), (.int (0 : Int32)), (.ref b1), (.ref x1)])) ?_ ?_
  · refine XS.aloadN X0.here hx rfl (hb hby d1_0) rfl rfl ?_
    refine XS.aloadN X0.here hx rfl (hb hby d1_1) rfl rfl ?_
    refine XS.iconst X0.here hx rfl (hb hby d1_2) ?_
    refine XS.aloadN X0.here hx rfl (hb hby d1_3) rfl rfl ?_
    exact Steps.refl _
  obtain ⟨cl11, Ar11, q11, S11, M11, Hs11, G11⟩ := id V1
  refine own_go (X0.arraylength hx (by rw [e0]; exact Ar11.1) (State.isArrayOf_alike hZ.alike Ar11.2.1) (g := (mkF m 4 #[vr x1, vr b1] [(.ref b1), (.int (0 : Int32)), (.ref b1), (.ref x1)])) rfl rfl (hb hby d1_4)) ?_
  rw [len_of S11 M11]
  show own_Fin p e below (s₁.setTop (mkF m 5 #[vr x1, vr b1] [(.int (0 : Int32)), (.int (0 : Int32)), (.ref b1), (.ref x1)])) _
  refine own_gs (cur' := s₁.setTop (mkF m 6 #[vr x1, vr b1] [.null, (.int (0 : Int32)), (.int (0 : Int32)), (.ref b1), (.ref x1)])) ?_ ?_
  · refine XS.aconstNull X0.here hx rfl (hb hby d1_5) ?_
    exact Steps.refl _
  obtain ⟨_, _, ⟨T12, L12, k12, n12⟩, -, Xw12, hSw12, hgw12, ⟨Lc12, hQ12, l12, y12, z12, hC12⟩, st12⟩ := X0.specialBackS hx (y := own_y0) rfl hown (mvT hZ (tw_ hw 165 rfl)) (mvT hZ (tw_ hw 166 rfl)) (mvT hZ (tw_ hw 167 rfl)) (by decide) (own_backS (W := 0) (own_new4e l Z a0 hW x1 b1 v0 c0 h0 n0 (by omega) O0 E1 Fv1 Fc1 g1) hZ (tw_ hw 167 rfl) (tw_ hw 9 rfl) (by decide) (by decide) hEL CH0.1 (allS ⟨(hSf _ (List.mem_of_getElem? (i := 0) rfl)), own_lt (by omega)⟩ all0)) (g := (mkF m 6 #[vr x1, vr b1] [.null, (.int (0 : Int32)), (.int (0 : Int32)), (.ref b1), (.ref x1)])) rfl (by rw [hml]; rfl) (Steps.refl _) (a := x1) (argsL := [(.ref b1), (.int (0 : Int32)), (.int (0 : Int32)), .null]) (rest := []) (lenOf pd_0 rfl) rfl (own_le rfl) (hb hby d1_6) (fun _ _ => ⟨rfl, e0, own_le rfl, own_le rfl⟩)
  dsimp only [Pt.U, Pt.locs, Pt.cells, Pt.slots] at Xw12 hSw12 hgw12 hC12 l12 y12 z12 st12 hQ12
  subst l12 y12 z12
  obtain ⟨X12, hS12, hZ12, hown12⟩ := rebS hS0 (show h0.size ≤ s₁.heap.size by rw [e0]; omega) Xw12 hSw12 hgw12 hZ hown
  obtain ⟨rfl, Nq12, Kq12, tq, hne, F12⟩ := hQ12
  have N12 := Fr.app N0 Nq12
  have z13 := Kq12.1
  have K13 := K0.trans Kq12 (allS (Or.inl (List.mem_of_getElem? (i := 0) rfl)) all0)
  have O13 := O0.keep Kq12 (allS (by omega) all0)
  have CH13 := CH0.trans hC12
  refine own_gs st12 ?_
  show own_Fin p e below (T12.setTop (mkF m 9 #[vr x1, vr b1] [])) _
  obtain ⟨fs, hr, hrun, hended, hRE⟩ := X12.leaveW hS12 (show T12.heap.size ≤ T12.heap.size by omega) (v := none) (fun _ => rfl)
  refine ⟨_, _, X12.returnOut hx Bd.returns (hb hby d1_9) hr, hrun, hended, _, _, rfl, ?_, ?_, hRE.1, hRE.2.1, hRE.2.2.1, hRE.2.2.2.mono (own_le rfl) (own_le rfl)⟩
  · show own_new1e_Q Z x1 b1 v0 c0 k1 h0 n0 none T12.heap _
    exact ⟨rfl, N12, K13, tq, hne, F12⟩
  · have hfin := CH13.trans (CHv.at X12 hZ12 hEL CH13.1)
    rw [hh]
    show CHr Z own_EL s.vm h0 T12.vm T12.heap
    exact hfin
abbrev own_c2 : ByteArray := jdk_52_method_6_code
def own_u_len_Q (Z : State) (t1 : Nat) (k1 : ClassId) (n : Nat) (vs : List Value) (h0 : Heap) (n0 : Nat) (v : Option Value) (h : Heap) (L : List Loc) : Prop := v = (some (.int (Int32.ofNat n))) ∧ Fr n0 L ∧ h = h0
theorem pn_java_lang_StringUTF16 : plainName "java/lang/StringUTF16" = true := by first | (simp [plainName, overriddenIn]; done) | decide +kernel
theorem ef_own_u_len (m : MethodId) (x0 : Nat) : entryFrame m #[(.ref x0)] 1 = mkF m 0 #[vr x0] [] := by first | (simp [entryFrame, mkF, argsToLocals, Value.category]; done) | rfl
abbrev own_y2 : MethodName := ⟨"java/lang/StringUTF16", "length", "([B)I"⟩
theorem d2_0 : decode own_c2 0 = .ok (.aload_n 0, 1) := by decide +kernel
theorem d2_1 : decode own_c2 1 = .ok (.arraylength, 1) := by decide +kernel
theorem d2_2 : decode own_c2 2 = .ok (.iconst 1, 1) := by decide +kernel
theorem d2_3 : decode own_c2 3 = .ok (.ishr, 1) := by decide +kernel
theorem d2_4 : decode own_c2 4 = .ok (.ireturn, 1) := by decide +kernel
set_option maxRecDepth 65536 in
set_option maxHeartbeats 40000000 in
theorem own_u_len (l : Launch) (Z : State) (a0 : Array Value) (hW : own_W Z a0) (t1 : Nat) (k1 : ClassId) (n : Nat) (vs : List Value) (h0 : Heap) (n0 : Nat) (Z0 : n0 ≤ h0.size) (O0 : Old Z n0 h0) (hn : n ≤ 4000) (V1 : Arv Z h0 t1 k1 .byte (Int32.ofNat (2 * n)) vs (.int (0 : Int32))) :
    own_M l own_y2 own_c2 1 (some .int) (own_r 0 0 0 0) #[(.ref t1)] Z h0 (own_u_len_Q Z t1 k1 n vs h0 n0) := by
  refine own_enter (own := "java/lang/StringUTF16") rfl (plainFor_of_name pn_java_lang_StringUTF16) (fun m => ef_own_u_len m t1) ?_
  intro p e s m below meth c s₁ Bd hZ hh hx hby hml hown hnm X0 e0
  obtain ⟨hw, ⟨G1, O2, P5⟩, ⟨G3, O4, rG3⟩, Oa, Oh, Ol⟩ := id hW
  have N0 := Fr.nil n0
  have K0 := Keep.refl h0 []
  have lt1 := own_lt V1.lt
  refine own_gs (cur' := s₁.setTop (mkF m 1 #[vr t1] [(.ref t1)])) ?_ ?_
  · refine XS.aloadN X0.here hx rfl (hb hby d2_0) rfl rfl ?_
    exact Steps.refl _
  obtain ⟨cl11, Ar11, q11, S11, M11, Hs11, G11⟩ := id V1
  refine own_go (X0.arraylength hx (by rw [e0]; exact Ar11.1) (State.isArrayOf_alike hZ.alike Ar11.2.1) (g := (mkF m 1 #[vr t1] [(.ref t1)])) rfl rfl (hb hby d2_1)) ?_
  rw [len_of S11 M11]
  show own_Fin p e below (s₁.setTop (mkF m 2 #[vr t1] [(.int (Int32.ofNat (2 * n)))])) _
  refine own_gs (cur' := s₁.setTop (mkF m 4 #[vr t1] [(.int ((Int32.ofNat (2 * n)) >>> ((1 : Int32) &&& 31)))])) ?_ ?_
  · refine XS.iconst X0.here hx rfl (hb hby d2_2) ?_
    refine XS.ishr X0.here hx rfl (hb hby d2_3) rfl ?_
    exact Steps.refl _
  rw [own_shr1 (by omega)]
  show own_Fin p e below (s₁.setTop (mkF m 4 #[vr t1] [(.int (Int32.ofNat n))])) _
  exact own_rI X0 Bd (hb hby d2_4) e0 (⟨rfl, N0, rfl⟩) rfl rfl
abbrev own_c3 : ByteArray := jdk_41_method_11_code
def own_u_pci0_Q (Z : State) (p1 p2 : Int32) (h0 : Heap) (n0 : Nat) (v : Option Value) (h : Heap) (L : List Loc) : Prop := v = (some (.int p1)) ∧ Fr n0 L ∧ h = h0
theorem pn_jdk_internal_util_Preconditions : plainName "jdk/internal/util/Preconditions" = true := by first | (simp [plainName, overriddenIn]; done) | decide +kernel
theorem ef_own_u_pci0 (m : MethodId) (x0 : Int32) (x1 : Int32) : entryFrame m #[(.int x0), (.int x1), .null] 3 = mkF m 0 #[vi x0, vi x1, vn] [] := by first | (simp [entryFrame, mkF, argsToLocals, Value.category]; done) | rfl
abbrev own_y3 : MethodName := ⟨"jdk/internal/util/Preconditions", "checkIndex", "(IILjava/util/function/BiFunction;)I"⟩
theorem d3_0 : decode own_c3 0 = .ok (.iload_n 0, 1) := by decide +kernel
theorem d3_1 : decode own_c3 1 = .ok (.ifCond .lt 8, 3) := by decide +kernel
theorem d3_4 : decode own_c3 4 = .ok (.iload_n 0, 1) := by decide +kernel
theorem d3_5 : decode own_c3 5 = .ok (.iload_n 1, 1) := by decide +kernel
theorem d3_6 : decode own_c3 6 = .ok (.if_icmp .lt 10, 3) := by decide +kernel
theorem d3_16 : decode own_c3 16 = .ok (.iload_n 0, 1) := by decide +kernel
theorem d3_17 : decode own_c3 17 = .ok (.ireturn, 1) := by decide +kernel
set_option maxRecDepth 65536 in
set_option maxHeartbeats 40000000 in
theorem own_u_pci0 (l : Launch) (Z : State) (a0 : Array Value) (hW : own_W Z a0) (p1 p2 : Int32) (h0 : Heap) (n0 : Nat) (Z0 : n0 ≤ h0.size) (O0 : Old Z n0 h0) (hp1 : ¬ p1 < (0 : Int32)) (hp2 : p1 < p2) :
    own_M l own_y3 own_c3 3 (some .int) (own_r 0 0 0 0) #[(.int p1), (.int p2), .null] Z h0 (own_u_pci0_Q Z p1 p2 h0 n0) := by
  refine own_enter (own := "jdk/internal/util/Preconditions") rfl (plainFor_of_name pn_jdk_internal_util_Preconditions) (fun m => ef_own_u_pci0 m p1 p2) ?_
  intro p e s m below meth c s₁ Bd hZ hh hx hby hml hown hnm X0 e0
  obtain ⟨hw, ⟨G1, O2, P5⟩, ⟨G3, O4, rG3⟩, Oa, Oh, Ol⟩ := id hW
  have N0 := Fr.nil n0
  have K0 := Keep.refl h0 []
  refine own_gs (cur' := s₁.setTop (mkF m 17 #[vi p1, vi p2, vn] [(.int p1)])) ?_ ?_
  · refine XS.iloadN X0.here hx rfl (hb hby d3_0) rfl ?_
    refine XS.ifNo X0.here hx rfl (hb hby d3_1) rfl ((if0 _ _).trans (flt (hp1 : ¬ (p1 < (0 : Int32)))).1) ?_
    refine XS.iloadN X0.here hx rfl (hb hby d3_4) rfl ?_
    refine XS.iloadN X0.here hx rfl (hb hby d3_5) rfl ?_
    refine XS.icmpYes X0.here hx rfl (pc0 := 6) (pc' := 16) rfl (hb hby d3_6) rfl (tlt (hp2 : p1 < p2)).1 (by decide) (by decide) ?_
    refine XS.iloadN X0.here hx rfl (hb hby d3_16) rfl ?_
    exact Steps.refl _
  exact own_rI X0 Bd (hb hby d3_17) e0 (⟨rfl, N0, rfl⟩) rfl rfl
def own_u_pci1_Q (Z : State) (p1 p2 : Int32) (g3 : Nat) (h0 : Heap) (n0 : Nat) (v : Option Value) (h : Heap) (L : List Loc) : Prop := v = (some (.int p1)) ∧ Fr n0 L ∧ h = h0
theorem ef_own_u_pci1 (m : MethodId) (x0 : Int32) (x1 : Int32) (x2 : Nat) : entryFrame m #[(.int x0), (.int x1), (.ref x2)] 3 = mkF m 0 #[vi x0, vi x1, vr x2] [] := by first | (simp [entryFrame, mkF, argsToLocals, Value.category]; done) | rfl
set_option maxRecDepth 65536 in
set_option maxHeartbeats 40000000 in
theorem own_u_pci1 (l : Launch) (Z : State) (a0 : Array Value) (hW : own_W Z a0) (p1 p2 : Int32) (g3 : Nat) (h0 : Heap) (n0 : Nat) (Z0 : n0 ≤ h0.size) (O0 : Old Z n0 h0) (hp1 : ¬ p1 < (0 : Int32)) (hp2 : p1 < p2) :
    own_M l own_y3 own_c3 3 (some .int) (own_r 0 0 0 0) #[(.int p1), (.int p2), (.ref g3)] Z h0 (own_u_pci1_Q Z p1 p2 g3 h0 n0) := by
  refine own_enter (own := "jdk/internal/util/Preconditions") rfl (plainFor_of_name pn_jdk_internal_util_Preconditions) (fun m => ef_own_u_pci1 m p1 p2 g3) ?_
  intro p e s m below meth c s₁ Bd hZ hh hx hby hml hown hnm X0 e0
  obtain ⟨hw, ⟨G1, O2, P5⟩, ⟨G3, O4, rG3⟩, Oa, Oh, Ol⟩ := id hW
  have N0 := Fr.nil n0
  have K0 := Keep.refl h0 []
  refine own_gs (cur' := s₁.setTop (mkF m 17 #[vi p1, vi p2, vr g3] [(.int p1)])) ?_ ?_
  · refine XS.iloadN X0.here hx rfl (hb hby d3_0) rfl ?_
    refine XS.ifNo X0.here hx rfl (hb hby d3_1) rfl ((if0 _ _).trans (flt (hp1 : ¬ (p1 < (0 : Int32)))).1) ?_
    refine XS.iloadN X0.here hx rfl (hb hby d3_4) rfl ?_
    refine XS.iloadN X0.here hx rfl (hb hby d3_5) rfl ?_
    refine XS.icmpYes X0.here hx rfl (pc0 := 6) (pc' := 16) rfl (hb hby d3_6) rfl (tlt (hp2 : p1 < p2)).1 (by decide) (by decide) ?_
    refine XS.iloadN X0.here hx rfl (hb hby d3_16) rfl ?_
    exact Steps.refl _
  exact own_rI X0 Bd (hb hby d3_17) e0 (⟨rfl, N0, rfl⟩) rfl rfl
abbrev own_c4 : ByteArray := jdk_42_method_155_code
def own_u_sci_Q (Z : State) (p1 p2 : Int32) (h0 : Heap) (n0 : Nat) (v : Option Value) (h : Heap) (L : List Loc) : Prop := v = none ∧ Fr n0 L ∧ h = h0
theorem ef_own_u_sci (m : MethodId) (x0 : Int32) (x1 : Int32) : entryFrame m #[(.int x0), (.int x1)] 2 = mkF m 0 #[vi x0, vi x1] [] := by first | (simp [entryFrame, mkF, argsToLocals, Value.category]; done) | rfl
abbrev own_y4 : MethodName := ⟨"java/lang/String", "checkIndex", "(II)V"⟩
theorem d4_0 : decode own_c4 0 = .ok (.iload_n 0, 1) := by decide +kernel
theorem d4_1 : decode own_c4 1 = .ok (.iload_n 1, 1) := by decide +kernel
theorem d4_2 : decode own_c4 2 = .ok (.getstatic 1053, 3) := by decide +kernel
theorem d4_5 : decode own_c4 5 = .ok (.invokestatic 1059, 3) := by decide +kernel
theorem pd_1 : parseMethodDescriptor "(IILjava/util/function/BiFunction;)I" = some ⟨[.int, .int, (.object "java/util/function/BiFunction")], some .int⟩ := by decide +kernel
theorem d4_8 : decode own_c4 8 = .ok (.pop, 1) := by decide +kernel
theorem d4_9 : decode own_c4 9 = .ok (.return_, 1) := by decide +kernel
set_option maxRecDepth 65536 in
set_option maxHeartbeats 40000000 in
theorem own_u_sci (l : Launch) (Z : State) (a0 : Array Value) (hW : own_W Z a0) (p1 p2 : Int32) (h0 : Heap) (n0 : Nat) (Z0 : n0 ≤ h0.size) (O0 : Old Z n0 h0) (hp1 : ¬ p1 < (0 : Int32)) (hp2 : p1 < p2) :
    own_M l own_y4 own_c4 2 none (own_r 1 0 0 14) #[(.int p1), (.int p2)] Z h0 (own_u_sci_Q Z p1 p2 h0 n0) := by
  refine own_enter (own := "java/lang/String") rfl (plainFor_of_name pn_java_lang_String) (fun m => ef_own_u_sci m p1 p2) ?_
  intro p e s m below meth c s₁ Bd hZ hh hx hby hml hown hnm X0 e0
  obtain ⟨hw, ⟨G1, O2, P5⟩, ⟨G3, O4, rG3⟩, Oa, Oh, Ol⟩ := id hW
  have N0 := Fr.nil n0
  have K0 := Keep.refl h0 []
  refine own_gs (cur' := s₁.setTop (mkF m 2 #[vi p1, vi p2] [(.int p2), (.int p1)])) ?_ ?_
  · refine XS.iloadN X0.here hx rfl (hb hby d4_0) rfl ?_
    refine XS.iloadN X0.here hx rfl (hb hby d4_1) rfl ?_
    exact Steps.refl _
  obtain ⟨T11, X11, e11, st11⟩ := getS2 X0 hx hZ hown (host := "") (Or.inl (tw_ hw 81 rfl)) Via.refl e0 (O4.ext O0.2) (g := (mkF m 2 #[vi p1, vi p2] [(.int p2), (.int p1)])) rfl (hb hby d4_2)
  refine own_go st11 ?_
  rcases ref_cases rG3 with rfl | ⟨g3, rfl⟩
  · show own_Fin p e below (T11.setTop (mkF m 5 #[vi p1, vi p2] [.null, (.int p2), (.int p1)])) _
    obtain ⟨_, _, ⟨T12, L12, k12, n12⟩, -, X12, ⟨Lc12, hQ12, l12, y12, z12⟩, st12⟩ := Jvm.LawKit.callS X11 hx (y := own_y3) hown (mvT hZ (tw_ hw 83 rfl)) (mvT hZ (tw_ hw 84 rfl)) (mvT hZ (tw_ hw 82 rfl)) (mvT hZ (tw_ hw 85 rfl)) (by decide) (backOf (W := 0) (own_u_pci0 l Z a0 hW p1 p2 h0 n0 (by omega) O0 hp1 hp2) hZ (tw_ hw 85 rfl) (tw_ hw 82 rfl) (by decide) (by decide)) (g := (mkF m 5 #[vi p1, vi p2] [.null, (.int p2), (.int p1)])) rfl (by rw [hml]; rfl) (argsL := [(.int p1), (.int p2), .null]) (rest := []) (lenOf pd_1 rfl) rfl (own_le rfl) (hb hby d4_5) (fun _ _ => ⟨rfl, e11, own_le rfl, own_le rfl⟩)
    dsimp only [Pt.U, Pt.locs, Pt.cells, Pt.slots] at X12 l12 y12 z12 st12 hQ12
    subst l12 y12 z12
    obtain ⟨rfl, Nq12, eh12⟩ := hQ12
    have N12 := Fr.app N0 Nq12
    refine own_go st12 ?_
    refine own_gs (cur' := T12.setTop (mkF m 9 #[vi p1, vi p2] [])) ?_ ?_
    · refine XS.pop X12.here hx rfl (hb hby d4_8) rfl rfl ?_
      exact Steps.refl _
    exact own_rV X12 Bd (hb hby d4_9) eh12 (⟨rfl, N12, rfl⟩) rfl rfl
  · show own_Fin p e below (T11.setTop (mkF m 5 #[vi p1, vi p2] [(.ref g3), (.int p2), (.int p1)])) _
    obtain ⟨_, _, ⟨T13, L13, k13, n13⟩, -, X13, ⟨Lc13, hQ13, l13, y13, z13⟩, st13⟩ := Jvm.LawKit.callS X11 hx (y := own_y3) hown (mvT hZ (tw_ hw 83 rfl)) (mvT hZ (tw_ hw 84 rfl)) (mvT hZ (tw_ hw 82 rfl)) (mvT hZ (tw_ hw 85 rfl)) (by decide) (backOf (W := 0) (own_u_pci1 l Z a0 hW p1 p2 g3 h0 n0 (by omega) O0 hp1 hp2) hZ (tw_ hw 85 rfl) (tw_ hw 82 rfl) (by decide) (by decide)) (g := (mkF m 5 #[vi p1, vi p2] [(.ref g3), (.int p2), (.int p1)])) rfl (by rw [hml]; rfl) (argsL := [(.int p1), (.int p2), (.ref g3)]) (rest := []) (lenOf pd_1 rfl) rfl (own_le rfl) (hb hby d4_5) (fun _ _ => ⟨rfl, e11, own_le rfl, own_le rfl⟩)
    dsimp only [Pt.U, Pt.locs, Pt.cells, Pt.slots] at X13 l13 y13 z13 st13 hQ13
    subst l13 y13 z13
    obtain ⟨rfl, Nq13, eh13⟩ := hQ13
    have N13 := Fr.app N0 Nq13
    refine own_go st13 ?_
    refine own_gs (cur' := T13.setTop (mkF m 9 #[vi p1, vi p2] [])) ?_ ?_
    · refine XS.pop X13.here hx rfl (hb hby d4_8) rfl rfl ?_
      exact Steps.refl _
    exact own_rV X13 Bd (hb hby d4_9) eh13 (⟨rfl, N13, rfl⟩) rfl rfl
abbrev own_c5 : ByteArray := jdk_52_method_91_code
def own_u_ci_Q (Z : State) (t1 : Nat) (k1 : ClassId) (n i : Nat) (vs : List Value) (h0 : Heap) (n0 : Nat) (v : Option Value) (h : Heap) (L : List Loc) : Prop := v = none ∧ Fr n0 L ∧ h = h0
theorem ef_own_u_ci (m : MethodId) (x0 : Int32) (x1 : Nat) : entryFrame m #[(.int x0), (.ref x1)] 2 = mkF m 0 #[vi x0, vr x1] [] := by first | (simp [entryFrame, mkF, argsToLocals, Value.category]; done) | rfl
abbrev own_y5 : MethodName := ⟨"java/lang/StringUTF16", "checkIndex", "(I[B)V"⟩
theorem d5_0 : decode own_c5 0 = .ok (.iload_n 0, 1) := by decide +kernel
theorem d5_1 : decode own_c5 1 = .ok (.aload_n 1, 1) := by decide +kernel
theorem d5_2 : decode own_c5 2 = .ok (.invokestatic 48, 3) := by decide +kernel
theorem pd_2 : parseMethodDescriptor "([B)I" = some ⟨[(.array .byte)], some .int⟩ := by decide +kernel
theorem d5_5 : decode own_c5 5 = .ok (.invokestatic 414, 3) := by decide +kernel
theorem pd_3 : parseMethodDescriptor "(II)V" = some ⟨[.int, .int], none⟩ := by decide +kernel
theorem d5_8 : decode own_c5 8 = .ok (.return_, 1) := by decide +kernel
set_option maxRecDepth 65536 in
set_option maxHeartbeats 40000000 in
theorem own_u_ci (l : Launch) (Z : State) (a0 : Array Value) (hW : own_W Z a0) (t1 : Nat) (k1 : ClassId) (n i : Nat) (vs : List Value) (h0 : Heap) (n0 : Nat) (Z0 : n0 ≤ h0.size) (O0 : Old Z n0 h0) (hn : n ≤ 4000) (hi : i < n) (V1 : Arv Z h0 t1 k1 .byte (Int32.ofNat (2 * n)) vs (.int (0 : Int32))) :
    own_M l own_y5 own_c5 2 none (own_r 2 0 0 27) #[(.int (Int32.ofNat i)), (.ref t1)] Z h0 (own_u_ci_Q Z t1 k1 n i vs h0 n0) := by
  refine own_enter (own := "java/lang/StringUTF16") rfl (plainFor_of_name pn_java_lang_StringUTF16) (fun m => ef_own_u_ci m (Int32.ofNat i) t1) ?_
  intro p e s m below meth c s₁ Bd hZ hh hx hby hml hown hnm X0 e0
  obtain ⟨hw, ⟨G1, O2, P5⟩, ⟨G3, O4, rG3⟩, Oa, Oh, Ol⟩ := id hW
  have N0 := Fr.nil n0
  have K0 := Keep.refl h0 []
  have lt1 := own_lt V1.lt
  refine own_gs (cur' := s₁.setTop (mkF m 2 #[vi (Int32.ofNat i), vr t1] [(.ref t1), (.int (Int32.ofNat i))])) ?_ ?_
  · refine XS.iloadN X0.here hx rfl (hb hby d5_0) rfl ?_
    refine XS.aloadN X0.here hx rfl (hb hby d5_1) rfl rfl ?_
    exact Steps.refl _
  obtain ⟨_, _, ⟨T11, L11, k11, n11⟩, -, X11, ⟨Lc11, hQ11, l11, y11, z11⟩, st11⟩ := Jvm.LawKit.callS X0 hx (y := own_y2) hown (mvT hZ (tw_ hw 207 rfl)) (mvT hZ (tw_ hw 208 rfl)) (mvT hZ (tw_ hw 170 rfl)) (mvT hZ (tw_ hw 209 rfl)) (by decide) (backOf (W := 1) (own_u_len l Z a0 hW t1 k1 n vs h0 n0 (by omega) O0 hn V1) hZ (tw_ hw 209 rfl) (tw_ hw 170 rfl) (by decide) (by decide)) (g := (mkF m 2 #[vi (Int32.ofNat i), vr t1] [(.ref t1), (.int (Int32.ofNat i))])) rfl (by rw [hml]; rfl) (argsL := [(.ref t1)]) (rest := [(.int (Int32.ofNat i))]) (lenOf pd_2 rfl) rfl (own_le rfl) (hb hby d5_2) (fun _ _ => ⟨rfl, e0, own_le rfl, own_le rfl⟩)
  dsimp only [Pt.U, Pt.locs, Pt.cells, Pt.slots] at X11 l11 y11 z11 st11 hQ11
  subst l11 y11 z11
  obtain ⟨rfl, Nq11, eh11⟩ := hQ11
  have N11 := Fr.app N0 Nq11
  refine own_go st11 ?_
  obtain ⟨_, _, ⟨T12, L12, k12, n12⟩, -, X12, ⟨Lc12, hQ12, l12, y12, z12⟩, st12⟩ := Jvm.LawKit.callS X11 hx (y := own_y4) hown (mvT hZ (tw_ hw 210 rfl)) (mvT hZ (tw_ hw 79 rfl)) (mvT hZ (tw_ hw 9 rfl)) (mvT hZ (tw_ hw 80 rfl)) (by decide) (backOf (W := 0) (own_u_sci l Z a0 hW (Int32.ofNat i) (Int32.ofNat n) h0 n0 (by omega) O0 (own_in hi (by omega)).1 (own_in hi (by omega)).2) hZ (tw_ hw 80 rfl) (tw_ hw 9 rfl) (by decide) (by decide)) (g := (mkF m 5 #[vi (Int32.ofNat i), vr t1] [(.int (Int32.ofNat n)), (.int (Int32.ofNat i))])) rfl (by rw [hml]; rfl) (argsL := [(.int (Int32.ofNat i)), (.int (Int32.ofNat n))]) (rest := []) (lenOf pd_3 rfl) rfl (own_le rfl) (hb hby d5_5) (fun _ _ => ⟨rfl, eh11, own_le rfl, own_le rfl⟩)
  dsimp only [Pt.U, Pt.locs, Pt.cells, Pt.slots] at X12 l12 y12 z12 st12 hQ12
  subst l12 y12 z12
  obtain ⟨rfl, Nq12, eh12⟩ := hQ12
  have N12 := Fr.app N11 Nq12
  refine own_go st12 ?_
  exact own_rV X12 Bd (hb hby d5_8) eh12 (⟨rfl, N12, rfl⟩) rfl rfl
abbrev own_c6 : ByteArray := jdk_52_method_5_code
def own_u_getc_Q (Z : State) (t1 : Nat) (k1 : ClassId) (n i : Nat) (vs : List Value) (cu cv : Int32) (h0 : Heap) (n0 : Nat) (v : Option Value) (h : Heap) (L : List Loc) : Prop := v = (some (.int (StrChars.pairCh cu cv))) ∧ Fr n0 L ∧ h = h0
theorem ef_own_u_getc (m : MethodId) (x0 : Nat) (x1 : Int32) : entryFrame m #[(.ref x0), (.int x1)] 2 = mkF m 0 #[vr x0, vi x1] [] := by first | (simp [entryFrame, mkF, argsToLocals, Value.category]; done) | rfl
abbrev own_y6 : MethodName := ⟨"java/lang/StringUTF16", "getChar", "([BI)C"⟩
theorem d6_0 : decode own_c6 0 = .ok (.getstatic 44, 3) := by decide +kernel
theorem d6_3 : decode own_c6 3 = .ok (.ifCond .ne 25, 3) := by decide +kernel
theorem d6_28 : decode own_c6 28 = .ok (.iload_n 1, 1) := by decide +kernel
theorem d6_29 : decode own_c6 29 = .ok (.iconst 1, 1) := by decide +kernel
theorem d6_30 : decode own_c6 30 = .ok (.ishl, 1) := by decide +kernel
theorem d6_31 : decode own_c6 31 = .ok (.istore_n 1, 1) := by decide +kernel
theorem d6_32 : decode own_c6 32 = .ok (.aload_n 0, 1) := by decide +kernel
theorem d6_33 : decode own_c6 33 = .ok (.iload_n 1, 1) := by decide +kernel
theorem d6_34 : decode own_c6 34 = .ok (.iinc 1 1, 3) := by decide +kernel
theorem d6_37 : decode own_c6 37 = .ok (.baload, 1) := by decide +kernel
theorem d6_38 : decode own_c6 38 = .ok (.sipush 255, 3) := by decide +kernel
theorem d6_41 : decode own_c6 41 = .ok (.iand, 1) := by decide +kernel
theorem d6_42 : decode own_c6 42 = .ok (.getstatic 59, 3) := by decide +kernel
theorem d6_45 : decode own_c6 45 = .ok (.ishl, 1) := by decide +kernel
theorem d6_46 : decode own_c6 46 = .ok (.aload_n 0, 1) := by decide +kernel
theorem d6_47 : decode own_c6 47 = .ok (.iload_n 1, 1) := by decide +kernel
theorem d6_48 : decode own_c6 48 = .ok (.baload, 1) := by decide +kernel
theorem d6_49 : decode own_c6 49 = .ok (.sipush 255, 3) := by decide +kernel
theorem d6_52 : decode own_c6 52 = .ok (.iand, 1) := by decide +kernel
theorem d6_53 : decode own_c6 53 = .ok (.getstatic 63, 3) := by decide +kernel
theorem d6_56 : decode own_c6 56 = .ok (.ishl, 1) := by decide +kernel
theorem d6_57 : decode own_c6 57 = .ok (.ior, 1) := by decide +kernel
theorem d6_58 : decode own_c6 58 = .ok (.i2c, 1) := by decide +kernel
theorem d6_59 : decode own_c6 59 = .ok (.ireturn, 1) := by decide +kernel
set_option maxRecDepth 65536 in
set_option maxHeartbeats 40000000 in
theorem own_u_getc (l : Launch) (Z : State) (a0 : Array Value) (hW : own_W Z a0) (t1 : Nat) (k1 : ClassId) (n i : Nat) (vs : List Value) (cu cv : Int32) (h0 : Heap) (n0 : Nat) (Z0 : n0 ≤ h0.size) (O0 : Old Z n0 h0) (hn : n ≤ 4000) (hi : i < n) (V1 : Arv Z h0 t1 k1 .byte (Int32.ofNat (2 * n)) vs (.int (0 : Int32))) (hlo : vs.getD (2 * i) (.int (0 : Int32)) = .int cu) (hhi : vs.getD (2 * i + 1) (.int (0 : Int32)) = .int cv) :
    own_M l own_y6 own_c6 2 (some .char) (own_r 0 0 0 0) #[(.ref t1), (.int (Int32.ofNat i))] Z h0 (own_u_getc_Q Z t1 k1 n i vs cu cv h0 n0) := by
  refine own_enter (own := "java/lang/StringUTF16") rfl (plainFor_of_name pn_java_lang_StringUTF16) (fun m => ef_own_u_getc m t1 (Int32.ofNat i)) ?_
  intro p e s m below meth c s₁ Bd hZ hh hx hby hml hown hnm X0 e0
  obtain ⟨hw, ⟨G1, O2, P5⟩, ⟨G3, O4, rG3⟩, Oa, Oh, Ol⟩ := id hW
  have N0 := Fr.nil n0
  have K0 := Keep.refl h0 []
  have lt1 := own_lt V1.lt
  obtain ⟨T11, X11, e11, st11⟩ := getS2 X0 hx hZ hown (host := "") (Or.inl (tw_ hw 195 rfl)) Via.refl e0 (Oa.ext O0.2) (g := (mkF m 0 #[vr t1, vi (Int32.ofNat i)] [])) rfl (hb hby d6_0)
  refine own_go st11 ?_
  refine own_gs (cur' := T11.setTop (mkF m 31 #[vr t1, vi (Int32.ofNat i)] [(.int ((Int32.ofNat i) <<< ((1 : Int32) &&& 31)))])) ?_ ?_
  · refine XS.ifYes X11.here hx rfl (pc0 := 3) (pc' := 28) rfl (hb hby d6_3) rfl ((if0 _ _).trans (feq ((by decide) : ¬ ((1 : Int32) = (0 : Int32)))).2) (by decide) (by decide) ?_
    refine XS.iloadN X11.here hx rfl (hb hby d6_28) rfl ?_
    refine XS.iconst X11.here hx rfl (hb hby d6_29) ?_
    refine XS.ishl X11.here hx rfl (hb hby d6_30) rfl ?_
    exact Steps.refl _
  rw [own_shl1 (by omega)]
  show own_Fin p e below (T11.setTop (mkF m 31 #[vr t1, vi (Int32.ofNat i)] [(.int (Int32.ofNat (2 * i)))])) _
  refine own_gs (cur' := T11.setTop (mkF m 37 #[vr t1, vi ((Int32.ofNat (2 * i)) + (1 : Int32))] [(.int (Int32.ofNat (2 * i))), (.ref t1)])) ?_ ?_
  · refine XS.istoreN X11.here hx rfl (hb hby d6_31) rfl (l' := #[vr t1, vi (Int32.ofNat (2 * i))]) rfl ?_
    refine XS.aloadN X11.here hx rfl (hb hby d6_32) rfl rfl ?_
    refine XS.iloadN X11.here hx rfl (hb hby d6_33) rfl ?_
    refine XS.iinc X11.here hx rfl (hb hby d6_34) rfl (l' := #[vr t1, vi ((Int32.ofNat (2 * i)) + (1 : Int32))]) rfl ?_
    exact Steps.refl _
  rw [own_p1]
  show own_Fin p e below (T11.setTop (mkF m 37 #[vr t1, vi (Int32.ofNat (2 * i + 1))] [(.int (Int32.ofNat (2 * i))), (.ref t1)])) _
  obtain ⟨cl12, Ar12, q12, S12, M12, Hs12, G12⟩ := id V1
  have hin12 : ¬ ((Int32.ofNat (2 * i)) < 0 ∨ cl12.slots.size ≤ ((Int32.ofNat (2 * i))).toNatClampNeg) := inb_of S12 (own_in (by omega) (by omega))
  have hat12 : cl12.slots[((Int32.ofNat (2 * i))).toNatClampNeg]? = some (.int cu) := Has.at Hs12 hin12 (by rw [own_nat (by omega)]; exact hlo)
  refine own_go (X11.baloadBytes hx (j := (Int32.ofNat (2 * i))) (v := (.int cu)) (by rw [e11]; exact Ar12.1) (State.isArrayOf_alike hZ.alike Ar12.2.1) Ar12.2.2 hin12 hat12 (g := (mkF m 37 #[vr t1, vi (Int32.ofNat (2 * i + 1))] [(.int (Int32.ofNat (2 * i))), (.ref t1)])) rfl rfl (hb hby d6_37)) ?_
  show own_Fin p e below (T11.setTop (mkF m 38 #[vr t1, vi (Int32.ofNat (2 * i + 1))] [(.int cu)])) _
  refine own_gs (cur' := T11.setTop (mkF m 42 #[vr t1, vi (Int32.ofNat (2 * i + 1))] [(.int (cu &&& (255 : Int32)))])) ?_ ?_
  · refine XS.sipush X11.here hx rfl (hb hby d6_38) ?_
    refine XS.iand X11.here hx rfl (hb hby d6_41) rfl ?_
    exact Steps.refl _
  obtain ⟨T13, X13, e13, st13⟩ := getS2 X11 hx hZ hown (host := "") (Or.inl (tw_ hw 196 rfl)) Via.refl e11 (Oh.ext O0.2) (g := (mkF m 42 #[vr t1, vi (Int32.ofNat (2 * i + 1))] [(.int (cu &&& (255 : Int32)))])) rfl (hb hby d6_42)
  refine own_go st13 ?_
  refine own_gs (cur' := T13.setTop (mkF m 48 #[vr t1, vi (Int32.ofNat (2 * i + 1))] [(.int (Int32.ofNat (2 * i + 1))), (.ref t1), (.int ((cu &&& (255 : Int32)) <<< ((0 : Int32) &&& 31)))])) ?_ ?_
  · refine XS.ishl X13.here hx rfl (hb hby d6_45) rfl ?_
    refine XS.aloadN X13.here hx rfl (hb hby d6_46) rfl rfl ?_
    refine XS.iloadN X13.here hx rfl (hb hby d6_47) rfl ?_
    exact Steps.refl _
  obtain ⟨cl14, Ar14, q14, S14, M14, Hs14, G14⟩ := id V1
  have hin14 : ¬ ((Int32.ofNat (2 * i + 1)) < 0 ∨ cl14.slots.size ≤ ((Int32.ofNat (2 * i + 1))).toNatClampNeg) := inb_of S14 (own_in (by omega) (by omega))
  have hat14 : cl14.slots[((Int32.ofNat (2 * i + 1))).toNatClampNeg]? = some (.int cv) := Has.at Hs14 hin14 (by rw [own_nat (by omega)]; exact hhi)
  refine own_go (X13.baloadBytes hx (j := (Int32.ofNat (2 * i + 1))) (v := (.int cv)) (by rw [e13]; exact Ar14.1) (State.isArrayOf_alike hZ.alike Ar14.2.1) Ar14.2.2 hin14 hat14 (g := (mkF m 48 #[vr t1, vi (Int32.ofNat (2 * i + 1))] [(.int (Int32.ofNat (2 * i + 1))), (.ref t1), (.int ((cu &&& (255 : Int32)) <<< ((0 : Int32) &&& 31)))])) rfl rfl (hb hby d6_48)) ?_
  show own_Fin p e below (T13.setTop (mkF m 49 #[vr t1, vi (Int32.ofNat (2 * i + 1))] [(.int cv), (.int ((cu &&& (255 : Int32)) <<< ((0 : Int32) &&& 31)))])) _
  refine own_gs (cur' := T13.setTop (mkF m 53 #[vr t1, vi (Int32.ofNat (2 * i + 1))] [(.int (cv &&& (255 : Int32))), (.int ((cu &&& (255 : Int32)) <<< ((0 : Int32) &&& 31)))])) ?_ ?_
  · refine XS.sipush X13.here hx rfl (hb hby d6_49) ?_
    refine XS.iand X13.here hx rfl (hb hby d6_52) rfl ?_
    exact Steps.refl _
  obtain ⟨T15, X15, e15, st15⟩ := getS2 X13 hx hZ hown (host := "") (Or.inl (tw_ hw 197 rfl)) Via.refl e13 (Ol.ext O0.2) (g := (mkF m 53 #[vr t1, vi (Int32.ofNat (2 * i + 1))] [(.int (cv &&& (255 : Int32))), (.int ((cu &&& (255 : Int32)) <<< ((0 : Int32) &&& 31)))])) rfl (hb hby d6_53)
  refine own_go st15 ?_
  refine own_gs (cur' := T15.setTop (mkF m 59 #[vr t1, vi (Int32.ofNat (2 * i + 1))] [(.int ((((cu &&& (255 : Int32)) <<< ((0 : Int32) &&& 31)) ||| ((cv &&& (255 : Int32)) <<< ((8 : Int32) &&& 31))).toUInt32.toUInt16.toUInt32.toInt32))])) ?_ ?_
  · refine XS.ishl X15.here hx rfl (hb hby d6_56) rfl ?_
    refine XS.ior X15.here hx rfl (hb hby d6_57) rfl ?_
    refine XS.i2c X15.here hx rfl (hb hby d6_58) rfl ?_
    exact Steps.refl _
  exact own_rN X15 Bd (by simp) (v := (nar .char ((((cu &&& (255 : Int32)) <<< ((0 : Int32) &&& 31)) ||| ((cv &&& (255 : Int32)) <<< ((8 : Int32) &&& 31))).toUInt32.toUInt16.toUInt32.toInt32))) rfl (hb hby d6_59) e15 (⟨congrArg (fun z => some (Value.int z)) (own_nar2 _), N0, rfl⟩) rfl rfl
abbrev own_c7 : ByteArray := jdk_52_method_83_code
def own_u_ch_Q (Z : State) (t1 : Nat) (k1 : ClassId) (n i : Nat) (vs : List Value) (cu cv : Int32) (h0 : Heap) (n0 : Nat) (v : Option Value) (h : Heap) (L : List Loc) : Prop := v = (some (.int (StrChars.pairCh cu cv))) ∧ Fr n0 L ∧ h = h0
theorem ef_own_u_ch (m : MethodId) (x0 : Nat) (x1 : Int32) : entryFrame m #[(.ref x0), (.int x1)] 2 = mkF m 0 #[vr x0, vi x1] [] := by first | (simp [entryFrame, mkF, argsToLocals, Value.category]; done) | rfl
abbrev own_y7 : MethodName := ⟨"java/lang/StringUTF16", "charAt", "([BI)C"⟩
theorem d7_0 : decode own_c7 0 = .ok (.iload_n 1, 1) := by decide +kernel
theorem d7_1 : decode own_c7 1 = .ok (.aload_n 0, 1) := by decide +kernel
theorem d7_2 : decode own_c7 2 = .ok (.invokestatic 67, 3) := by decide +kernel
theorem pd_4 : parseMethodDescriptor "(I[B)V" = some ⟨[.int, (.array .byte)], none⟩ := by decide +kernel
theorem d7_5 : decode own_c7 5 = .ok (.aload_n 0, 1) := by decide +kernel
theorem d7_6 : decode own_c7 6 = .ok (.iload_n 1, 1) := by decide +kernel
theorem d7_7 : decode own_c7 7 = .ok (.invokestatic 71, 3) := by decide +kernel
theorem pd_5 : parseMethodDescriptor "([BI)C" = some ⟨[(.array .byte), .int], some .char⟩ := by decide +kernel
theorem d7_10 : decode own_c7 10 = .ok (.ireturn, 1) := by decide +kernel
set_option maxRecDepth 65536 in
set_option maxHeartbeats 40000000 in
theorem own_u_ch (l : Launch) (Z : State) (a0 : Array Value) (hW : own_W Z a0) (t1 : Nat) (k1 : ClassId) (n i : Nat) (vs : List Value) (cu cv : Int32) (h0 : Heap) (n0 : Nat) (Z0 : n0 ≤ h0.size) (O0 : Old Z n0 h0) (hn : n ≤ 4000) (hi : i < n) (V1 : Arv Z h0 t1 k1 .byte (Int32.ofNat (2 * n)) vs (.int (0 : Int32))) (hlo : vs.getD (2 * i) (.int (0 : Int32)) = .int cu) (hhi : vs.getD (2 * i + 1) (.int (0 : Int32)) = .int cv) :
    own_M l own_y7 own_c7 2 (some .char) (own_r 3 0 0 40) #[(.ref t1), (.int (Int32.ofNat i))] Z h0 (own_u_ch_Q Z t1 k1 n i vs cu cv h0 n0) := by
  refine own_enter (own := "java/lang/StringUTF16") rfl (plainFor_of_name pn_java_lang_StringUTF16) (fun m => ef_own_u_ch m t1 (Int32.ofNat i)) ?_
  intro p e s m below meth c s₁ Bd hZ hh hx hby hml hown hnm X0 e0
  obtain ⟨hw, ⟨G1, O2, P5⟩, ⟨G3, O4, rG3⟩, Oa, Oh, Ol⟩ := id hW
  have N0 := Fr.nil n0
  have K0 := Keep.refl h0 []
  have lt1 := own_lt V1.lt
  refine own_gs (cur' := s₁.setTop (mkF m 2 #[vr t1, vi (Int32.ofNat i)] [(.ref t1), (.int (Int32.ofNat i))])) ?_ ?_
  · refine XS.iloadN X0.here hx rfl (hb hby d7_0) rfl ?_
    refine XS.aloadN X0.here hx rfl (hb hby d7_1) rfl rfl ?_
    exact Steps.refl _
  obtain ⟨_, _, ⟨T11, L11, k11, n11⟩, -, X11, ⟨Lc11, hQ11, l11, y11, z11⟩, st11⟩ := Jvm.LawKit.callS X0 hx (y := own_y5) hown (mvT hZ (tw_ hw 204 rfl)) (mvT hZ (tw_ hw 205 rfl)) (mvT hZ (tw_ hw 170 rfl)) (mvT hZ (tw_ hw 206 rfl)) (by decide) (backOf (W := 0) (own_u_ci l Z a0 hW t1 k1 n i vs h0 n0 (by omega) O0 hn hi V1) hZ (tw_ hw 206 rfl) (tw_ hw 170 rfl) (by decide) (by decide)) (g := (mkF m 2 #[vr t1, vi (Int32.ofNat i)] [(.ref t1), (.int (Int32.ofNat i))])) rfl (by rw [hml]; rfl) (argsL := [(.int (Int32.ofNat i)), (.ref t1)]) (rest := []) (lenOf pd_4 rfl) rfl (own_le rfl) (hb hby d7_2) (fun _ _ => ⟨rfl, e0, own_le rfl, own_le rfl⟩)
  dsimp only [Pt.U, Pt.locs, Pt.cells, Pt.slots] at X11 l11 y11 z11 st11 hQ11
  subst l11 y11 z11
  obtain ⟨rfl, Nq11, eh11⟩ := hQ11
  have N11 := Fr.app N0 Nq11
  refine own_go st11 ?_
  refine own_gs (cur' := T11.setTop (mkF m 7 #[vr t1, vi (Int32.ofNat i)] [(.int (Int32.ofNat i)), (.ref t1)])) ?_ ?_
  · refine XS.aloadN X11.here hx rfl (hb hby d7_5) rfl rfl ?_
    refine XS.iloadN X11.here hx rfl (hb hby d7_6) rfl ?_
    exact Steps.refl _
  obtain ⟨_, _, ⟨T12, L12, k12, n12⟩, -, X12, ⟨Lc12, hQ12, l12, y12, z12⟩, st12⟩ := Jvm.LawKit.callS X11 hx (y := own_y6) hown (mvT hZ (tw_ hw 198 rfl)) (mvT hZ (tw_ hw 199 rfl)) (mvT hZ (tw_ hw 170 rfl)) (mvT hZ (tw_ hw 200 rfl)) (by decide) (backOf (W := 0) (own_u_getc l Z a0 hW t1 k1 n i vs cu cv h0 n0 (by omega) O0 hn hi V1 hlo hhi) hZ (tw_ hw 200 rfl) (tw_ hw 170 rfl) (by decide) (by decide)) (g := (mkF m 7 #[vr t1, vi (Int32.ofNat i)] [(.int (Int32.ofNat i)), (.ref t1)])) rfl (by rw [hml]; rfl) (argsL := [(.ref t1), (.int (Int32.ofNat i))]) (rest := []) (lenOf pd_5 rfl) rfl (own_le rfl) (hb hby d7_7) (fun _ _ => ⟨rfl, eh11, own_le rfl, own_le rfl⟩)
  dsimp only [Pt.U, Pt.locs, Pt.cells, Pt.slots] at X12 l12 y12 z12 st12 hQ12
  subst l12 y12 z12
  obtain ⟨rfl, Nq12, eh12⟩ := hQ12
  have N12 := Fr.app N11 Nq12
  refine own_go st12 ?_
  exact own_rN X12 Bd (by simp) (v := (nar .char (StrChars.pairCh cu cv))) rfl (hb hby d7_10) eh12 (⟨congrArg (fun z => some (Value.int z)) (own_nar2 _), N12, rfl⟩) rfl rfl
abbrev own_c8 : ByteArray := jdk_42_method_154_code
def own_u_isl_Q (Z : State) (x1 : Nat) (h0 : Heap) (n0 : Nat) (v : Option Value) (h : Heap) (L : List Loc) : Prop := v = (some (.int (0 : Int32))) ∧ Fr n0 L ∧ h = h0
theorem ef_own_u_isl (m : MethodId) (x0 : Nat) : entryFrame m #[(.ref x0)] 1 = mkF m 0 #[vr x0] [] := by first | (simp [entryFrame, mkF, argsToLocals, Value.category]; done) | rfl
abbrev own_y8 : MethodName := ⟨"java/lang/String", "isLatin1", "()Z"⟩
theorem d8_0 : decode own_c8 0 = .ok (.getstatic 38, 3) := by decide +kernel
theorem d8_3 : decode own_c8 3 = .ok (.ifCond .eq 14, 3) := by decide +kernel
theorem d8_6 : decode own_c8 6 = .ok (.aload_n 0, 1) := by decide +kernel
theorem d8_7 : decode own_c8 7 = .ok (.getfield 15, 3) := by decide +kernel
theorem d8_10 : decode own_c8 10 = .ok (.ifCond .ne 7, 3) := by decide +kernel
theorem d8_17 : decode own_c8 17 = .ok (.iconst 0, 1) := by decide +kernel
theorem d8_18 : decode own_c8 18 = .ok (.ireturn, 1) := by decide +kernel
set_option maxRecDepth 65536 in
set_option maxHeartbeats 40000000 in
theorem own_u_isl (l : Launch) (Z : State) (a0 : Array Value) (hW : own_W Z a0) (x1 : Nat) (h0 : Heap) (n0 : Nat) (Z0 : n0 ≤ h0.size) (O0 : Old Z n0 h0) (Fc1 : Fld Z h0 x1 "java/lang/String" "coder" "B" (.int (1 : Int32))) :
    own_M l own_y8 own_c8 1 (some .boolean) (own_r 0 0 0 0) #[(.ref x1)] Z h0 (own_u_isl_Q Z x1 h0 n0) := by
  refine own_enter (own := "java/lang/String") rfl (plainFor_of_name pn_java_lang_String) (fun m => ef_own_u_isl m x1) ?_
  intro p e s m below meth c s₁ Bd hZ hh hx hby hml hown hnm X0 e0
  obtain ⟨hw, ⟨G1, O2, P5⟩, ⟨G3, O4, rG3⟩, Oa, Oh, Ol⟩ := id hW
  have N0 := Fr.nil n0
  have K0 := Keep.refl h0 []
  obtain ⟨T11, X11, e11, st11⟩ := getS2 X0 hx hZ hown (host := "") (Or.inl (tw_ hw 11 rfl)) Via.refl e0 (O2.ext O0.2) (g := (mkF m 0 #[vr x1] [])) rfl (hb hby d8_0)
  refine own_go st11 ?_
  refine own_gs (cur' := T11.setTop (mkF m 7 #[vr x1] [(.ref x1)])) ?_ ?_
  · refine XS.ifNo X11.here hx rfl (hb hby d8_3) rfl ((if0 _ _).trans (feq (P5 : ¬ (G1 = (0 : Int32)))).1) ?_
    refine XS.aloadN X11.here hx rfl (hb hby d8_6) rfl rfl ?_
    exact Steps.refl _
  obtain ⟨T12, X12, e12, st12⟩ := getF X11 hx hZ hown (host := "") (Or.inl (tw_ hw 31 rfl)) Via.refl e11 Fc1 (g := (mkF m 7 #[vr x1] [(.ref x1)])) rfl rfl (hb hby d8_7)
  refine own_go st12 ?_
  refine own_gs (cur' := T12.setTop (mkF m 18 #[vr x1] [(.int (0 : Int32))])) ?_ ?_
  · refine XS.ifYes X12.here hx rfl (pc0 := 10) (pc' := 17) rfl (hb hby d8_10) rfl ((if0 _ _).trans (feq ((by decide) : ¬ ((1 : Int32) = (0 : Int32)))).2) (by decide) (by decide) ?_
    refine XS.iconst X12.here hx rfl (hb hby d8_17) ?_
    exact Steps.refl _
  exact own_rN X12 Bd (by simp) (v := (0 : Int32)) rfl (hb hby d8_18) e12 (⟨rfl, N0, rfl⟩) rfl rfl
abbrev own_c9 : ByteArray := jdk_42_method_56_code
def own_u_sch_Q (Z : State) (x1 t1 : Nat) (k1 : ClassId) (i : Nat) (cs : List Int32) (h0 : Heap) (n0 : Nat) (v : Option Value) (h : Heap) (L : List Loc) : Prop := v = (some (.int (cs.getD i 0))) ∧ Fr n0 L ∧ h = h0
theorem ef_own_u_sch (m : MethodId) (x0 : Nat) (x1 : Int32) : entryFrame m #[(.ref x0), (.int x1)] 2 = mkF m 0 #[vr x0, vi x1] [] := by first | (simp [entryFrame, mkF, argsToLocals, Value.category]; done) | rfl
abbrev own_y9 : MethodName := ⟨"java/lang/String", "charAt", "(I)C"⟩
theorem d9_0 : decode own_c9 0 = .ok (.aload_n 0, 1) := by decide +kernel
theorem d9_1 : decode own_c9 1 = .ok (.invokevirtual 492, 3) := by decide +kernel
theorem pd_6 : parseMethodDescriptor "()Z" = some ⟨[], some .boolean⟩ := by decide +kernel
theorem d9_4 : decode own_c9 4 = .ok (.ifCond .eq 12, 3) := by decide +kernel
theorem d9_16 : decode own_c9 16 = .ok (.aload_n 0, 1) := by decide +kernel
theorem d9_17 : decode own_c9 17 = .ok (.getfield 9, 3) := by decide +kernel
theorem d9_20 : decode own_c9 20 = .ok (.iload_n 1, 1) := by decide +kernel
theorem d9_21 : decode own_c9 21 = .ok (.invokestatic 498, 3) := by decide +kernel
theorem d9_24 : decode own_c9 24 = .ok (.ireturn, 1) := by decide +kernel
set_option maxRecDepth 65536 in
set_option maxHeartbeats 40000000 in
theorem own_u_sch (l : Launch) (Z : State) (a0 : Array Value) (hW : own_W Z a0) (x1 t1 : Nat) (k1 : ClassId) (i : Nat) (cs : List Int32) (h0 : Heap) (n0 : Nat) (Z0 : n0 ≤ h0.size) (O0 : Old Z n0 h0) (hn : cs.length ≤ 4000) (hi : i < cs.length) (E1 : Exa Z h0 x1 "java/lang/String") (Fv1 : Fld Z h0 x1 "java/lang/String" "value" "[B" (.ref t1)) (Fc1 : Fld Z h0 x1 "java/lang/String" "coder" "B" (.int (1 : Int32))) (V1 : Arv Z h0 t1 k1 .byte (Int32.ofNat (2 * cs.length)) (StrChars.Road.wideBytes cs) (.int (0 : Int32))) (hb1 : ∀ c ∈ cs, ¬ c < 0 ∧ ¬ (65535 : Int32) < c) :
    own_M l own_y9 own_c9 2 (some .char) (own_r 4 0 0 53) #[(.ref x1), (.int (Int32.ofNat i))] Z h0 (own_u_sch_Q Z x1 t1 k1 i cs h0 n0) := by
  refine own_enter (own := "java/lang/String") rfl (plainFor_of_name pn_java_lang_String) (fun m => ef_own_u_sch m x1 (Int32.ofNat i)) ?_
  intro p e s m below meth c s₁ Bd hZ hh hx hby hml hown hnm X0 e0
  obtain ⟨hw, ⟨G1, O2, P5⟩, ⟨G3, O4, rG3⟩, Oa, Oh, Ol⟩ := id hW
  have N0 := Fr.nil n0
  have K0 := Keep.refl h0 []
  have lt1 := own_lt V1.lt
  have hcb : ¬ cs.getD i 0 < 0 ∧ ¬ (65535 : Int32) < cs.getD i 0 := by
    have e : cs.getD i 0 = cs[i] := by simp [List.getD_eq_getElem?_getD, hi]
    rw [e]; exact hb1 _ (List.getElem_mem _)
  refine own_gs (cur' := s₁.setTop (mkF m 1 #[vr x1, vi (Int32.ofNat i)] [(.ref x1)])) ?_ ?_
  · refine XS.aloadN X0.here hx rfl (hb hby d9_0) rfl rfl ?_
    exact Steps.refl _
  obtain ⟨cq11, kq11, q11a, q11b, q11c⟩ := isOf hZ e0 E1
  obtain ⟨_, _, ⟨T11, L11, k11, n11⟩, -, X11, ⟨Lc11, hQ11, l11, y11, z11⟩, st11⟩ := X0.virtualBack hx (y := own_y8) (z := own_y8) hown (mvT hZ (tw_ hw 70 rfl)) (mvT hZ (tw_ hw 71 rfl)) (notFace_of_selects (args := #[]) (mvT hZ (tw_ hw 73 rfl))) (mvT hZ (tw_ hw 73 rfl)) (mvT hZ (tw_ hw 72 rfl)) (by decide) (backOf (W := 0) (own_u_isl l Z a0 hW x1 h0 n0 (by omega) O0 Fc1) hZ (tw_ hw 74 rfl) (tw_ hw 9 rfl) (by decide) (by decide)) q11a q11c (g := (mkF m 1 #[vr x1, vi (Int32.ofNat i)] [(.ref x1)])) rfl (by rw [hml]; rfl) (Steps.refl _) (argsL := []) (rest := []) (lenOf pd_6 rfl) rfl (own_le rfl) (hb hby d9_1) (fun _ _ => ⟨rfl, e0, own_le rfl, own_le rfl⟩)
  dsimp only [Pt.U, Pt.locs, Pt.cells, Pt.slots] at X11 l11 y11 z11 st11 hQ11
  subst l11 y11 z11
  obtain ⟨rfl, Nq11, eh11⟩ := hQ11
  have N11 := Fr.app N0 Nq11
  refine own_gs st11 ?_
  refine own_gs (cur' := T11.setTop (mkF m 17 #[vr x1, vi (Int32.ofNat i)] [(.ref x1)])) ?_ ?_
  · refine XS.ifYes X11.here hx rfl (pc0 := 4) (pc' := 16) rfl (hb hby d9_4) rfl ((if0 _ _).trans (teq ((by decide) : (0 : Int32) = (0 : Int32))).1) (by decide) (by decide) ?_
    refine XS.aloadN X11.here hx rfl (hb hby d9_16) rfl rfl ?_
    exact Steps.refl _
  obtain ⟨T12, X12, e12, st12⟩ := getF X11 hx hZ hown (host := "") (Or.inl (tw_ hw 29 rfl)) Via.refl eh11 Fv1 (g := (mkF m 17 #[vr x1, vi (Int32.ofNat i)] [(.ref x1)])) rfl rfl (hb hby d9_17)
  refine own_go st12 ?_
  refine own_gs (cur' := T12.setTop (mkF m 21 #[vr x1, vi (Int32.ofNat i)] [(.int (Int32.ofNat i)), (.ref t1)])) ?_ ?_
  · refine XS.iloadN X12.here hx rfl (hb hby d9_20) rfl ?_
    exact Steps.refl _
  obtain ⟨_, _, ⟨T13, L13, k13, n13⟩, -, X13, ⟨Lc13, hQ13, l13, y13, z13⟩, st13⟩ := Jvm.LawKit.callS X12 hx (y := own_y7) hown (mvT hZ (tw_ hw 201 rfl)) (mvT hZ (tw_ hw 202 rfl)) (mvT hZ (tw_ hw 170 rfl)) (mvT hZ (tw_ hw 203 rfl)) (by decide) (backOf (W := 0) (own_u_ch l Z a0 hW t1 k1 cs.length i (StrChars.Road.wideBytes cs) (StrChars.lo8 (cs.getD i 0)) (StrChars.hi8 (cs.getD i 0)) h0 n0 (by omega) O0 hn hi V1 (StrChars.Road.wide_lo _ _ _ hi) (StrChars.Road.wide_hi _ _ _ hi)) hZ (tw_ hw 203 rfl) (tw_ hw 170 rfl) (by decide) (by decide)) (g := (mkF m 21 #[vr x1, vi (Int32.ofNat i)] [(.int (Int32.ofNat i)), (.ref t1)])) rfl (by rw [hml]; rfl) (argsL := [(.ref t1), (.int (Int32.ofNat i))]) (rest := []) (lenOf pd_5 rfl) rfl (own_le rfl) (hb hby d9_21) (fun _ _ => ⟨rfl, e12, own_le rfl, own_le rfl⟩)
  dsimp only [Pt.U, Pt.locs, Pt.cells, Pt.slots] at X13 l13 y13 z13 st13 hQ13
  subst l13 y13 z13
  obtain ⟨rfl, Nq13, eh13⟩ := hQ13
  have N13 := Fr.app N11 Nq13
  rw [StrChars.pair_says hcb.1 hcb.2] at st13
  refine own_go st13 ?_
  exact own_rN X13 Bd (by simp) (v := (nar .char (cs.getD i 0))) rfl (hb hby d9_24) eh13 (⟨congrArg (fun z => some (Value.int z)) (own_nar hcb.1 hcb.2), N13, rfl⟩) rfl rfl
section OwnCh
variable {p : Program} {l : Launch} {e : Env} {R : Room} {s : State} {args : Array Value} {below : List Frame} {Z : State} {a0 : Array Value} {h : Heap}
/-- charAt(i), whatever the coder -/
theorem own_chB {len W : Nat} (hZ : Z.Warmed39 s.vm) (hW : own_W Z a0) {x t : Addr} {cs : List Int32} (F : own_Str Z h x t cs) {i : Nat} {j : Int32} (hi : i < cs.length) (hj : j = Int32.ofNat i) {n0 : Nat} (hn0 : n0 ≤ h.size) (O0 : Old Z n0 h) (hfr : 5 ≤ R.frames) (hlo : W + 66 ≤ R.locals) :
    Back l R p e below s args (⟨"java/lang/String", "charAt", "(I)C"⟩ : MethodName) len W (fun P a => a = #[.ref x, .int j] ∧ P.U.heap = h ∧ P.cells + 0 ≤ R.cells ∧ P.slots + 0 ≤ R.slots)
      (fun P _ v B => ∃ L, (v = some (.int (cs.getD i 0)) ∧ Fr n0 L ∧ B.U.heap = h) ∧ B.locs = P.locs ++ L ∧ B.cells = P.cells + 0 ∧ B.slots = P.slots + 0) := by
  obtain ⟨hw, ⟨G1, O2, P5⟩, ⟨G3, O4, rG3⟩, Oa, Oh, Ol⟩ := id hW
  obtain ⟨k, cd, N, vs, f1, f2, f3, f4, f5, f6, f7⟩ := F
  rcases f5 with ⟨rfl, r⟩ | ⟨rfl, rfl, rfl, r⟩
  · refine Back.mono (StrChars.Road.chN hZ (fun d hd => hw d ((by decide +kernel : ∀ d ∈ StrChars.Road.wordsChN, d ∈ tables_1) d hd)) (kI := 4) (tw_ hw 17 rfl) f1 f2 f3 f4 (Or.inl ⟨rfl, r⟩) f6 (O2.ext O0.2) P5 (O4.ext O0.2) rG3 f7 hi hj (by omega) (by omega)) (fun _ _ q => q) ?_
    rintro P a v B - ⟨L, ⟨q1, rfl, q3⟩, r3⟩
    exact ⟨[], ⟨q1, Fr.nil n0, q3⟩, r3⟩
  · subst hj
    exact backOf (own_u_sch l Z a0 hW x t k i cs h n0 hn0 O0 f7 hi f1 f2 f3 f4 f6) hZ (tw_ hw 69 rfl) (tw_ hw 9 rfl) (by show 4 + 1 ≤ R.frames; omega) (by show W + (2 + 11) + 53 ≤ R.locals; omega)
end OwnCh
abbrev own_c10 : ByteArray := jdk_52_method_4_code
def own_u_putc_Q (Z : State) (t1 : Nat) (k1 : ClassId) (n i : Nat) (vs : List Value) (p2 : Int32) (h0 : Heap) (n0 : Nat) (v : Option Value) (h : Heap) (L : List Loc) : Prop := v = none ∧ Fr n0 L ∧ Keep h0 h [t1] ∧ Arv Z h t1 k1 .byte (Int32.ofNat (2 * n)) ((vs.set (2 * i) (.int (StrChars.lo8 p2))).set (2 * i + 1) (.int (StrChars.hi8 p2))) (.int (0 : Int32))
theorem ef_own_u_putc (m : MethodId) (x0 : Nat) (x1 : Int32) (x2 : Int32) : entryFrame m #[(.ref x0), (.int x1), (.int x2)] 3 = mkF m 0 #[vr x0, vi x1, vi x2] [] := by first | (simp [entryFrame, mkF, argsToLocals, Value.category]; done) | rfl
abbrev own_y10 : MethodName := ⟨"java/lang/StringUTF16", "putChar", "([BII)V"⟩
theorem d10_0 : decode own_c10 0 = .ok (.getstatic 44, 3) := by decide +kernel
theorem d10_3 : decode own_c10 3 = .ok (.ifCond .ne 25, 3) := by decide +kernel
theorem d10_28 : decode own_c10 28 = .ok (.iload_n 1, 1) := by decide +kernel
theorem d10_29 : decode own_c10 29 = .ok (.iconst 1, 1) := by decide +kernel
theorem d10_30 : decode own_c10 30 = .ok (.ishl, 1) := by decide +kernel
theorem d10_31 : decode own_c10 31 = .ok (.istore_n 1, 1) := by decide +kernel
theorem d10_32 : decode own_c10 32 = .ok (.aload_n 0, 1) := by decide +kernel
theorem d10_33 : decode own_c10 33 = .ok (.iload_n 1, 1) := by decide +kernel
theorem d10_34 : decode own_c10 34 = .ok (.iinc 1 1, 3) := by decide +kernel
theorem d10_37 : decode own_c10 37 = .ok (.iload_n 2, 1) := by decide +kernel
theorem d10_38 : decode own_c10 38 = .ok (.getstatic 59, 3) := by decide +kernel
theorem d10_41 : decode own_c10 41 = .ok (.ishr, 1) := by decide +kernel
theorem d10_42 : decode own_c10 42 = .ok (.i2b, 1) := by decide +kernel
theorem d10_43 : decode own_c10 43 = .ok (.bastore, 1) := by decide +kernel
theorem d10_44 : decode own_c10 44 = .ok (.aload_n 0, 1) := by decide +kernel
theorem d10_45 : decode own_c10 45 = .ok (.iload_n 1, 1) := by decide +kernel
theorem d10_46 : decode own_c10 46 = .ok (.iload_n 2, 1) := by decide +kernel
theorem d10_47 : decode own_c10 47 = .ok (.getstatic 63, 3) := by decide +kernel
theorem d10_50 : decode own_c10 50 = .ok (.ishr, 1) := by decide +kernel
theorem d10_51 : decode own_c10 51 = .ok (.i2b, 1) := by decide +kernel
theorem d10_52 : decode own_c10 52 = .ok (.bastore, 1) := by decide +kernel
theorem d10_53 : decode own_c10 53 = .ok (.return_, 1) := by decide +kernel
set_option maxRecDepth 65536 in
set_option maxHeartbeats 40000000 in
theorem own_u_putc (l : Launch) (Z : State) (a0 : Array Value) (hW : own_W Z a0) (t1 : Nat) (k1 : ClassId) (n i : Nat) (vs : List Value) (p2 : Int32) (h0 : Heap) (n0 : Nat) (Z0 : n0 ≤ h0.size) (O0 : Old Z n0 h0) (hn : n ≤ 4000) (hi : i < n) (hl : vs.length = 2 * n) (g1 : n0 ≤ t1) (V1 : Arv Z h0 t1 k1 .byte (Int32.ofNat (2 * n)) vs (.int (0 : Int32))) :
    own_M l own_y10 own_c10 3 none (own_r 0 0 0 0) #[(.ref t1), (.int (Int32.ofNat i)), (.int p2)] Z h0 (own_u_putc_Q Z t1 k1 n i vs p2 h0 n0) := by
  refine own_enter (own := "java/lang/StringUTF16") rfl (plainFor_of_name pn_java_lang_StringUTF16) (fun m => ef_own_u_putc m t1 (Int32.ofNat i) p2) ?_
  intro p e s m below meth c s₁ Bd hZ hh hx hby hml hown hnm X0 e0
  obtain ⟨hw, ⟨G1, O2, P5⟩, ⟨G3, O4, rG3⟩, Oa, Oh, Ol⟩ := id hW
  have N0 := Fr.nil n0
  have K0 := Keep.refl h0 [t1]
  have lt1 := own_lt V1.lt
  obtain ⟨T11, X11, e11, st11⟩ := getS2 X0 hx hZ hown (host := "") (Or.inl (tw_ hw 195 rfl)) Via.refl e0 (Oa.ext O0.2) (g := (mkF m 0 #[vr t1, vi (Int32.ofNat i), vi p2] [])) rfl (hb hby d10_0)
  refine own_go st11 ?_
  refine own_gs (cur' := T11.setTop (mkF m 31 #[vr t1, vi (Int32.ofNat i), vi p2] [(.int ((Int32.ofNat i) <<< ((1 : Int32) &&& 31)))])) ?_ ?_
  · refine XS.ifYes X11.here hx rfl (pc0 := 3) (pc' := 28) rfl (hb hby d10_3) rfl ((if0 _ _).trans (feq ((by decide) : ¬ ((1 : Int32) = (0 : Int32)))).2) (by decide) (by decide) ?_
    refine XS.iloadN X11.here hx rfl (hb hby d10_28) rfl ?_
    refine XS.iconst X11.here hx rfl (hb hby d10_29) ?_
    refine XS.ishl X11.here hx rfl (hb hby d10_30) rfl ?_
    exact Steps.refl _
  rw [own_shl1 (by omega)]
  show own_Fin p e below (T11.setTop (mkF m 31 #[vr t1, vi (Int32.ofNat i), vi p2] [(.int (Int32.ofNat (2 * i)))])) _
  refine own_gs (cur' := T11.setTop (mkF m 37 #[vr t1, vi ((Int32.ofNat (2 * i)) + (1 : Int32)), vi p2] [(.int (Int32.ofNat (2 * i))), (.ref t1)])) ?_ ?_
  · refine XS.istoreN X11.here hx rfl (hb hby d10_31) rfl (l' := #[vr t1, vi (Int32.ofNat (2 * i)), vi p2]) rfl ?_
    refine XS.aloadN X11.here hx rfl (hb hby d10_32) rfl rfl ?_
    refine XS.iloadN X11.here hx rfl (hb hby d10_33) rfl ?_
    refine XS.iinc X11.here hx rfl (hb hby d10_34) rfl (l' := #[vr t1, vi ((Int32.ofNat (2 * i)) + (1 : Int32)), vi p2]) rfl ?_
    exact Steps.refl _
  rw [own_p1]
  show own_Fin p e below (T11.setTop (mkF m 37 #[vr t1, vi (Int32.ofNat (2 * i + 1)), vi p2] [(.int (Int32.ofNat (2 * i))), (.ref t1)])) _
  refine own_gs (cur' := T11.setTop (mkF m 38 #[vr t1, vi (Int32.ofNat (2 * i + 1)), vi p2] [(.int p2), (.int (Int32.ofNat (2 * i))), (.ref t1)])) ?_ ?_
  · refine XS.iloadN X11.here hx rfl (hb hby d10_37) rfl ?_
    exact Steps.refl _
  obtain ⟨T12, X12, e12, st12⟩ := getS2 X11 hx hZ hown (host := "") (Or.inl (tw_ hw 196 rfl)) Via.refl e11 (Oh.ext O0.2) (g := (mkF m 38 #[vr t1, vi (Int32.ofNat (2 * i + 1)), vi p2] [(.int p2), (.int (Int32.ofNat (2 * i))), (.ref t1)])) rfl (hb hby d10_38)
  refine own_go st12 ?_
  refine own_gs (cur' := T12.setTop (mkF m 43 #[vr t1, vi (Int32.ofNat (2 * i + 1)), vi p2] [(.int ((p2 >>> ((0 : Int32) &&& 31)).toInt8.toInt32)), (.int (Int32.ofNat (2 * i))), (.ref t1)])) ?_ ?_
  · refine XS.ishr X12.here hx rfl (hb hby d10_41) rfl ?_
    refine XS.i2b X12.here hx rfl (hb hby d10_42) rfl ?_
    exact Steps.refl _
  obtain ⟨cl13, Ar13, q13, S13, M13, Hs13, G13⟩ := id V1
  have hin13 : ¬ ((Int32.ofNat (2 * i)) < 0 ∨ cl13.slots.size ≤ ((Int32.ofNat (2 * i))).toNatClampNeg) := inb_of S13 (own_in (by omega) (by omega))
  obtain ⟨T13, h13, X13, e13, W13, st13⟩ := stB X12 hx hZ e12 Ar13 (j := (Int32.ofNat (2 * i))) hin13 (g := (mkF m 43 #[vr t1, vi (Int32.ofNat (2 * i + 1)), vi p2] [(.int ((p2 >>> ((0 : Int32) &&& 31)).toInt8.toInt32)), (.int (Int32.ofNat (2 * i))), (.ref t1)])) rfl rfl (hb hby d10_43)
  have V13 := Arv.set Ar13 q13 S13 M13 Hs13 G13 (fits_nar_byte _) W13 (2 * i) (own_nat (by omega)) (by omega)
  refine own_go st13 ?_
  have z14 := W13.size
  have K14 := K0.wr W13 (Or.inl (List.mem_of_getElem? (i := 0) rfl))
  have O14 := O0.wr W13 (by omega)
  have N14 := Fr.snoc X13 N0 (by omega)
  refine own_gs (cur' := T13.setTop (mkF m 47 #[vr t1, vi (Int32.ofNat (2 * i + 1)), vi p2] [(.int p2), (.int (Int32.ofNat (2 * i + 1))), (.ref t1)])) ?_ ?_
  · refine XS.aloadN X13.here hx rfl (hb hby d10_44) rfl rfl ?_
    refine XS.iloadN X13.here hx rfl (hb hby d10_45) rfl ?_
    refine XS.iloadN X13.here hx rfl (hb hby d10_46) rfl ?_
    exact Steps.refl _
  obtain ⟨T15, X15, e15, st15⟩ := getS2 X13 hx hZ hown (host := "") (Or.inl (tw_ hw 197 rfl)) Via.refl e13 (Ol.ext O14.2) (g := (mkF m 47 #[vr t1, vi (Int32.ofNat (2 * i + 1)), vi p2] [(.int p2), (.int (Int32.ofNat (2 * i + 1))), (.ref t1)])) rfl (hb hby d10_47)
  refine own_go st15 ?_
  refine own_gs (cur' := T15.setTop (mkF m 52 #[vr t1, vi (Int32.ofNat (2 * i + 1)), vi p2] [(.int ((p2 >>> ((8 : Int32) &&& 31)).toInt8.toInt32)), (.int (Int32.ofNat (2 * i + 1))), (.ref t1)])) ?_ ?_
  · refine XS.ishr X15.here hx rfl (hb hby d10_50) rfl ?_
    refine XS.i2b X15.here hx rfl (hb hby d10_51) rfl ?_
    exact Steps.refl _
  obtain ⟨cl16, Ar16, q16, S16, M16, Hs16, G16⟩ := id V13
  have hin16 : ¬ ((Int32.ofNat (2 * i + 1)) < 0 ∨ cl16.slots.size ≤ ((Int32.ofNat (2 * i + 1))).toNatClampNeg) := inb_of S16 (own_in (by omega) (by omega))
  obtain ⟨T16, h16, X16, e16, W16, st16⟩ := stB X15 hx hZ e15 Ar16 (j := (Int32.ofNat (2 * i + 1))) hin16 (g := (mkF m 52 #[vr t1, vi (Int32.ofNat (2 * i + 1)), vi p2] [(.int ((p2 >>> ((8 : Int32) &&& 31)).toInt8.toInt32)), (.int (Int32.ofNat (2 * i + 1))), (.ref t1)])) rfl rfl (hb hby d10_52)
  have V16 := Arv.set Ar16 q16 S16 M16 Hs16 G16 (fits_nar_byte _) W16 (2 * i + 1) (own_nat (by omega)) (by simp only [List.length_set]; omega)
  refine own_go st16 ?_
  have z17 := W16.size
  have K17 := K14.wr W16 (Or.inl (List.mem_of_getElem? (i := 0) rfl))
  have O17 := O14.wr W16 (by omega)
  have N17 := Fr.snoc X16 N14 (by omega)
  have Vf := V16
  rw [own_b2, own_b2, StrChars.shr0] at Vf
  exact own_rV X16 Bd (hb hby d10_53) e16 (⟨rfl, N17, K17, Vf⟩) rfl rfl
abbrev own_c11 : ByteArray := jdk_52_method_3_code
def own_u_nbl2_Q (Z : State)  (h0 : Heap) (n0 : Nat) (v : Option Value) (h : Heap) (L : List Loc) : Prop := v = (some (.int (4 : Int32))) ∧ Fr n0 L ∧ h = h0
theorem ef_own_u_nbl2 (m : MethodId) (x0 : Int32) : entryFrame m #[(.int x0)] 1 = mkF m 0 #[vi x0] [] := by first | (simp [entryFrame, mkF, argsToLocals, Value.category]; done) | rfl
abbrev own_y11 : MethodName := ⟨"java/lang/StringUTF16", "newBytesLength", "(I)I"⟩
theorem d11_0 : decode own_c11 0 = .ok (.iload_n 0, 1) := by decide +kernel
theorem d11_1 : decode own_c11 1 = .ok (.ifCond .ge 11, 3) := by decide +kernel
theorem d11_12 : decode own_c11 12 = .ok (.iload_n 0, 1) := by decide +kernel
theorem d11_13 : decode own_c11 13 = .ok (.ldc 20, 2) := by decide +kernel
theorem d11_15 : decode own_c11 15 = .ok (.if_icmp .lt 40, 3) := by decide +kernel
theorem d11_55 : decode own_c11 55 = .ok (.iload_n 0, 1) := by decide +kernel
theorem d11_56 : decode own_c11 56 = .ok (.iconst 1, 1) := by decide +kernel
theorem d11_57 : decode own_c11 57 = .ok (.ishl, 1) := by decide +kernel
theorem d11_58 : decode own_c11 58 = .ok (.ireturn, 1) := by decide +kernel
set_option maxRecDepth 65536 in
set_option maxHeartbeats 40000000 in
theorem own_u_nbl2 (l : Launch) (Z : State) (a0 : Array Value) (hW : own_W Z a0)  (h0 : Heap) (n0 : Nat) (Z0 : n0 ≤ h0.size) (O0 : Old Z n0 h0)  :
    own_M l own_y11 own_c11 1 (some .int) (own_r 0 0 0 0) #[(.int (2 : Int32))] Z h0 (own_u_nbl2_Q Z  h0 n0) := by
  refine own_enter (own := "java/lang/StringUTF16") rfl (plainFor_of_name pn_java_lang_StringUTF16) (fun m => ef_own_u_nbl2 m (2 : Int32)) ?_
  intro p e s m below meth c s₁ Bd hZ hh hx hby hml hown hnm X0 e0
  obtain ⟨hw, ⟨G1, O2, P5⟩, ⟨G3, O4, rG3⟩, Oa, Oh, Ol⟩ := id hW
  have N0 := Fr.nil n0
  have K0 := Keep.refl h0 []
  refine own_gs (cur' := s₁.setTop (mkF m 58 #[vi (2 : Int32)] [(.int (4 : Int32))])) ?_ ?_
  · refine XS.iloadN X0.here hx rfl (hb hby d11_0) rfl ?_
    refine XS.ifYes X0.here hx rfl (pc0 := 1) (pc' := 12) rfl (hb hby d11_1) rfl ((if0 _ _).trans (flt ((by decide) : ¬ ((2 : Int32) < (0 : Int32)))).2.1) (by decide) (by decide) ?_
    refine XS.iloadN X0.here hx rfl (hb hby d11_12) rfl ?_
    refine X0.ldcInt hx hown (mvT hZ (tw_ hw 191 rfl)) (g := (mkF m 13 #[vi (2 : Int32)] [(.int (2 : Int32))])) rfl (hb hby d11_13) _ ?_
    refine XS.icmpYes X0.here hx rfl (pc0 := 15) (pc' := 55) rfl (hb hby d11_15) rfl (tlt ((by decide) : (2 : Int32) < (1073741823 : Int32))).1 (by decide) (by decide) ?_
    refine XS.iloadN X0.here hx rfl (hb hby d11_55) rfl ?_
    refine XS.iconst X0.here hx rfl (hb hby d11_56) ?_
    refine XS.ishl X0.here hx rfl (hb hby d11_57) rfl ?_
    exact Steps.refl _
  exact own_rI X0 Bd (hb hby d11_58) e0 (⟨rfl, N0, rfl⟩) rfl rfl
abbrev own_c12 : ByteArray := jdk_52_method_2_code
def own_u_nbf2_Q (Z : State)  (h0 : Heap) (n0 : Nat) (v : Option Value) (h : Heap) (L : List Loc) : Prop := ∃ (t : Nat) (kb : ClassId), v = some (.ref t) ∧ Fr n0 L ∧ Keep h0 h [] ∧ Arv Z h t kb .byte (4 : Int32) [(.int (0 : Int32)), (.int (0 : Int32)), (.int (0 : Int32)), (.int (0 : Int32))] (.int (0 : Int32)) ∧ h0.size ≤ t
theorem ef_own_u_nbf2 (m : MethodId) (x0 : Int32) : entryFrame m #[(.int x0)] 1 = mkF m 0 #[vi x0] [] := by first | (simp [entryFrame, mkF, argsToLocals, Value.category]; done) | rfl
abbrev own_y12 : MethodName := ⟨"java/lang/StringUTF16", "newBytesFor", "(I)[B"⟩
theorem d12_0 : decode own_c12 0 = .ok (.iload_n 0, 1) := by decide +kernel
theorem d12_1 : decode own_c12 1 = .ok (.invokestatic 11, 3) := by decide +kernel
theorem pd_7 : parseMethodDescriptor "(I)I" = some ⟨[.int], some .int⟩ := by decide +kernel
theorem d12_4 : decode own_c12 4 = .ok (.newarray .byte, 2) := by decide +kernel
theorem d12_6 : decode own_c12 6 = .ok (.areturn, 1) := by decide +kernel
set_option maxRecDepth 65536 in
set_option maxHeartbeats 40000000 in
theorem own_u_nbf2 (l : Launch) (Z : State) (a0 : Array Value) (hW : own_W Z a0)  (h0 : Heap) (n0 : Nat) (Z0 : n0 ≤ h0.size) (O0 : Old Z n0 h0)  :
    own_M l own_y12 own_c12 1 (some (.array .byte)) (own_r 1 1 4 12) #[(.int (2 : Int32))] Z h0 (own_u_nbf2_Q Z  h0 n0) := by
  refine own_enter (own := "java/lang/StringUTF16") rfl (plainFor_of_name pn_java_lang_StringUTF16) (fun m => ef_own_u_nbf2 m (2 : Int32)) ?_
  intro p e s m below meth c s₁ Bd hZ hh hx hby hml hown hnm X0 e0
  obtain ⟨hw, ⟨G1, O2, P5⟩, ⟨G3, O4, rG3⟩, Oa, Oh, Ol⟩ := id hW
  have N0 := Fr.nil n0
  have K0 := Keep.refl h0 []
  refine own_gs (cur' := s₁.setTop (mkF m 1 #[vi (2 : Int32)] [(.int (2 : Int32))])) ?_ ?_
  · refine XS.iloadN X0.here hx rfl (hb hby d12_0) rfl ?_
    exact Steps.refl _
  obtain ⟨_, _, ⟨T11, L11, k11, n11⟩, -, X11, ⟨Lc11, hQ11, l11, y11, z11⟩, st11⟩ := Jvm.LawKit.callS X0 hx (y := own_y11) hown (mvT hZ (tw_ hw 188 rfl)) (mvT hZ (tw_ hw 189 rfl)) (mvT hZ (tw_ hw 170 rfl)) (mvT hZ (tw_ hw 190 rfl)) (by decide) (backOf (W := 0) (own_u_nbl2 l Z a0 hW h0 n0 (by omega) O0) hZ (tw_ hw 190 rfl) (tw_ hw 170 rfl) (by decide) (by decide)) (g := (mkF m 1 #[vi (2 : Int32)] [(.int (2 : Int32))])) rfl (by rw [hml]; rfl) (argsL := [(.int (2 : Int32))]) (rest := []) (lenOf pd_7 rfl) rfl (own_le rfl) (hb hby d12_1) (fun _ _ => ⟨rfl, e0, own_le rfl, own_le rfl⟩)
  dsimp only [Pt.U, Pt.locs, Pt.cells, Pt.slots] at X11 l11 y11 z11 st11 hQ11
  subst l11 y11 z11
  obtain ⟨rfl, Nq11, eh11⟩ := hQ11
  have N11 := Fr.app N0 Nq11
  refine own_go st11 ?_
  obtain ⟨T12, h12, k12, X12, e12, E12, A12, Eb12, st12⟩ := newPE X11 hx hZ (tw_ hw 21 rfl) eh11 (g := (mkF m 4 #[vi (2 : Int32)] [(.int (4 : Int32))])) rfl (hb hby d12_4) rfl (by decide) (cap := 4) (by decide) (by decide) (by decide) (by decide) (ad := "[B") rfl
  obtain ⟨b12, g12⟩ : ∃ z, z = h0.size := ⟨_, rfl⟩
  rw [← g12] at A12 st12
  have lt12 := own_lt A12.lt
  refine own_go st12 ?_
  have z13 := E12.1
  have K13 := K0.ext E12
  have O13 := O0.ext E12
  have V12 : Arv Z h12 b12 k12 .byte (4 : Int32) [(.int (0 : Int32)), (.int (0 : Int32)), (.int (0 : Int32)), (.int (0 : Int32))] (.int (0 : Int32)) := (Arv.new A12 (by decide)).pad (pad_rep [] (.int (0 : Int32)) 4)
  rw [← g12] at Eb12
  have fc12 := own_fcB V12 Eb12
  exact own_rA X12 Bd rfl (v := (.ref b12)) rfl (hb hby d12_6) e12 (⟨_, _, rfl, N11, K13, V12, (by omega)⟩) rfl rfl
abbrev own_c13 : ByteArray := jdk_52_method_14_code
def own_u_tob2_Q (Z : State) (b1 : Nat) (k1 : ClassId) (c0 c1 : Int32) (h0 : Heap) (n0 : Nat) (v : Option Value) (h : Heap) (L : List Loc) : Prop := ∃ (t : Nat) (kb : ClassId), v = some (.ref t) ∧ Fr n0 L ∧ Keep h0 h [] ∧ Arv Z h t kb .byte (4 : Int32) (StrChars.Road.wideBytes [c0, c1]) (.int (0 : Int32)) ∧ h0.size ≤ t
theorem ef_own_u_tob2 (m : MethodId) (x0 : Nat) (x1 : Int32) (x2 : Int32) : entryFrame m #[(.ref x0), (.int x1), (.int x2)] 5 = mkF m 0 #[vr x0, vi x1, vi x2, .unset, .unset] [] := by first | (simp [entryFrame, mkF, argsToLocals, Value.category]; done) | rfl
abbrev own_y13 : MethodName := ⟨"java/lang/StringUTF16", "toBytes", "([CII)[B"⟩
theorem d13_0 : decode own_c13 0 = .ok (.iload_n 2, 1) := by decide +kernel
theorem d13_1 : decode own_c13 1 = .ok (.invokestatic 107, 3) := by decide +kernel
theorem pd_8 : parseMethodDescriptor "(I)[B" = some ⟨[.int], some (.array .byte)⟩ := by decide +kernel
theorem d13_4 : decode own_c13 4 = .ok (.astore_n 3, 1) := by decide +kernel
theorem d13_5 : decode own_c13 5 = .ok (.iconst 0, 1) := by decide +kernel
theorem d13_6 : decode own_c13 6 = .ok (.istore 4, 2) := by decide +kernel
theorem d13_8 : decode own_c13 8 = .ok (.iload 4, 2) := by decide +kernel
theorem d13_10 : decode own_c13 10 = .ok (.iload_n 2, 1) := by decide +kernel
theorem d13_11 : decode own_c13 11 = .ok (.if_icmp .ge 21, 3) := by decide +kernel
theorem d13_14 : decode own_c13 14 = .ok (.aload_n 3, 1) := by decide +kernel
theorem d13_15 : decode own_c13 15 = .ok (.iload 4, 2) := by decide +kernel
theorem d13_17 : decode own_c13 17 = .ok (.aload_n 0, 1) := by decide +kernel
theorem d13_18 : decode own_c13 18 = .ok (.iload_n 1, 1) := by decide +kernel
theorem d13_19 : decode own_c13 19 = .ok (.caload, 1) := by decide +kernel
theorem d13_20 : decode own_c13 20 = .ok (.invokestatic 111, 3) := by decide +kernel
theorem pd_9 : parseMethodDescriptor "([BII)V" = some ⟨[(.array .byte), .int, .int], none⟩ := by decide +kernel
theorem d13_23 : decode own_c13 23 = .ok (.iinc 1 1, 3) := by decide +kernel
theorem d13_26 : decode own_c13 26 = .ok (.iinc 4 1, 3) := by decide +kernel
theorem d13_29 : decode own_c13 29 = .ok (.goto (-21), 3) := by decide +kernel
theorem d13_32 : decode own_c13 32 = .ok (.aload_n 3, 1) := by decide +kernel
theorem d13_33 : decode own_c13 33 = .ok (.areturn, 1) := by decide +kernel
set_option maxRecDepth 65536 in
set_option maxHeartbeats 40000000 in
theorem own_u_tob2 (l : Launch) (Z : State) (a0 : Array Value) (hW : own_W Z a0) (b1 : Nat) (k1 : ClassId) (c0 c1 : Int32) (h0 : Heap) (n0 : Nat) (Z0 : n0 ≤ h0.size) (O0 : Old Z n0 h0) (V1 : Arv Z h0 b1 k1 .char (2 : Int32) [(.int c0), (.int c1)] (.int (0 : Int32))) :
    own_M l own_y13 own_c13 5 (some (.array .byte)) (own_r 2 1 4 24) #[(.ref b1), (.int (0 : Int32)), (.int (2 : Int32))] Z h0 (own_u_tob2_Q Z b1 k1 c0 c1 h0 n0) := by
  refine own_enter (own := "java/lang/StringUTF16") rfl (plainFor_of_name pn_java_lang_StringUTF16) (fun m => ef_own_u_tob2 m b1 (0 : Int32) (2 : Int32)) ?_
  intro p e s m below meth c s₁ Bd hZ hh hx hby hml hown hnm X0 e0
  obtain ⟨hw, ⟨G1, O2, P5⟩, ⟨G3, O4, rG3⟩, Oa, Oh, Ol⟩ := id hW
  have N0 := Fr.nil n0
  have K0 := Keep.refl h0 []
  have lt1 := own_lt V1.lt
  refine own_gs (cur' := s₁.setTop (mkF m 1 #[vr b1, vi (0 : Int32), vi (2 : Int32), uu, uu] [(.int (2 : Int32))])) ?_ ?_
  · refine XS.iloadN X0.here hx rfl (hb hby d13_0) rfl ?_
    exact Steps.refl _
  obtain ⟨_, _, ⟨T11, L11, k11, n11⟩, -, X11, ⟨Lc11, hQ11, l11, y11, z11⟩, st11⟩ := Jvm.LawKit.callS X0 hx (y := own_y12) hown (mvT hZ (tw_ hw 185 rfl)) (mvT hZ (tw_ hw 186 rfl)) (mvT hZ (tw_ hw 170 rfl)) (mvT hZ (tw_ hw 187 rfl)) (by decide) (backOf (W := 0) (own_u_nbf2 l Z a0 hW h0 n0 (by omega) O0) hZ (tw_ hw 187 rfl) (tw_ hw 170 rfl) (by decide) (by decide)) (g := (mkF m 1 #[vr b1, vi (0 : Int32), vi (2 : Int32), uu, uu] [(.int (2 : Int32))])) rfl (by rw [hml]; rfl) (argsL := [(.int (2 : Int32))]) (rest := []) (lenOf pd_8 rfl) rfl (own_le rfl) (hb hby d13_1) (fun _ _ => ⟨rfl, e0, own_le rfl, own_le rfl⟩)
  dsimp only [Pt.U, Pt.locs, Pt.cells, Pt.slots] at X11 l11 y11 z11 st11 hQ11
  subst l11 y11 z11
  obtain ⟨t11, kb11, rfl, Nq11, Kq11, Vt11, ge11⟩ := hQ11
  have N11 := Fr.app N0 Nq11
  have z12 := Kq11.1
  have K12 := K0.trans Kq11 all0
  have O12 := O0.keep Kq11 all0
  have lt11 := own_lt Vt11.lt
  refine own_go st11 ?_
  refine own_gs (cur' := T11.setTop (mkF m 19 #[vr b1, vi (0 : Int32), vi (2 : Int32), vr t11, vi (0 : Int32)] [(.int (0 : Int32)), (.ref b1), (.int (0 : Int32)), (.ref t11)])) ?_ ?_
  · refine XS.astoreN X11.here hx rfl (hb hby d13_4) rfl rfl (l' := #[vr b1, vi (0 : Int32), vi (2 : Int32), vr t11, uu]) rfl ?_
    refine XS.iconst X11.here hx rfl (hb hby d13_5) ?_
    refine XS.istore X11.here hx rfl (hb hby d13_6) rfl (l' := #[vr b1, vi (0 : Int32), vi (2 : Int32), vr t11, vi (0 : Int32)]) rfl ?_
    refine XS.iload X11.here hx rfl (hb hby d13_8) rfl ?_
    refine XS.iloadN X11.here hx rfl (hb hby d13_10) rfl ?_
    refine XS.icmpNo X11.here hx rfl (hb hby d13_11) rfl (tlt ((by decide) : (0 : Int32) < (2 : Int32))).2.1 ?_
    refine XS.aloadN X11.here hx rfl (hb hby d13_14) rfl rfl ?_
    refine XS.iload X11.here hx rfl (hb hby d13_15) rfl ?_
    show Steps p.tables e below (T11.setTop (mkF m 17 #[vr b1, vi (0 : Int32), vi (2 : Int32), vr t11, vi (0 : Int32)] [(.int (0 : Int32)), (.ref t11)])) _
    refine XS.aloadN X11.here hx rfl (hb hby d13_17) rfl rfl ?_
    refine XS.iloadN X11.here hx rfl (hb hby d13_18) rfl ?_
    exact Steps.refl _
  have f14 := (V1.keep Kq11 nin0)
  obtain ⟨cl13, Ar13, q13, S13, M13, Hs13, G13⟩ := id f14
  have hin13 : ¬ ((0 : Int32) < 0 ∨ cl13.slots.size ≤ ((0 : Int32)).toNatClampNeg) := inb_of S13 ⟨by decide, by decide⟩
  have hat13 : cl13.slots[((0 : Int32)).toNatClampNeg]? = some (.int c0) := Has.at Hs13 hin13 rfl
  refine own_go (X11.caload hx (j := (0 : Int32)) (v := (.int c0)) (by exact Ar13.1) (State.isArrayOf_alike hZ.alike Ar13.2.1) Ar13.2.2 hin13 hat13 (g := (mkF m 19 #[vr b1, vi (0 : Int32), vi (2 : Int32), vr t11, vi (0 : Int32)] [(.int (0 : Int32)), (.ref b1), (.int (0 : Int32)), (.ref t11)])) rfl rfl (hb hby d13_19)) ?_
  show own_Fin p e below (T11.setTop (mkF m 20 #[vr b1, vi (0 : Int32), vi (2 : Int32), vr t11, vi (0 : Int32)] [(.int c0), (.int (0 : Int32)), (.ref t11)])) _
  obtain ⟨_, _, ⟨T15, L15, k15, n15⟩, -, X15, ⟨Lc15, hQ15, l15, y15, z15⟩, st15⟩ := Jvm.LawKit.callS X11 hx (y := own_y10) hown (mvT hZ (tw_ hw 192 rfl)) (mvT hZ (tw_ hw 193 rfl)) (mvT hZ (tw_ hw 170 rfl)) (mvT hZ (tw_ hw 194 rfl)) (by decide) (backOf (W := 0) (own_u_putc l Z a0 hW t11 kb11 2 0 [(.int (0 : Int32)), (.int (0 : Int32)), (.int (0 : Int32)), (.int (0 : Int32))] c0 T11.heap n0 (by omega) O12 (by decide) (by decide) rfl (by omega) Vt11) hZ (tw_ hw 194 rfl) (tw_ hw 170 rfl) (by decide) (by decide)) (g := (mkF m 20 #[vr b1, vi (0 : Int32), vi (2 : Int32), vr t11, vi (0 : Int32)] [(.int c0), (.int (0 : Int32)), (.ref t11)])) rfl (by rw [hml]; rfl) (argsL := [(.ref t11), (.int (0 : Int32)), (.int c0)]) (rest := []) (lenOf pd_9 rfl) rfl (own_le rfl) (hb hby d13_20) (fun _ _ => ⟨rfl, rfl, own_le rfl, own_le rfl⟩)
  dsimp only [Pt.U, Pt.locs, Pt.cells, Pt.slots] at X15 l15 y15 z15 st15 hQ15
  subst l15 y15 z15
  obtain ⟨rfl, Nq15, Kq15, Vt15⟩ := hQ15
  have N15 := Fr.app N11 Nq15
  have z16 := Kq15.1
  have K16 := K12.trans Kq15 (allS (Or.inr (by omega)) all0)
  have O16 := O12.keep Kq15 (allS (by omega) all0)
  have Vu15 : Arv Z T15.heap t11 kb11 .byte (4 : Int32) [(.int (StrChars.lo8 c0)), (.int (StrChars.hi8 c0)), (.int (0 : Int32)), (.int (0 : Int32))] (.int (0 : Int32)) := Vt15
  refine own_go st15 ?_
  refine own_gs (cur' := T15.setTop (mkF m 19 #[vr b1, vi (1 : Int32), vi (2 : Int32), vr t11, vi (1 : Int32)] [(.int (1 : Int32)), (.ref b1), (.int (1 : Int32)), (.ref t11)])) ?_ ?_
  · refine XS.iinc X15.here hx rfl (hb hby d13_23) rfl (l' := #[vr b1, vi (1 : Int32), vi (2 : Int32), vr t11, vi (0 : Int32)]) rfl ?_
    refine XS.iinc X15.here hx rfl (hb hby d13_26) rfl (l' := #[vr b1, vi (1 : Int32), vi (2 : Int32), vr t11, vi (1 : Int32)]) rfl ?_
    refine XS.goto X15.here hx rfl (pc0 := 29) (pc' := 8) rfl (hb hby d13_29) (by decide) (by decide) ?_
    refine XS.iload X15.here hx rfl (hb hby d13_8) rfl ?_
    refine XS.iloadN X15.here hx rfl (hb hby d13_10) rfl ?_
    refine XS.icmpNo X15.here hx rfl (hb hby d13_11) rfl (tlt ((by decide) : (1 : Int32) < (2 : Int32))).2.1 ?_
    refine XS.aloadN X15.here hx rfl (hb hby d13_14) rfl rfl ?_
    refine XS.iload X15.here hx rfl (hb hby d13_15) rfl ?_
    show Steps p.tables e below (T15.setTop (mkF m 17 #[vr b1, vi (1 : Int32), vi (2 : Int32), vr t11, vi (1 : Int32)] [(.int (1 : Int32)), (.ref t11)])) _
    refine XS.aloadN X15.here hx rfl (hb hby d13_17) rfl rfl ?_
    refine XS.iloadN X15.here hx rfl (hb hby d13_18) rfl ?_
    exact Steps.refl _
  have f18 := (f14.keep Kq15 (ninS (own_ne (a := b1) (b := t11) (by omega)) nin0))
  obtain ⟨cl17, Ar17, q17, S17, M17, Hs17, G17⟩ := id f18
  have hin17 : ¬ ((1 : Int32) < 0 ∨ cl17.slots.size ≤ ((1 : Int32)).toNatClampNeg) := inb_of S17 ⟨by decide, by decide⟩
  have hat17 : cl17.slots[((1 : Int32)).toNatClampNeg]? = some (.int c1) := Has.at Hs17 hin17 rfl
  refine own_go (X15.caload hx (j := (1 : Int32)) (v := (.int c1)) (by exact Ar17.1) (State.isArrayOf_alike hZ.alike Ar17.2.1) Ar17.2.2 hin17 hat17 (g := (mkF m 19 #[vr b1, vi (1 : Int32), vi (2 : Int32), vr t11, vi (1 : Int32)] [(.int (1 : Int32)), (.ref b1), (.int (1 : Int32)), (.ref t11)])) rfl rfl (hb hby d13_19)) ?_
  show own_Fin p e below (T15.setTop (mkF m 20 #[vr b1, vi (1 : Int32), vi (2 : Int32), vr t11, vi (1 : Int32)] [(.int c1), (.int (1 : Int32)), (.ref t11)])) _
  obtain ⟨_, _, ⟨T19, L19, k19, n19⟩, -, X19, ⟨Lc19, hQ19, l19, y19, z19⟩, st19⟩ := Jvm.LawKit.callS X15 hx (y := own_y10) hown (mvT hZ (tw_ hw 192 rfl)) (mvT hZ (tw_ hw 193 rfl)) (mvT hZ (tw_ hw 170 rfl)) (mvT hZ (tw_ hw 194 rfl)) (by decide) (backOf (W := 0) (own_u_putc l Z a0 hW t11 kb11 2 1 [(.int (StrChars.lo8 c0)), (.int (StrChars.hi8 c0)), (.int (0 : Int32)), (.int (0 : Int32))] c1 T15.heap n0 (by omega) O16 (by decide) (by decide) rfl (by omega) Vu15) hZ (tw_ hw 194 rfl) (tw_ hw 170 rfl) (by decide) (by decide)) (g := (mkF m 20 #[vr b1, vi (1 : Int32), vi (2 : Int32), vr t11, vi (1 : Int32)] [(.int c1), (.int (1 : Int32)), (.ref t11)])) rfl (by rw [hml]; rfl) (argsL := [(.ref t11), (.int (1 : Int32)), (.int c1)]) (rest := []) (lenOf pd_9 rfl) rfl (own_le rfl) (hb hby d13_20) (fun _ _ => ⟨rfl, rfl, own_le rfl, own_le rfl⟩)
  dsimp only [Pt.U, Pt.locs, Pt.cells, Pt.slots] at X19 l19 y19 z19 st19 hQ19
  subst l19 y19 z19
  obtain ⟨rfl, Nq19, Kq19, Vt19⟩ := hQ19
  have N19 := Fr.app N15 Nq19
  have z20 := Kq19.1
  have K20 := K16.trans Kq19 (allS (Or.inr (by omega)) all0)
  have O20 := O16.keep Kq19 (allS (by omega) all0)
  have Vu19 : Arv Z T19.heap t11 kb11 .byte (4 : Int32) [(.int (StrChars.lo8 c0)), (.int (StrChars.hi8 c0)), (.int (StrChars.lo8 c1)), (.int (StrChars.hi8 c1))] (.int (0 : Int32)) := Vt19
  refine own_go st19 ?_
  refine own_gs (cur' := T19.setTop (mkF m 33 #[vr b1, vi (2 : Int32), vi (2 : Int32), vr t11, vi (2 : Int32)] [(.ref t11)])) ?_ ?_
  · refine XS.iinc X19.here hx rfl (hb hby d13_23) rfl (l' := #[vr b1, vi (2 : Int32), vi (2 : Int32), vr t11, vi (1 : Int32)]) rfl ?_
    refine XS.iinc X19.here hx rfl (hb hby d13_26) rfl (l' := #[vr b1, vi (2 : Int32), vi (2 : Int32), vr t11, vi (2 : Int32)]) rfl ?_
    refine XS.goto X19.here hx rfl (pc0 := 29) (pc' := 8) rfl (hb hby d13_29) (by decide) (by decide) ?_
    refine XS.iload X19.here hx rfl (hb hby d13_8) rfl ?_
    refine XS.iloadN X19.here hx rfl (hb hby d13_10) rfl ?_
    refine XS.icmpYes X19.here hx rfl (pc0 := 11) (pc' := 32) rfl (hb hby d13_11) rfl (flt ((by decide) : ¬ ((2 : Int32) < (2 : Int32)))).2.1 (by decide) (by decide) ?_
    refine XS.aloadN X19.here hx rfl (hb hby d13_32) rfl rfl ?_
    exact Steps.refl _
  exact own_rA X19 Bd rfl (v := (.ref t11)) rfl (hb hby d13_33) rfl (⟨_, _, rfl, N19, K20, Vu19, (by omega)⟩) rfl rfl
abbrev own_c14 : ByteArray := jdk_52_method_21_code
def own_u_cmp2_Q (Z : State) (b1 d1 : Nat) (k1 k2 : ClassId) (c0 c1 : Int32) (h0 : Heap) (n0 : Nat) (v : Option Value) (h : Heap) (L : List Loc) : Prop := Fr n0 L ∧ Keep h0 h [d1] ∧ ((v = some (.int (2 : Int32)) ∧ (∀ c ∈ ([c0, c1] : List Int32), ¬ (255 : Int32) < c) ∧ Arv Z h d1 k2 .byte (2 : Int32) [(.int (StrChars.lo8 c0)), (.int (StrChars.lo8 c1))] (.int (0 : Int32))) ∨ (v = some (.int (0 : Int32)) ∧ (255 : Int32) < c0) ∨ (v = some (.int (1 : Int32)) ∧ (255 : Int32) < c1))
theorem ef_own_u_cmp2 (m : MethodId) (x0 : Nat) (x1 : Int32) (x2 : Nat) (x3 : Int32) (x4 : Int32) : entryFrame m #[(.ref x0), (.int x1), (.ref x2), (.int x3), (.int x4)] 7 = mkF m 0 #[vr x0, vi x1, vr x2, vi x3, vi x4, .unset, .unset] [] := by first | (simp [entryFrame, mkF, argsToLocals, Value.category]; done) | rfl
abbrev own_y14 : MethodName := ⟨"java/lang/StringUTF16", "compress", "([CI[BII)I"⟩
theorem d14_0 : decode own_c14 0 = .ok (.iconst 0, 1) := by decide +kernel
theorem d14_1 : decode own_c14 1 = .ok (.istore 5, 2) := by decide +kernel
theorem d14_3 : decode own_c14 3 = .ok (.iload 5, 2) := by decide +kernel
theorem d14_5 : decode own_c14 5 = .ok (.iload 4, 2) := by decide +kernel
theorem d14_7 : decode own_c14 7 = .ok (.if_icmp .ge 37, 3) := by decide +kernel
theorem d14_10 : decode own_c14 10 = .ok (.aload_n 0, 1) := by decide +kernel
theorem d14_11 : decode own_c14 11 = .ok (.iload_n 1, 1) := by decide +kernel
theorem d14_12 : decode own_c14 12 = .ok (.caload, 1) := by decide +kernel
theorem d14_13 : decode own_c14 13 = .ok (.istore 6, 2) := by decide +kernel
theorem d14_15 : decode own_c14 15 = .ok (.iload 6, 2) := by decide +kernel
theorem d14_17 : decode own_c14 17 = .ok (.sipush 255, 3) := by decide +kernel
theorem d14_20 : decode own_c14 20 = .ok (.if_icmp .le 6, 3) := by decide +kernel
theorem d14_23 : decode own_c14 23 = .ok (.iload 5, 2) := by decide +kernel
theorem d14_25 : decode own_c14 25 = .ok (.ireturn, 1) := by decide +kernel
theorem d14_26 : decode own_c14 26 = .ok (.aload_n 2, 1) := by decide +kernel
theorem d14_27 : decode own_c14 27 = .ok (.iload_n 3, 1) := by decide +kernel
theorem d14_28 : decode own_c14 28 = .ok (.iload 6, 2) := by decide +kernel
theorem d14_30 : decode own_c14 30 = .ok (.i2b, 1) := by decide +kernel
theorem d14_31 : decode own_c14 31 = .ok (.bastore, 1) := by decide +kernel
theorem d14_32 : decode own_c14 32 = .ok (.iinc 1 1, 3) := by decide +kernel
theorem d14_35 : decode own_c14 35 = .ok (.iinc 3 1, 3) := by decide +kernel
theorem d14_38 : decode own_c14 38 = .ok (.iinc 5 1, 3) := by decide +kernel
theorem d14_41 : decode own_c14 41 = .ok (.goto (-38), 3) := by decide +kernel
theorem d14_44 : decode own_c14 44 = .ok (.iload 4, 2) := by decide +kernel
theorem d14_46 : decode own_c14 46 = .ok (.ireturn, 1) := by decide +kernel
set_option maxRecDepth 65536 in
set_option maxHeartbeats 40000000 in
theorem own_u_cmp2 (l : Launch) (Z : State) (a0 : Array Value) (hW : own_W Z a0) (b1 d1 : Nat) (k1 k2 : ClassId) (c0 c1 : Int32) (h0 : Heap) (n0 : Nat) (Z0 : n0 ≤ h0.size) (O0 : Old Z n0 h0) (V1 : Arv Z h0 b1 k1 .char (2 : Int32) [(.int c0), (.int c1)] (.int (0 : Int32))) (V2 : Arv Z h0 d1 k2 .byte (2 : Int32) [(.int (0 : Int32)), (.int (0 : Int32))] (.int (0 : Int32))) (g2 : n0 ≤ d1) (hbd : b1 ≠ d1) :
    own_M l own_y14 own_c14 7 (some .int) (own_r 0 0 0 0) #[(.ref b1), (.int (0 : Int32)), (.ref d1), (.int (0 : Int32)), (.int (2 : Int32))] Z h0 (own_u_cmp2_Q Z b1 d1 k1 k2 c0 c1 h0 n0) := by
  refine own_enter (own := "java/lang/StringUTF16") rfl (plainFor_of_name pn_java_lang_StringUTF16) (fun m => ef_own_u_cmp2 m b1 (0 : Int32) d1 (0 : Int32) (2 : Int32)) ?_
  intro p e s m below meth c s₁ Bd hZ hh hx hby hml hown hnm X0 e0
  obtain ⟨hw, ⟨G1, O2, P5⟩, ⟨G3, O4, rG3⟩, Oa, Oh, Ol⟩ := id hW
  have N0 := Fr.nil n0
  have K0 := Keep.refl h0 [d1]
  have lt1 := own_lt V1.lt
  have lt2 := own_lt V2.lt
  refine own_gs (cur' := s₁.setTop (mkF m 12 #[vr b1, vi (0 : Int32), vr d1, vi (0 : Int32), vi (2 : Int32), vi (0 : Int32), uu] [(.int (0 : Int32)), (.ref b1)])) ?_ ?_
  · refine XS.iconst X0.here hx rfl (hb hby d14_0) ?_
    refine XS.istore X0.here hx rfl (hb hby d14_1) rfl (l' := #[vr b1, vi (0 : Int32), vr d1, vi (0 : Int32), vi (2 : Int32), vi (0 : Int32), uu]) rfl ?_
    refine XS.iload X0.here hx rfl (hb hby d14_3) rfl ?_
    refine XS.iload X0.here hx rfl (hb hby d14_5) rfl ?_
    refine XS.icmpNo X0.here hx rfl (hb hby d14_7) rfl (tlt ((by decide) : (0 : Int32) < (2 : Int32))).2.1 ?_
    refine XS.aloadN X0.here hx rfl (hb hby d14_10) rfl rfl ?_
    refine XS.iloadN X0.here hx rfl (hb hby d14_11) rfl ?_
    exact Steps.refl _
  obtain ⟨cl11, Ar11, q11, S11, M11, Hs11, G11⟩ := id V1
  have hin11 : ¬ ((0 : Int32) < 0 ∨ cl11.slots.size ≤ ((0 : Int32)).toNatClampNeg) := inb_of S11 ⟨by decide, by decide⟩
  have hat11 : cl11.slots[((0 : Int32)).toNatClampNeg]? = some (.int c0) := Has.at Hs11 hin11 rfl
  refine own_go (X0.caload hx (j := (0 : Int32)) (v := (.int c0)) (by rw [e0]; exact Ar11.1) (State.isArrayOf_alike hZ.alike Ar11.2.1) Ar11.2.2 hin11 hat11 (g := (mkF m 12 #[vr b1, vi (0 : Int32), vr d1, vi (0 : Int32), vi (2 : Int32), vi (0 : Int32), uu] [(.int (0 : Int32)), (.ref b1)])) rfl rfl (hb hby d14_12)) ?_
  show own_Fin p e below (s₁.setTop (mkF m 13 #[vr b1, vi (0 : Int32), vr d1, vi (0 : Int32), vi (2 : Int32), vi (0 : Int32), uu] [(.int c0)])) _
  refine own_gs (cur' := s₁.setTop (mkF m 20 #[vr b1, vi (0 : Int32), vr d1, vi (0 : Int32), vi (2 : Int32), vi (0 : Int32), vi c0] [(.int (255 : Int32)), (.int c0)])) ?_ ?_
  · refine XS.istore X0.here hx rfl (hb hby d14_13) rfl (l' := #[vr b1, vi (0 : Int32), vr d1, vi (0 : Int32), vi (2 : Int32), vi (0 : Int32), vi c0]) rfl ?_
    refine XS.iload X0.here hx rfl (hb hby d14_15) rfl ?_
    refine XS.sipush X0.here hx rfl (hb hby d14_17) ?_
    exact Steps.refl _
  by_cases hc20_12 : (255 : Int32) < c0
  · refine own_gs (cur' := s₁.setTop (mkF m 25 #[vr b1, vi (0 : Int32), vr d1, vi (0 : Int32), vi (2 : Int32), vi (0 : Int32), vi c0] [(.int (0 : Int32))])) ?_ ?_
    · refine XS.icmpNo X0.here hx rfl (hb hby d14_20) rfl (tlt (hc20_12 : (255 : Int32) < c0)).2.2.2 ?_
      refine XS.iload X0.here hx rfl (hb hby d14_23) rfl ?_
      exact Steps.refl _
    exact own_rI X0 Bd (hb hby d14_25) e0 (⟨N0, K0, Or.inr (Or.inl ⟨rfl, hc20_12⟩)⟩) rfl rfl
  · refine own_gs (cur' := s₁.setTop (mkF m 31 #[vr b1, vi (0 : Int32), vr d1, vi (0 : Int32), vi (2 : Int32), vi (0 : Int32), vi c0] [(.int (c0.toInt8.toInt32)), (.int (0 : Int32)), (.ref d1)])) ?_ ?_
    · refine XS.icmpYes X0.here hx rfl (pc0 := 20) (pc' := 26) rfl (hb hby d14_20) rfl (flt (hc20_12 : ¬ ((255 : Int32) < c0))).2.2.2 (by decide) (by decide) ?_
      refine XS.aloadN X0.here hx rfl (hb hby d14_26) rfl rfl ?_
      refine XS.iloadN X0.here hx rfl (hb hby d14_27) rfl ?_
      refine XS.iload X0.here hx rfl (hb hby d14_28) rfl ?_
      refine XS.i2b X0.here hx rfl (hb hby d14_30) rfl ?_
      exact Steps.refl _
    obtain ⟨cl13, Ar13, q13, S13, M13, Hs13, G13⟩ := id V2
    have hin13 : ¬ ((0 : Int32) < 0 ∨ cl13.slots.size ≤ ((0 : Int32)).toNatClampNeg) := inb_of S13 ⟨by decide, by decide⟩
    obtain ⟨T13, h13, X13, e13, W13, st13⟩ := stB X0 hx hZ e0 Ar13 (j := (0 : Int32)) hin13 (g := (mkF m 31 #[vr b1, vi (0 : Int32), vr d1, vi (0 : Int32), vi (2 : Int32), vi (0 : Int32), vi c0] [(.int (c0.toInt8.toInt32)), (.int (0 : Int32)), (.ref d1)])) rfl rfl (hb hby d14_31)
    have V13 := Arv.set Ar13 q13 S13 M13 Hs13 G13 (fits_nar_byte _) W13 0 rfl (Nat.le_of_ble_eq_true rfl)
    refine own_go st13 ?_
    have z14 := W13.size
    have K14 := K0.wr W13 (Or.inl (List.mem_of_getElem? (i := 0) rfl))
    have O14 := O0.wr W13 (by omega)
    have N14 := Fr.snoc X13 N0 (by omega)
    refine own_gs (cur' := T13.setTop (mkF m 12 #[vr b1, vi (1 : Int32), vr d1, vi (1 : Int32), vi (2 : Int32), vi (1 : Int32), vi c0] [(.int (1 : Int32)), (.ref b1)])) ?_ ?_
    · refine XS.iinc X13.here hx rfl (hb hby d14_32) rfl (l' := #[vr b1, vi (1 : Int32), vr d1, vi (0 : Int32), vi (2 : Int32), vi (0 : Int32), vi c0]) rfl ?_
      refine XS.iinc X13.here hx rfl (hb hby d14_35) rfl (l' := #[vr b1, vi (1 : Int32), vr d1, vi (1 : Int32), vi (2 : Int32), vi (0 : Int32), vi c0]) rfl ?_
      refine XS.iinc X13.here hx rfl (hb hby d14_38) rfl (l' := #[vr b1, vi (1 : Int32), vr d1, vi (1 : Int32), vi (2 : Int32), vi (1 : Int32), vi c0]) rfl ?_
      refine XS.goto X13.here hx rfl (pc0 := 41) (pc' := 3) rfl (hb hby d14_41) (by decide) (by decide) ?_
      refine XS.iload X13.here hx rfl (hb hby d14_3) rfl ?_
      refine XS.iload X13.here hx rfl (hb hby d14_5) rfl ?_
      refine XS.icmpNo X13.here hx rfl (hb hby d14_7) rfl (tlt ((by decide) : (1 : Int32) < (2 : Int32))).2.1 ?_
      refine XS.aloadN X13.here hx rfl (hb hby d14_10) rfl rfl ?_
      show Steps p.tables e below (T13.setTop (mkF m 11 #[vr b1, vi (1 : Int32), vr d1, vi (1 : Int32), vi (2 : Int32), vi (1 : Int32), vi c0] [(.ref b1)])) _
      refine XS.iloadN X13.here hx rfl (hb hby d14_11) rfl ?_
      exact Steps.refl _
    have f16 := (V1.other W13 (own_ne (a := b1) (b := d1) (by omega)))
    obtain ⟨cl15, Ar15, q15, S15, M15, Hs15, G15⟩ := id f16
    have hin15 : ¬ ((1 : Int32) < 0 ∨ cl15.slots.size ≤ ((1 : Int32)).toNatClampNeg) := inb_of S15 ⟨by decide, by decide⟩
    have hat15 : cl15.slots[((1 : Int32)).toNatClampNeg]? = some (.int c1) := Has.at Hs15 hin15 rfl
    refine own_go (X13.caload hx (j := (1 : Int32)) (v := (.int c1)) (by rw [e13]; exact Ar15.1) (State.isArrayOf_alike hZ.alike Ar15.2.1) Ar15.2.2 hin15 hat15 (g := (mkF m 12 #[vr b1, vi (1 : Int32), vr d1, vi (1 : Int32), vi (2 : Int32), vi (1 : Int32), vi c0] [(.int (1 : Int32)), (.ref b1)])) rfl rfl (hb hby d14_12)) ?_
    show own_Fin p e below (T13.setTop (mkF m 13 #[vr b1, vi (1 : Int32), vr d1, vi (1 : Int32), vi (2 : Int32), vi (1 : Int32), vi c0] [(.int c1)])) _
    refine own_gs (cur' := T13.setTop (mkF m 20 #[vr b1, vi (1 : Int32), vr d1, vi (1 : Int32), vi (2 : Int32), vi (1 : Int32), vi c1] [(.int (255 : Int32)), (.int c1)])) ?_ ?_
    · refine XS.istore X13.here hx rfl (hb hby d14_13) rfl (l' := #[vr b1, vi (1 : Int32), vr d1, vi (1 : Int32), vi (2 : Int32), vi (1 : Int32), vi c1]) rfl ?_
      refine XS.iload X13.here hx rfl (hb hby d14_15) rfl ?_
      refine XS.sipush X13.here hx rfl (hb hby d14_17) ?_
      exact Steps.refl _
    by_cases hc20_17 : (255 : Int32) < c1
    · refine own_gs (cur' := T13.setTop (mkF m 25 #[vr b1, vi (1 : Int32), vr d1, vi (1 : Int32), vi (2 : Int32), vi (1 : Int32), vi c1] [(.int (1 : Int32))])) ?_ ?_
      · refine XS.icmpNo X13.here hx rfl (hb hby d14_20) rfl (tlt (hc20_17 : (255 : Int32) < c1)).2.2.2 ?_
        refine XS.iload X13.here hx rfl (hb hby d14_23) rfl ?_
        exact Steps.refl _
      exact own_rI X13 Bd (hb hby d14_25) e13 (⟨N14, K14, Or.inr (Or.inr ⟨rfl, hc20_17⟩)⟩) rfl rfl
    · refine own_gs (cur' := T13.setTop (mkF m 31 #[vr b1, vi (1 : Int32), vr d1, vi (1 : Int32), vi (2 : Int32), vi (1 : Int32), vi c1] [(.int (c1.toInt8.toInt32)), (.int (1 : Int32)), (.ref d1)])) ?_ ?_
      · refine XS.icmpYes X13.here hx rfl (pc0 := 20) (pc' := 26) rfl (hb hby d14_20) rfl (flt (hc20_17 : ¬ ((255 : Int32) < c1))).2.2.2 (by decide) (by decide) ?_
        refine XS.aloadN X13.here hx rfl (hb hby d14_26) rfl rfl ?_
        refine XS.iloadN X13.here hx rfl (hb hby d14_27) rfl ?_
        refine XS.iload X13.here hx rfl (hb hby d14_28) rfl ?_
        refine XS.i2b X13.here hx rfl (hb hby d14_30) rfl ?_
        exact Steps.refl _
      obtain ⟨cl18, Ar18, q18, S18, M18, Hs18, G18⟩ := id V13
      have hin18 : ¬ ((1 : Int32) < 0 ∨ cl18.slots.size ≤ ((1 : Int32)).toNatClampNeg) := inb_of S18 ⟨by decide, by decide⟩
      obtain ⟨T18, h18, X18, e18, W18, st18⟩ := stB X13 hx hZ e13 Ar18 (j := (1 : Int32)) hin18 (g := (mkF m 31 #[vr b1, vi (1 : Int32), vr d1, vi (1 : Int32), vi (2 : Int32), vi (1 : Int32), vi c1] [(.int (c1.toInt8.toInt32)), (.int (1 : Int32)), (.ref d1)])) rfl rfl (hb hby d14_31)
      have V18 := Arv.set Ar18 q18 S18 M18 Hs18 G18 (fits_nar_byte _) W18 1 rfl (Nat.le_of_ble_eq_true rfl)
      refine own_go st18 ?_
      have z19 := W18.size
      have K19 := K14.wr W18 (Or.inl (List.mem_of_getElem? (i := 0) rfl))
      have O19 := O14.wr W18 (by omega)
      have N19 := Fr.snoc X18 N14 (by omega)
      have Vf := V18
      simp only [own_b2] at Vf
      have hal : ∀ c ∈ ([c0, c1] : List Int32), ¬ (255 : Int32) < c := by
        intro c hc
        simp only [List.mem_cons, List.not_mem_nil, or_false] at hc
        rcases hc with rfl | rfl
        · exact hc20_12
        · exact hc20_17
      refine own_gs (cur' := T18.setTop (mkF m 46 #[vr b1, vi (2 : Int32), vr d1, vi (2 : Int32), vi (2 : Int32), vi (2 : Int32), vi c1] [(.int (2 : Int32))])) ?_ ?_
      · refine XS.iinc X18.here hx rfl (hb hby d14_32) rfl (l' := #[vr b1, vi (2 : Int32), vr d1, vi (1 : Int32), vi (2 : Int32), vi (1 : Int32), vi c1]) rfl ?_
        refine XS.iinc X18.here hx rfl (hb hby d14_35) rfl (l' := #[vr b1, vi (2 : Int32), vr d1, vi (2 : Int32), vi (2 : Int32), vi (1 : Int32), vi c1]) rfl ?_
        refine XS.iinc X18.here hx rfl (hb hby d14_38) rfl (l' := #[vr b1, vi (2 : Int32), vr d1, vi (2 : Int32), vi (2 : Int32), vi (2 : Int32), vi c1]) rfl ?_
        refine XS.goto X18.here hx rfl (pc0 := 41) (pc' := 3) rfl (hb hby d14_41) (by decide) (by decide) ?_
        refine XS.iload X18.here hx rfl (hb hby d14_3) rfl ?_
        refine XS.iload X18.here hx rfl (hb hby d14_5) rfl ?_
        refine XS.icmpYes X18.here hx rfl (pc0 := 7) (pc' := 44) rfl (hb hby d14_7) rfl (flt ((by decide) : ¬ ((2 : Int32) < (2 : Int32)))).2.1 (by decide) (by decide) ?_
        refine XS.iload X18.here hx rfl (hb hby d14_44) rfl ?_
        exact Steps.refl _
      exact own_rI X18 Bd (hb hby d14_46) e18 (⟨N19, K19, Or.inl ⟨rfl, hal, Vf⟩⟩) rfl rfl
abbrev own_c15 : ByteArray := jdk_52_method_16_code
def own_u_cmpr2_Q (Z : State) (b1 : Nat) (k1 : ClassId) (c0 c1 : Int32) (h0 : Heap) (n0 : Nat) (v : Option Value) (h : Heap) (L : List Loc) : Prop := ∃ (t : Nat) (kb : ClassId), v = some (.ref t) ∧ Fr n0 L ∧ Keep h0 h [] ∧ h0.size ≤ t ∧ (((∀ c ∈ ([c0, c1] : List Int32), ¬ (255 : Int32) < c) ∧ Arv Z h t kb .byte (2 : Int32) [(.int (StrChars.lo8 c0)), (.int (StrChars.lo8 c1))] (.int (0 : Int32))) ∨ ((∃ c ∈ ([c0, c1] : List Int32), (255 : Int32) < c) ∧ Arv Z h t kb .byte (4 : Int32) (StrChars.Road.wideBytes [c0, c1]) (.int (0 : Int32))))
theorem ef_own_u_cmpr2 (m : MethodId) (x0 : Nat) (x1 : Int32) (x2 : Int32) : entryFrame m #[(.ref x0), (.int x1), (.int x2)] 6 = mkF m 0 #[vr x0, vi x1, vi x2, .unset, .unset, .unset] [] := by first | (simp [entryFrame, mkF, argsToLocals, Value.category]; done) | rfl
abbrev own_y15 : MethodName := ⟨"java/lang/StringUTF16", "compress", "([CII)[B"⟩
theorem d15_0 : decode own_c15 0 = .ok (.iload_n 2, 1) := by decide +kernel
theorem d15_1 : decode own_c15 1 = .ok (.newarray .byte, 2) := by decide +kernel
theorem d15_3 : decode own_c15 3 = .ok (.astore_n 3, 1) := by decide +kernel
theorem d15_4 : decode own_c15 4 = .ok (.aload_n 0, 1) := by decide +kernel
theorem d15_5 : decode own_c15 5 = .ok (.iload_n 1, 1) := by decide +kernel
theorem d15_6 : decode own_c15 6 = .ok (.aload_n 3, 1) := by decide +kernel
theorem d15_7 : decode own_c15 7 = .ok (.iconst 0, 1) := by decide +kernel
theorem d15_8 : decode own_c15 8 = .ok (.iload_n 2, 1) := by decide +kernel
theorem d15_9 : decode own_c15 9 = .ok (.invokestatic 115, 3) := by decide +kernel
theorem pd_10 : parseMethodDescriptor "([CI[BII)I" = some ⟨[(.array .char), .int, (.array .byte), .int, .int], some .int⟩ := by decide +kernel
theorem d15_12 : decode own_c15 12 = .ok (.istore 4, 2) := by decide +kernel
theorem d15_14 : decode own_c15 14 = .ok (.iload 4, 2) := by decide +kernel
theorem d15_16 : decode own_c15 16 = .ok (.iload_n 2, 1) := by decide +kernel
theorem d15_17 : decode own_c15 17 = .ok (.if_icmp .eq 40, 3) := by decide +kernel
theorem d15_57 : decode own_c15 57 = .ok (.aload_n 3, 1) := by decide +kernel
theorem d15_58 : decode own_c15 58 = .ok (.areturn, 1) := by decide +kernel
theorem d15_20 : decode own_c15 20 = .ok (.aload_n 0, 1) := by decide +kernel
theorem d15_21 : decode own_c15 21 = .ok (.iload_n 1, 1) := by decide +kernel
theorem d15_22 : decode own_c15 22 = .ok (.iload_n 2, 1) := by decide +kernel
theorem d15_23 : decode own_c15 23 = .ok (.invokestatic 119, 3) := by decide +kernel
theorem pd_11 : parseMethodDescriptor "([CII)[B" = some ⟨[(.array .char), .int, .int], some (.array .byte)⟩ := by decide +kernel
theorem d15_26 : decode own_c15 26 = .ok (.astore 5, 2) := by decide +kernel
theorem d15_28 : decode own_c15 28 = .ok (.aload 5, 2) := by decide +kernel
theorem d15_30 : decode own_c15 30 = .ok (.iload 4, 2) := by decide +kernel
theorem d15_32 : decode own_c15 32 = .ok (.invokestatic 71, 3) := by decide +kernel
theorem d15_35 : decode own_c15 35 = .ok (.sipush 255, 3) := by decide +kernel
theorem d15_38 : decode own_c15 38 = .ok (.if_icmp .gt 16, 3) := by decide +kernel
theorem d15_54 : decode own_c15 54 = .ok (.aload 5, 2) := by decide +kernel
theorem d15_56 : decode own_c15 56 = .ok (.areturn, 1) := by decide +kernel
set_option maxRecDepth 65536 in
set_option maxHeartbeats 40000000 in
theorem own_u_cmpr2 (l : Launch) (Z : State) (a0 : Array Value) (hW : own_W Z a0) (b1 : Nat) (k1 : ClassId) (c0 c1 : Int32) (h0 : Heap) (n0 : Nat) (Z0 : n0 ≤ h0.size) (O0 : Old Z n0 h0) (V1 : Arv Z h0 b1 k1 .char (2 : Int32) [(.int c0), (.int c1)] (.int (0 : Int32))) (hb0 : ¬ c0 < 0 ∧ ¬ (65535 : Int32) < c0) (hb1 : ¬ c1 < 0 ∧ ¬ (65535 : Int32) < c1) :
    own_M l own_y15 own_c15 6 (some (.array .byte)) (own_r 3 2 6 40) #[(.ref b1), (.int (0 : Int32)), (.int (2 : Int32))] Z h0 (own_u_cmpr2_Q Z b1 k1 c0 c1 h0 n0) := by
  refine own_enter (own := "java/lang/StringUTF16") rfl (plainFor_of_name pn_java_lang_StringUTF16) (fun m => ef_own_u_cmpr2 m b1 (0 : Int32) (2 : Int32)) ?_
  intro p e s m below meth c s₁ Bd hZ hh hx hby hml hown hnm X0 e0
  obtain ⟨hw, ⟨G1, O2, P5⟩, ⟨G3, O4, rG3⟩, Oa, Oh, Ol⟩ := id hW
  have N0 := Fr.nil n0
  have K0 := Keep.refl h0 []
  have lt1 := own_lt V1.lt
  refine own_gs (cur' := s₁.setTop (mkF m 1 #[vr b1, vi (0 : Int32), vi (2 : Int32), uu, uu, uu] [(.int (2 : Int32))])) ?_ ?_
  · refine XS.iloadN X0.here hx rfl (hb hby d15_0) rfl ?_
    exact Steps.refl _
  obtain ⟨T11, h11, k11, X11, e11, E11, A11, Eb11, st11⟩ := newPE X0 hx hZ (tw_ hw 21 rfl) e0 (g := (mkF m 1 #[vr b1, vi (0 : Int32), vi (2 : Int32), uu, uu, uu] [(.int (2 : Int32))])) rfl (hb hby d15_1) rfl (by decide) (cap := 2) (by decide) (by decide) (by decide) (by decide) (ad := "[B") rfl
  obtain ⟨b11, g11⟩ : ∃ z, z = h0.size := ⟨_, rfl⟩
  rw [← g11] at A11 st11
  have lt11 := own_lt A11.lt
  refine own_go st11 ?_
  have z12 := E11.1
  have K12 := K0.ext E11
  have O12 := O0.ext E11
  have V11 : Arv Z h11 b11 k11 .byte (2 : Int32) [(.int (0 : Int32)), (.int (0 : Int32))] (.int (0 : Int32)) := (Arv.new A11 (by decide)).pad (pad_rep [] (.int (0 : Int32)) 2)
  rw [← g11] at Eb11
  have fc11 := own_fcB V11 Eb11
  have f13 := (V1.ext E11)
  refine own_gs (cur' := T11.setTop (mkF m 9 #[vr b1, vi (0 : Int32), vi (2 : Int32), vr b11, uu, uu] [(.int (2 : Int32)), (.int (0 : Int32)), (.ref b11), (.int (0 : Int32)), (.ref b1)])) ?_ ?_
  · refine XS.astoreN X11.here hx rfl (hb hby d15_3) rfl rfl (l' := #[vr b1, vi (0 : Int32), vi (2 : Int32), vr b11, uu, uu]) rfl ?_
    refine XS.aloadN X11.here hx rfl (hb hby d15_4) rfl rfl ?_
    refine XS.iloadN X11.here hx rfl (hb hby d15_5) rfl ?_
    refine XS.aloadN X11.here hx rfl (hb hby d15_6) rfl rfl ?_
    refine XS.iconst X11.here hx rfl (hb hby d15_7) ?_
    refine XS.iloadN X11.here hx rfl (hb hby d15_8) rfl ?_
    exact Steps.refl _
  obtain ⟨_, _, ⟨T14, L14, k14, n14⟩, -, X14, ⟨Lc14, hQ14, l14, y14, z14⟩, st14⟩ := Jvm.LawKit.callS X11 hx (y := own_y14) hown (mvT hZ (tw_ hw 172 rfl)) (mvT hZ (tw_ hw 173 rfl)) (mvT hZ (tw_ hw 170 rfl)) (mvT hZ (tw_ hw 174 rfl)) (by decide) (backOf (W := 0) (own_u_cmp2 l Z a0 hW b1 b11 k1 k11 c0 c1 h11 n0 (by omega) O12 f13 V11 (by omega) (by omega)) hZ (tw_ hw 174 rfl) (tw_ hw 170 rfl) (by decide) (by decide)) (g := (mkF m 9 #[vr b1, vi (0 : Int32), vi (2 : Int32), vr b11, uu, uu] [(.int (2 : Int32)), (.int (0 : Int32)), (.ref b11), (.int (0 : Int32)), (.ref b1)])) rfl (by rw [hml]; rfl) (argsL := [(.ref b1), (.int (0 : Int32)), (.ref b11), (.int (0 : Int32)), (.int (2 : Int32))]) (rest := []) (lenOf pd_10 rfl) rfl (own_le rfl) (hb hby d15_9) (fun _ _ => ⟨rfl, e11, own_le rfl, own_le rfl⟩)
  dsimp only [Pt.U, Pt.locs, Pt.cells, Pt.slots] at X14 l14 y14 z14 st14 hQ14
  subst l14 y14 z14
  obtain ⟨Nq14, Kq14, hor⟩ := hQ14
  have N14 := Fr.app N0 Nq14
  have z15 := Kq14.1
  have K15 := K12.trans Kq14 (allS (Or.inr (by omega)) all0)
  have O15 := O12.keep Kq14 (allS (by omega) all0)
  rcases hor with ⟨rfl, hal, Vl⟩ | ⟨rfl, hbig⟩ | ⟨rfl, hbig⟩
  · refine own_go st14 ?_
    show own_Fin p e below (T14.setTop (mkF m 12 #[vr b1, vi (0 : Int32), vi (2 : Int32), vr b11, uu, uu] [(.int (2 : Int32))])) _
    refine own_gs (cur' := T14.setTop (mkF m 58 #[vr b1, vi (0 : Int32), vi (2 : Int32), vr b11, vi (2 : Int32), uu] [(.ref b11)])) ?_ ?_
    · refine XS.istore X14.here hx rfl (hb hby d15_12) rfl (l' := #[vr b1, vi (0 : Int32), vi (2 : Int32), vr b11, vi (2 : Int32), uu]) rfl ?_
      refine XS.iload X14.here hx rfl (hb hby d15_14) rfl ?_
      refine XS.iloadN X14.here hx rfl (hb hby d15_16) rfl ?_
      refine XS.icmpYes X14.here hx rfl (pc0 := 17) (pc' := 57) rfl (hb hby d15_17) rfl (teq ((by decide) : (2 : Int32) = (2 : Int32))).1 (by decide) (by decide) ?_
      refine XS.aloadN X14.here hx rfl (hb hby d15_57) rfl rfl ?_
      exact Steps.refl _
    exact own_rA X14 Bd rfl (v := (.ref b11)) rfl (hb hby d15_58) rfl (⟨_, _, rfl, N14, K15, (by omega), Or.inl ⟨hal, Vl⟩⟩) rfl rfl
  · refine own_go st14 ?_
    show own_Fin p e below (T14.setTop (mkF m 12 #[vr b1, vi (0 : Int32), vi (2 : Int32), vr b11, uu, uu] [(.int (0 : Int32))])) _
    have f16 := (f13.keep Kq14 (ninS (own_ne (a := b1) (b := b11) (by omega)) nin0))
    refine own_gs (cur' := T14.setTop (mkF m 23 #[vr b1, vi (0 : Int32), vi (2 : Int32), vr b11, vi (0 : Int32), uu] [(.int (2 : Int32)), (.int (0 : Int32)), (.ref b1)])) ?_ ?_
    · refine XS.istore X14.here hx rfl (hb hby d15_12) rfl (l' := #[vr b1, vi (0 : Int32), vi (2 : Int32), vr b11, vi (0 : Int32), uu]) rfl ?_
      refine XS.iload X14.here hx rfl (hb hby d15_14) rfl ?_
      refine XS.iloadN X14.here hx rfl (hb hby d15_16) rfl ?_
      refine XS.icmpNo X14.here hx rfl (hb hby d15_17) rfl (feq ((by decide) : ¬ ((0 : Int32) = (2 : Int32)))).1 ?_
      refine XS.aloadN X14.here hx rfl (hb hby d15_20) rfl rfl ?_
      refine XS.iloadN X14.here hx rfl (hb hby d15_21) rfl ?_
      refine XS.iloadN X14.here hx rfl (hb hby d15_22) rfl ?_
      exact Steps.refl _
    obtain ⟨_, _, ⟨T17, L17, k17, n17⟩, -, X17, ⟨Lc17, hQ17, l17, y17, z17⟩, st17⟩ := Jvm.LawKit.callS X14 hx (y := own_y13) hown (mvT hZ (tw_ hw 182 rfl)) (mvT hZ (tw_ hw 183 rfl)) (mvT hZ (tw_ hw 170 rfl)) (mvT hZ (tw_ hw 184 rfl)) (by decide) (backOf (W := 0) (own_u_tob2 l Z a0 hW b1 k1 c0 c1 T14.heap n0 (by omega) O15 f16) hZ (tw_ hw 184 rfl) (tw_ hw 170 rfl) (by decide) (by decide)) (g := (mkF m 23 #[vr b1, vi (0 : Int32), vi (2 : Int32), vr b11, vi (0 : Int32), uu] [(.int (2 : Int32)), (.int (0 : Int32)), (.ref b1)])) rfl (by rw [hml]; rfl) (argsL := [(.ref b1), (.int (0 : Int32)), (.int (2 : Int32))]) (rest := []) (lenOf pd_11 rfl) rfl (own_le rfl) (hb hby d15_23) (fun _ _ => ⟨rfl, rfl, own_le rfl, own_le rfl⟩)
    dsimp only [Pt.U, Pt.locs, Pt.cells, Pt.slots] at X17 l17 y17 z17 st17 hQ17
    subst l17 y17 z17
    obtain ⟨t17, kb17, rfl, Nq17, Kq17, Vt17, ge17⟩ := hQ17
    have N17 := Fr.app N14 Nq17
    have z18 := Kq17.1
    have K18 := K15.trans Kq17 all0
    have O18 := O15.keep Kq17 all0
    have lt17 := own_lt Vt17.lt
    refine own_go st17 ?_
    refine own_gs (cur' := T17.setTop (mkF m 32 #[vr b1, vi (0 : Int32), vi (2 : Int32), vr b11, vi (0 : Int32), vr t17] [(.int (0 : Int32)), (.ref t17)])) ?_ ?_
    · refine XS.astore X17.here hx rfl (hb hby d15_26) rfl rfl (l' := #[vr b1, vi (0 : Int32), vi (2 : Int32), vr b11, vi (0 : Int32), vr t17]) rfl ?_
      refine XS.aload X17.here hx rfl (hb hby d15_28) rfl rfl ?_
      refine XS.iload X17.here hx rfl (hb hby d15_30) rfl ?_
      exact Steps.refl _
    obtain ⟨_, _, ⟨T19, L19, k19, n19⟩, -, X19, ⟨Lc19, hQ19, l19, y19, z19⟩, st19⟩ := Jvm.LawKit.callS X17 hx (y := own_y6) hown (mvT hZ (tw_ hw 198 rfl)) (mvT hZ (tw_ hw 199 rfl)) (mvT hZ (tw_ hw 170 rfl)) (mvT hZ (tw_ hw 200 rfl)) (by decide) (backOf (W := 0) (own_u_getc l Z a0 hW t17 kb17 2 0 (StrChars.Road.wideBytes [c0, c1]) (StrChars.lo8 c0) (StrChars.hi8 c0) T17.heap n0 (by omega) O18 (by decide) (by decide) Vt17 rfl rfl) hZ (tw_ hw 200 rfl) (tw_ hw 170 rfl) (by decide) (by decide)) (g := (mkF m 32 #[vr b1, vi (0 : Int32), vi (2 : Int32), vr b11, vi (0 : Int32), vr t17] [(.int (0 : Int32)), (.ref t17)])) rfl (by rw [hml]; rfl) (argsL := [(.ref t17), (.int (0 : Int32))]) (rest := []) (lenOf pd_5 rfl) rfl (own_le rfl) (hb hby d15_32) (fun _ _ => ⟨rfl, rfl, own_le rfl, own_le rfl⟩)
    dsimp only [Pt.U, Pt.locs, Pt.cells, Pt.slots] at X19 l19 y19 z19 st19 hQ19
    subst l19 y19 z19
    obtain ⟨rfl, Nq19, eh19⟩ := hQ19
    have N19 := Fr.app N17 Nq19
    rw [StrChars.pair_says hb0.1 hb0.2] at st19
    refine own_go st19 ?_
    refine own_gs (cur' := T19.setTop (mkF m 56 #[vr b1, vi (0 : Int32), vi (2 : Int32), vr b11, vi (0 : Int32), vr t17] [(.ref t17)])) ?_ ?_
    · refine XS.sipush X19.here hx rfl (hb hby d15_35) ?_
      refine XS.icmpYes X19.here hx rfl (pc0 := 38) (pc' := 54) rfl (hb hby d15_38) rfl (tlt (hbig : (255 : Int32) < c0)).2.2.1 (by decide) (by decide) ?_
      refine XS.aload X19.here hx rfl (hb hby d15_54) rfl rfl ?_
      exact Steps.refl _
    exact own_rA X19 Bd rfl (v := (.ref t17)) rfl (hb hby d15_56) eh19 (⟨_, _, rfl, N19, K18, (by omega), Or.inr ⟨⟨_, List.mem_of_getElem? (i := 0) rfl, hbig⟩, Vt17⟩⟩) rfl rfl
  · refine own_go st14 ?_
    show own_Fin p e below (T14.setTop (mkF m 12 #[vr b1, vi (0 : Int32), vi (2 : Int32), vr b11, uu, uu] [(.int (1 : Int32))])) _
    have f20 := (f13.keep Kq14 (ninS (own_ne (a := b1) (b := b11) (by omega)) nin0))
    refine own_gs (cur' := T14.setTop (mkF m 23 #[vr b1, vi (0 : Int32), vi (2 : Int32), vr b11, vi (1 : Int32), uu] [(.int (2 : Int32)), (.int (0 : Int32)), (.ref b1)])) ?_ ?_
    · refine XS.istore X14.here hx rfl (hb hby d15_12) rfl (l' := #[vr b1, vi (0 : Int32), vi (2 : Int32), vr b11, vi (1 : Int32), uu]) rfl ?_
      refine XS.iload X14.here hx rfl (hb hby d15_14) rfl ?_
      refine XS.iloadN X14.here hx rfl (hb hby d15_16) rfl ?_
      refine XS.icmpNo X14.here hx rfl (hb hby d15_17) rfl (feq ((by decide) : ¬ ((1 : Int32) = (2 : Int32)))).1 ?_
      refine XS.aloadN X14.here hx rfl (hb hby d15_20) rfl rfl ?_
      refine XS.iloadN X14.here hx rfl (hb hby d15_21) rfl ?_
      refine XS.iloadN X14.here hx rfl (hb hby d15_22) rfl ?_
      exact Steps.refl _
    obtain ⟨_, _, ⟨T21, L21, k21, n21⟩, -, X21, ⟨Lc21, hQ21, l21, y21, z21⟩, st21⟩ := Jvm.LawKit.callS X14 hx (y := own_y13) hown (mvT hZ (tw_ hw 182 rfl)) (mvT hZ (tw_ hw 183 rfl)) (mvT hZ (tw_ hw 170 rfl)) (mvT hZ (tw_ hw 184 rfl)) (by decide) (backOf (W := 0) (own_u_tob2 l Z a0 hW b1 k1 c0 c1 T14.heap n0 (by omega) O15 f20) hZ (tw_ hw 184 rfl) (tw_ hw 170 rfl) (by decide) (by decide)) (g := (mkF m 23 #[vr b1, vi (0 : Int32), vi (2 : Int32), vr b11, vi (1 : Int32), uu] [(.int (2 : Int32)), (.int (0 : Int32)), (.ref b1)])) rfl (by rw [hml]; rfl) (argsL := [(.ref b1), (.int (0 : Int32)), (.int (2 : Int32))]) (rest := []) (lenOf pd_11 rfl) rfl (own_le rfl) (hb hby d15_23) (fun _ _ => ⟨rfl, rfl, own_le rfl, own_le rfl⟩)
    dsimp only [Pt.U, Pt.locs, Pt.cells, Pt.slots] at X21 l21 y21 z21 st21 hQ21
    subst l21 y21 z21
    obtain ⟨t21, kb21, rfl, Nq21, Kq21, Vt21, ge21⟩ := hQ21
    have N21 := Fr.app N14 Nq21
    have z22 := Kq21.1
    have K22 := K15.trans Kq21 all0
    have O22 := O15.keep Kq21 all0
    have lt21 := own_lt Vt21.lt
    refine own_go st21 ?_
    refine own_gs (cur' := T21.setTop (mkF m 32 #[vr b1, vi (0 : Int32), vi (2 : Int32), vr b11, vi (1 : Int32), vr t21] [(.int (1 : Int32)), (.ref t21)])) ?_ ?_
    · refine XS.astore X21.here hx rfl (hb hby d15_26) rfl rfl (l' := #[vr b1, vi (0 : Int32), vi (2 : Int32), vr b11, vi (1 : Int32), vr t21]) rfl ?_
      refine XS.aload X21.here hx rfl (hb hby d15_28) rfl rfl ?_
      refine XS.iload X21.here hx rfl (hb hby d15_30) rfl ?_
      exact Steps.refl _
    obtain ⟨_, _, ⟨T23, L23, k23, n23⟩, -, X23, ⟨Lc23, hQ23, l23, y23, z23⟩, st23⟩ := Jvm.LawKit.callS X21 hx (y := own_y6) hown (mvT hZ (tw_ hw 198 rfl)) (mvT hZ (tw_ hw 199 rfl)) (mvT hZ (tw_ hw 170 rfl)) (mvT hZ (tw_ hw 200 rfl)) (by decide) (backOf (W := 0) (own_u_getc l Z a0 hW t21 kb21 2 1 (StrChars.Road.wideBytes [c0, c1]) (StrChars.lo8 c1) (StrChars.hi8 c1) T21.heap n0 (by omega) O22 (by decide) (by decide) Vt21 rfl rfl) hZ (tw_ hw 200 rfl) (tw_ hw 170 rfl) (by decide) (by decide)) (g := (mkF m 32 #[vr b1, vi (0 : Int32), vi (2 : Int32), vr b11, vi (1 : Int32), vr t21] [(.int (1 : Int32)), (.ref t21)])) rfl (by rw [hml]; rfl) (argsL := [(.ref t21), (.int (1 : Int32))]) (rest := []) (lenOf pd_5 rfl) rfl (own_le rfl) (hb hby d15_32) (fun _ _ => ⟨rfl, rfl, own_le rfl, own_le rfl⟩)
    dsimp only [Pt.U, Pt.locs, Pt.cells, Pt.slots] at X23 l23 y23 z23 st23 hQ23
    subst l23 y23 z23
    obtain ⟨rfl, Nq23, eh23⟩ := hQ23
    have N23 := Fr.app N21 Nq23
    rw [StrChars.pair_says hb1.1 hb1.2] at st23
    refine own_go st23 ?_
    refine own_gs (cur' := T23.setTop (mkF m 56 #[vr b1, vi (0 : Int32), vi (2 : Int32), vr b11, vi (1 : Int32), vr t21] [(.ref t21)])) ?_ ?_
    · refine XS.sipush X23.here hx rfl (hb hby d15_35) ?_
      refine XS.icmpYes X23.here hx rfl (pc0 := 38) (pc' := 54) rfl (hb hby d15_38) rfl (tlt (hbig : (255 : Int32) < c1)).2.2.1 (by decide) (by decide) ?_
      refine XS.aload X23.here hx rfl (hb hby d15_54) rfl rfl ?_
      exact Steps.refl _
    exact own_rA X23 Bd rfl (v := (.ref t21)) rfl (hb hby d15_56) eh23 (⟨_, _, rfl, N23, K22, (by omega), Or.inr ⟨⟨_, List.mem_of_getElem? (i := 1) rfl, hbig⟩, Vt21⟩⟩) rfl rfl
abbrev own_c16 : ByteArray := jdk_52_method_15_code
def own_u_cfa2_0_Q (Z : State) (t1 : Nat) (k1 : ClassId) (vs : List Value) (h0 : Heap) (n0 : Nat) (v : Option Value) (h : Heap) (L : List Loc) : Prop := v = (some (.int (0 : Int32))) ∧ Fr n0 L ∧ h = h0
theorem ef_own_u_cfa2_0 (m : MethodId) (x0 : Nat) (x1 : Int32) : entryFrame m #[(.ref x0), (.int x1)] 2 = mkF m 0 #[vr x0, vi x1] [] := by first | (simp [entryFrame, mkF, argsToLocals, Value.category]; done) | rfl
abbrev own_y16 : MethodName := ⟨"java/lang/StringUTF16", "coderFromArrayLen", "([BI)B"⟩
theorem d16_0 : decode own_c16 0 = .ok (.iload_n 1, 1) := by decide +kernel
theorem d16_1 : decode own_c16 1 = .ok (.aload_n 0, 1) := by decide +kernel
theorem d16_2 : decode own_c16 2 = .ok (.arraylength, 1) := by decide +kernel
theorem d16_3 : decode own_c16 3 = .ok (.isub, 1) := by decide +kernel
theorem d16_4 : decode own_c16 4 = .ok (.bipush 31, 2) := by decide +kernel
theorem d16_6 : decode own_c16 6 = .ok (.iushr, 1) := by decide +kernel
theorem d16_7 : decode own_c16 7 = .ok (.i2b, 1) := by decide +kernel
theorem d16_8 : decode own_c16 8 = .ok (.ireturn, 1) := by decide +kernel
set_option maxRecDepth 65536 in
set_option maxHeartbeats 40000000 in
theorem own_u_cfa2_0 (l : Launch) (Z : State) (a0 : Array Value) (hW : own_W Z a0) (t1 : Nat) (k1 : ClassId) (vs : List Value) (h0 : Heap) (n0 : Nat) (Z0 : n0 ≤ h0.size) (O0 : Old Z n0 h0) (V1 : Arv Z h0 t1 k1 .byte (2 : Int32) vs (.int (0 : Int32))) :
    own_M l own_y16 own_c16 2 (some .byte) (own_r 0 0 0 0) #[(.ref t1), (.int (2 : Int32))] Z h0 (own_u_cfa2_0_Q Z t1 k1 vs h0 n0) := by
  refine own_enter (own := "java/lang/StringUTF16") rfl (plainFor_of_name pn_java_lang_StringUTF16) (fun m => ef_own_u_cfa2_0 m t1 (2 : Int32)) ?_
  intro p e s m below meth c s₁ Bd hZ hh hx hby hml hown hnm X0 e0
  obtain ⟨hw, ⟨G1, O2, P5⟩, ⟨G3, O4, rG3⟩, Oa, Oh, Ol⟩ := id hW
  have N0 := Fr.nil n0
  have K0 := Keep.refl h0 []
  refine own_gs (cur' := s₁.setTop (mkF m 2 #[vr t1, vi (2 : Int32)] [(.ref t1), (.int (2 : Int32))])) ?_ ?_
  · refine XS.iloadN X0.here hx rfl (hb hby d16_0) rfl ?_
    refine XS.aloadN X0.here hx rfl (hb hby d16_1) rfl rfl ?_
    exact Steps.refl _
  obtain ⟨cl11, Ar11, q11, S11, M11, Hs11, G11⟩ := id V1
  refine own_go (X0.arraylength hx (by rw [e0]; exact Ar11.1) (State.isArrayOf_alike hZ.alike Ar11.2.1) (g := (mkF m 2 #[vr t1, vi (2 : Int32)] [(.ref t1), (.int (2 : Int32))])) rfl rfl (hb hby d16_2)) ?_
  rw [len_of S11 M11]
  show own_Fin p e below (s₁.setTop (mkF m 3 #[vr t1, vi (2 : Int32)] [(.int (2 : Int32)), (.int (2 : Int32))])) _
  refine own_gs (cur' := s₁.setTop (mkF m 8 #[vr t1, vi (2 : Int32)] [(.int (0 : Int32))])) ?_ ?_
  · refine XS.isub X0.here hx rfl (hb hby d16_3) rfl ?_
    refine XS.bipush X0.here hx rfl (hb hby d16_4) ?_
    refine XS.iushr X0.here hx rfl (hb hby d16_6) rfl ?_
    refine XS.i2b X0.here hx rfl (hb hby d16_7) rfl ?_
    exact Steps.refl _
  exact own_rN X0 Bd (by simp) (v := (0 : Int32)) rfl (hb hby d16_8) e0 (⟨rfl, N0, rfl⟩) rfl rfl
def own_u_cfa2_1_Q (Z : State) (t1 : Nat) (k1 : ClassId) (vs : List Value) (h0 : Heap) (n0 : Nat) (v : Option Value) (h : Heap) (L : List Loc) : Prop := v = (some (.int (1 : Int32))) ∧ Fr n0 L ∧ h = h0
theorem ef_own_u_cfa2_1 (m : MethodId) (x0 : Nat) (x1 : Int32) : entryFrame m #[(.ref x0), (.int x1)] 2 = mkF m 0 #[vr x0, vi x1] [] := by first | (simp [entryFrame, mkF, argsToLocals, Value.category]; done) | rfl
set_option maxRecDepth 65536 in
set_option maxHeartbeats 40000000 in
theorem own_u_cfa2_1 (l : Launch) (Z : State) (a0 : Array Value) (hW : own_W Z a0) (t1 : Nat) (k1 : ClassId) (vs : List Value) (h0 : Heap) (n0 : Nat) (Z0 : n0 ≤ h0.size) (O0 : Old Z n0 h0) (V1 : Arv Z h0 t1 k1 .byte (4 : Int32) vs (.int (0 : Int32))) :
    own_M l own_y16 own_c16 2 (some .byte) (own_r 0 0 0 0) #[(.ref t1), (.int (2 : Int32))] Z h0 (own_u_cfa2_1_Q Z t1 k1 vs h0 n0) := by
  refine own_enter (own := "java/lang/StringUTF16") rfl (plainFor_of_name pn_java_lang_StringUTF16) (fun m => ef_own_u_cfa2_1 m t1 (2 : Int32)) ?_
  intro p e s m below meth c s₁ Bd hZ hh hx hby hml hown hnm X0 e0
  obtain ⟨hw, ⟨G1, O2, P5⟩, ⟨G3, O4, rG3⟩, Oa, Oh, Ol⟩ := id hW
  have N0 := Fr.nil n0
  have K0 := Keep.refl h0 []
  refine own_gs (cur' := s₁.setTop (mkF m 2 #[vr t1, vi (2 : Int32)] [(.ref t1), (.int (2 : Int32))])) ?_ ?_
  · refine XS.iloadN X0.here hx rfl (hb hby d16_0) rfl ?_
    refine XS.aloadN X0.here hx rfl (hb hby d16_1) rfl rfl ?_
    exact Steps.refl _
  obtain ⟨cl11, Ar11, q11, S11, M11, Hs11, G11⟩ := id V1
  refine own_go (X0.arraylength hx (by rw [e0]; exact Ar11.1) (State.isArrayOf_alike hZ.alike Ar11.2.1) (g := (mkF m 2 #[vr t1, vi (2 : Int32)] [(.ref t1), (.int (2 : Int32))])) rfl rfl (hb hby d16_2)) ?_
  rw [len_of S11 M11]
  show own_Fin p e below (s₁.setTop (mkF m 3 #[vr t1, vi (2 : Int32)] [(.int (4 : Int32)), (.int (2 : Int32))])) _
  refine own_gs (cur' := s₁.setTop (mkF m 8 #[vr t1, vi (2 : Int32)] [(.int (1 : Int32))])) ?_ ?_
  · refine XS.isub X0.here hx rfl (hb hby d16_3) rfl ?_
    refine XS.bipush X0.here hx rfl (hb hby d16_4) ?_
    refine XS.iushr X0.here hx rfl (hb hby d16_6) rfl ?_
    refine XS.i2b X0.here hx rfl (hb hby d16_7) rfl ?_
    exact Steps.refl _
  exact own_rN X0 Bd (by simp) (v := (1 : Int32)) rfl (hb hby d16_8) e0 (⟨rfl, N0, rfl⟩) rfl rfl
def own_u_new4_2_Q (Z : State) (x1 b1 : Nat) (v0 c0_ : Value) (k1 : ClassId) (c0 c1 : Int32) (h0 : Heap) (n0 : Nat) (v : Option Value) (h : Heap) (L : List Loc) : Prop := v = none ∧ Fr n0 L ∧ Keep h0 h [x1] ∧ ∃ t : Nat, x1 ≠ t ∧ own_Str Z h x1 t [c0, c1]
theorem ef_own_u_new4_2 (m : MethodId) (x0 : Nat) (x1 : Nat) (x2 : Int32) (x3 : Int32) : entryFrame m #[(.ref x0), (.ref x1), (.int x2), (.int x3), .null] 6 = mkF m 0 #[vr x0, vr x1, vi x2, vi x3, vn, .unset] [] := by first | (simp [entryFrame, mkF, argsToLocals, Value.category]; done) | rfl
theorem d0_27 : decode own_c0 27 = .ok (.getstatic 38, 3) := by decide +kernel
theorem d0_30 : decode own_c0 30 = .ok (.ifCond .eq 28, 3) := by decide +kernel
theorem d0_33 : decode own_c0 33 = .ok (.aload_n 1, 1) := by decide +kernel
theorem d0_34 : decode own_c0 34 = .ok (.iload_n 2, 1) := by decide +kernel
theorem d0_35 : decode own_c0 35 = .ok (.iload_n 3, 1) := by decide +kernel
theorem d0_36 : decode own_c0 36 = .ok (.invokestatic 177, 3) := by decide +kernel
theorem d0_39 : decode own_c0 39 = .ok (.astore 5, 2) := by decide +kernel
theorem d0_41 : decode own_c0 41 = .ok (.aload_n 0, 1) := by decide +kernel
theorem d0_42 : decode own_c0 42 = .ok (.aload 5, 2) := by decide +kernel
theorem d0_44 : decode own_c0 44 = .ok (.iload_n 3, 1) := by decide +kernel
theorem d0_45 : decode own_c0 45 = .ok (.invokestatic 47, 3) := by decide +kernel
theorem pd_12 : parseMethodDescriptor "([BI)B" = some ⟨[(.array .byte), .int], some .byte⟩ := by decide +kernel
theorem d0_48 : decode own_c0 48 = .ok (.putfield 15, 3) := by decide +kernel
theorem d0_51 : decode own_c0 51 = .ok (.aload_n 0, 1) := by decide +kernel
theorem d0_52 : decode own_c0 52 = .ok (.aload 5, 2) := by decide +kernel
theorem d0_54 : decode own_c0 54 = .ok (.putfield 9, 3) := by decide +kernel
theorem d0_57 : decode own_c0 57 = .ok (.return_, 1) := by decide +kernel
set_option maxRecDepth 65536 in
set_option maxHeartbeats 40000000 in
theorem own_u_new4_2 (l : Launch) (Z : State) (a0 : Array Value) (hW : own_W Z a0) (x1 b1 : Nat) (v0 c0_ : Value) (k1 : ClassId) (c0 c1 : Int32) (h0 : Heap) (n0 : Nat) (Z0 : n0 ≤ h0.size) (O0 : Old Z n0 h0) (E1 : Exa Z h0 x1 "java/lang/String") (Fv1 : Fld Z h0 x1 "java/lang/String" "value" "[B" v0) (Fc1 : Fld Z h0 x1 "java/lang/String" "coder" "B" c0_) (g1 : n0 ≤ x1) (V1 : Arv Z h0 b1 k1 .char (2 : Int32) [(.int c0), (.int c1)] (.int (0 : Int32))) (hb0 : ¬ c0 < 0 ∧ ¬ (65535 : Int32) < c0) (hb1 : ¬ c1 < 0 ∧ ¬ (65535 : Int32) < c1) :
    own_M l own_y0 own_c0 6 none (own_r 4 2 6 57) #[(.ref x1), (.ref b1), (.int (0 : Int32)), (.int (2 : Int32)), .null] Z h0 (own_u_new4_2_Q Z x1 b1 v0 c0_ k1 c0 c1 h0 n0) := by
  refine own_enter (own := "java/lang/String") rfl (plainFor_of_name pn_java_lang_String) (fun m => ef_own_u_new4_2 m x1 b1 (0 : Int32) (2 : Int32)) ?_
  intro p e s m below meth c s₁ Bd hZ hh hx hby hml hown hnm X0 e0
  obtain ⟨hw, ⟨G1, O2, P5⟩, ⟨G3, O4, rG3⟩, Oa, Oh, Ol⟩ := id hW
  have N0 := Fr.nil n0
  have K0 := Keep.refl h0 [x1]
  have lt1 := own_lt E1.lt
  have lt1 := own_lt V1.lt
  have hbd : ∀ c ∈ ([c0, c1] : List Int32), ¬ c < 0 ∧ ¬ (65535 : Int32) < c := by
    intro c hc
    simp only [List.mem_cons, List.not_mem_nil, or_false] at hc
    rcases hc with rfl | rfl
    · exact hb0
    · exact hb1
  refine own_gs (cur' := s₁.setTop (mkF m 1 #[vr x1, vr b1, vi (0 : Int32), vi (2 : Int32), vn, uu] [(.ref x1)])) ?_ ?_
  · refine XS.aloadN X0.here hx rfl (hb hby d0_0) rfl rfl ?_
    exact Steps.refl _
  obtain ⟨T11, X11, e11, st11⟩ := initO X0 hx hZ hown (tw_ hw 26 rfl) (tw_ hw 27 rfl) (tw_ hw 28 rfl) e0 (g := (mkF m 1 #[vr x1, vr b1, vi (0 : Int32), vi (2 : Int32), vn, uu] [(.ref x1)])) rfl (by rw [hml]; rfl) rfl (hb hby d0_1) (by decide) (W := 0) (own_le rfl) (by decide)
  refine own_go st11 ?_
  refine own_gs (cur' := T11.setTop (mkF m 27 #[vr x1, vr b1, vi (0 : Int32), vi (2 : Int32), vn, uu] [])) ?_ ?_
  · refine XS.iloadN X11.here hx rfl (hb hby d0_4) rfl ?_
    refine XS.ifYes X11.here hx rfl (pc0 := 5) (pc' := 27) rfl (hb hby d0_5) rfl ((if0 _ _).trans (feq ((by decide) : ¬ ((2 : Int32) = (0 : Int32)))).2) (by decide) (by decide) ?_
    exact Steps.refl _
  obtain ⟨T12, X12, e12, st12⟩ := getS2 X11 hx hZ hown (host := "") (Or.inl (tw_ hw 11 rfl)) Via.refl e11 (O2.ext O0.2) (g := (mkF m 27 #[vr x1, vr b1, vi (0 : Int32), vi (2 : Int32), vn, uu] [])) rfl (hb hby d0_27)
  refine own_go st12 ?_
  refine own_gs (cur' := T12.setTop (mkF m 36 #[vr x1, vr b1, vi (0 : Int32), vi (2 : Int32), vn, uu] [(.int (2 : Int32)), (.int (0 : Int32)), (.ref b1)])) ?_ ?_
  · refine XS.ifNo X12.here hx rfl (hb hby d0_30) rfl ((if0 _ _).trans (feq (P5 : ¬ (G1 = (0 : Int32)))).1) ?_
    refine XS.aloadN X12.here hx rfl (hb hby d0_33) rfl rfl ?_
    refine XS.iloadN X12.here hx rfl (hb hby d0_34) rfl ?_
    refine XS.iloadN X12.here hx rfl (hb hby d0_35) rfl ?_
    exact Steps.refl _
  obtain ⟨_, _, ⟨T13, L13, k13, n13⟩, -, X13, ⟨Lc13, hQ13, l13, y13, z13⟩, st13⟩ := Jvm.LawKit.callS X12 hx (y := own_y15) hown (mvT hZ (tw_ hw 168 rfl)) (mvT hZ (tw_ hw 169 rfl)) (mvT hZ (tw_ hw 170 rfl)) (mvT hZ (tw_ hw 171 rfl)) (by decide) (backOf (W := 0) (own_u_cmpr2 l Z a0 hW b1 k1 c0 c1 h0 n0 (by omega) O0 V1 hb0 hb1) hZ (tw_ hw 171 rfl) (tw_ hw 170 rfl) (by decide) (by decide)) (g := (mkF m 36 #[vr x1, vr b1, vi (0 : Int32), vi (2 : Int32), vn, uu] [(.int (2 : Int32)), (.int (0 : Int32)), (.ref b1)])) rfl (by rw [hml]; rfl) (argsL := [(.ref b1), (.int (0 : Int32)), (.int (2 : Int32))]) (rest := []) (lenOf pd_11 rfl) rfl (own_le rfl) (hb hby d0_36) (fun _ _ => ⟨rfl, e12, own_le rfl, own_le rfl⟩)
  dsimp only [Pt.U, Pt.locs, Pt.cells, Pt.slots] at X13 l13 y13 z13 st13 hQ13
  subst l13 y13 z13
  obtain ⟨t13, kb13, rfl, Nq13, Kq13, ge13, hor⟩ := hQ13
  have N13 := Fr.app N0 Nq13
  have z14 := Kq13.1
  have K14 := K0.trans Kq13 all0
  have O14 := O0.keep Kq13 all0
  rcases hor with ⟨hal, Vt⟩ | ⟨hbig, Vt⟩
  · have ltt := own_lt Vt.lt
    refine own_go st13 ?_
    show own_Fin p e below (T13.setTop (mkF m 39 #[vr x1, vr b1, vi (0 : Int32), vi (2 : Int32), vn, uu] [(.ref t13)])) _
    refine own_gs (cur' := T13.setTop (mkF m 45 #[vr x1, vr b1, vi (0 : Int32), vi (2 : Int32), vn, vr t13] [(.int (2 : Int32)), (.ref t13), (.ref x1)])) ?_ ?_
    · refine XS.astore X13.here hx rfl (hb hby d0_39) rfl rfl (l' := #[vr x1, vr b1, vi (0 : Int32), vi (2 : Int32), vn, vr t13]) rfl ?_
      refine XS.aloadN X13.here hx rfl (hb hby d0_41) rfl rfl ?_
      refine XS.aload X13.here hx rfl (hb hby d0_42) rfl rfl ?_
      refine XS.iloadN X13.here hx rfl (hb hby d0_44) rfl ?_
      exact Steps.refl _
    obtain ⟨_, _, ⟨T15, L15, k15, n15⟩, -, X15, ⟨Lc15, hQ15, l15, y15, z15⟩, st15⟩ := Jvm.LawKit.callS X13 hx (y := own_y16) hown (mvT hZ (tw_ hw 175 rfl)) (mvT hZ (tw_ hw 176 rfl)) (mvT hZ (tw_ hw 170 rfl)) (mvT hZ (tw_ hw 177 rfl)) (by decide) (backOf (W := 1) (own_u_cfa2_0 l Z a0 hW t13 kb13 _ T13.heap n0 (by omega) O14 Vt) hZ (tw_ hw 177 rfl) (tw_ hw 170 rfl) (by decide) (by decide)) (g := (mkF m 45 #[vr x1, vr b1, vi (0 : Int32), vi (2 : Int32), vn, vr t13] [(.int (2 : Int32)), (.ref t13), (.ref x1)])) rfl (by rw [hml]; rfl) (argsL := [(.ref t13), (.int (2 : Int32))]) (rest := [(.ref x1)]) (lenOf pd_12 rfl) rfl (own_le rfl) (hb hby d0_45) (fun _ _ => ⟨rfl, rfl, own_le rfl, own_le rfl⟩)
    dsimp only [Pt.U, Pt.locs, Pt.cells, Pt.slots] at X15 l15 y15 z15 st15 hQ15
    subst l15 y15 z15
    obtain ⟨rfl, Nq15, eh15⟩ := hQ15
    have N15 := Fr.app N13 Nq15
    refine own_go st15 ?_
    have f17 := (Fc1.keep Kq13 nin0)
    have f18 := (E1.keep Kq13)
    obtain ⟨T16, h16, X16, e16, W16, st16⟩ := putF X15 hx hZ hown (host := "") (Or.inl (tw_ hw 31 rfl)) Via.refl eh15 f17 f18 (Or.inr ⟨(tw_ hw 32 rfl), rfl, hnm⟩) (tw_ hw 17 rfl) (ty := .byte) (by decide) rfl rfl (g := (mkF m 48 #[vr x1, vr b1, vi (0 : Int32), vi (2 : Int32), vn, vr t13] [(.int (0 : Int32)), (.ref x1)])) rfl rfl (hb hby d0_48)
    have F16 := f17.same W16
    refine own_go st16 ?_
    have z19 := W16.size
    have K19 := K14.wr W16 (Or.inl (List.mem_of_getElem? (i := 0) rfl))
    have O19 := O14.wr W16 (by omega)
    have N19 := Fr.snoc X16 N15 (by omega)
    refine own_gs (cur' := T16.setTop (mkF m 54 #[vr x1, vr b1, vi (0 : Int32), vi (2 : Int32), vn, vr t13] [(.ref t13), (.ref x1)])) ?_ ?_
    · refine XS.aloadN X16.here hx rfl (hb hby d0_51) rfl rfl ?_
      refine XS.aload X16.here hx rfl (hb hby d0_52) rfl rfl ?_
      exact Steps.refl _
    have f21 := ((Fv1.keep Kq13 nin0).other W16 (Or.inr (slot_ne (Or.inr (tw_ hw 30 rfl)) (Or.inr (tw_ hw 32 rfl)) (by decide) (t := (.array .byte)) (t' := .byte) (by decide) (by decide))))
    have f22 := (f18.wr W16)
    obtain ⟨T20, h20, X20, e20, W20, st20⟩ := putF X16 hx hZ hown (host := "") (Or.inl (tw_ hw 29 rfl)) Via.refl e16 f21 f22 (Or.inr ⟨(tw_ hw 30 rfl), rfl, hnm⟩) (tw_ hw 17 rfl) (ty := (.array .byte)) (by decide) rfl rfl (g := (mkF m 54 #[vr x1, vr b1, vi (0 : Int32), vi (2 : Int32), vn, vr t13] [(.ref t13), (.ref x1)])) rfl rfl (hb hby d0_54)
    have F20 := f21.same W20
    refine own_go st20 ?_
    have z23 := W20.size
    have K23 := K19.wr W20 (Or.inl (List.mem_of_getElem? (i := 0) rfl))
    have O23 := O19.wr W20 (by omega)
    have N23 := Fr.snoc X20 N19 (by omega)
    have f24 := (f22.wr W20)
    have f25 := (F16.other W20 (Or.inr (slot_ne (Or.inr (tw_ hw 32 rfl)) (Or.inr (tw_ hw 30 rfl)) (by decide) (t := .byte) (t' := (.array .byte)) (by decide) (by decide))))
    have f26 := ((Vt.other W16 (own_ne (a := t13) (b := x1) (by omega))).other W20 (own_ne (a := t13) (b := x1) (by omega)))
    exact own_rV X20 Bd (hb hby d0_57) e20 (⟨rfl, N23, K23, t13, (by omega), ⟨_, _, _, _, f24, F20, f25, f26, Or.inl ⟨rfl, rfl, rfl, hal⟩, hbd, Nat.le_of_ble_eq_true rfl⟩⟩) rfl rfl
  · have ltt := own_lt Vt.lt
    refine own_go st13 ?_
    show own_Fin p e below (T13.setTop (mkF m 39 #[vr x1, vr b1, vi (0 : Int32), vi (2 : Int32), vn, uu] [(.ref t13)])) _
    refine own_gs (cur' := T13.setTop (mkF m 45 #[vr x1, vr b1, vi (0 : Int32), vi (2 : Int32), vn, vr t13] [(.int (2 : Int32)), (.ref t13), (.ref x1)])) ?_ ?_
    · refine XS.astore X13.here hx rfl (hb hby d0_39) rfl rfl (l' := #[vr x1, vr b1, vi (0 : Int32), vi (2 : Int32), vn, vr t13]) rfl ?_
      refine XS.aloadN X13.here hx rfl (hb hby d0_41) rfl rfl ?_
      refine XS.aload X13.here hx rfl (hb hby d0_42) rfl rfl ?_
      refine XS.iloadN X13.here hx rfl (hb hby d0_44) rfl ?_
      exact Steps.refl _
    obtain ⟨_, _, ⟨T27, L27, k27, n27⟩, -, X27, ⟨Lc27, hQ27, l27, y27, z27⟩, st27⟩ := Jvm.LawKit.callS X13 hx (y := own_y16) hown (mvT hZ (tw_ hw 175 rfl)) (mvT hZ (tw_ hw 176 rfl)) (mvT hZ (tw_ hw 170 rfl)) (mvT hZ (tw_ hw 177 rfl)) (by decide) (backOf (W := 1) (own_u_cfa2_1 l Z a0 hW t13 kb13 _ T13.heap n0 (by omega) O14 Vt) hZ (tw_ hw 177 rfl) (tw_ hw 170 rfl) (by decide) (by decide)) (g := (mkF m 45 #[vr x1, vr b1, vi (0 : Int32), vi (2 : Int32), vn, vr t13] [(.int (2 : Int32)), (.ref t13), (.ref x1)])) rfl (by rw [hml]; rfl) (argsL := [(.ref t13), (.int (2 : Int32))]) (rest := [(.ref x1)]) (lenOf pd_12 rfl) rfl (own_le rfl) (hb hby d0_45) (fun _ _ => ⟨rfl, rfl, own_le rfl, own_le rfl⟩)
    dsimp only [Pt.U, Pt.locs, Pt.cells, Pt.slots] at X27 l27 y27 z27 st27 hQ27
    subst l27 y27 z27
    obtain ⟨rfl, Nq27, eh27⟩ := hQ27
    have N27 := Fr.app N13 Nq27
    refine own_go st27 ?_
    have f29 := (Fc1.keep Kq13 nin0)
    have f30 := (E1.keep Kq13)
    obtain ⟨T28, h28, X28, e28, W28, st28⟩ := putF X27 hx hZ hown (host := "") (Or.inl (tw_ hw 31 rfl)) Via.refl eh27 f29 f30 (Or.inr ⟨(tw_ hw 32 rfl), rfl, hnm⟩) (tw_ hw 17 rfl) (ty := .byte) (by decide) rfl rfl (g := (mkF m 48 #[vr x1, vr b1, vi (0 : Int32), vi (2 : Int32), vn, vr t13] [(.int (1 : Int32)), (.ref x1)])) rfl rfl (hb hby d0_48)
    have F28 := f29.same W28
    refine own_go st28 ?_
    have z31 := W28.size
    have K31 := K14.wr W28 (Or.inl (List.mem_of_getElem? (i := 0) rfl))
    have O31 := O14.wr W28 (by omega)
    have N31 := Fr.snoc X28 N27 (by omega)
    refine own_gs (cur' := T28.setTop (mkF m 54 #[vr x1, vr b1, vi (0 : Int32), vi (2 : Int32), vn, vr t13] [(.ref t13), (.ref x1)])) ?_ ?_
    · refine XS.aloadN X28.here hx rfl (hb hby d0_51) rfl rfl ?_
      refine XS.aload X28.here hx rfl (hb hby d0_52) rfl rfl ?_
      exact Steps.refl _
    have f33 := ((Fv1.keep Kq13 nin0).other W28 (Or.inr (slot_ne (Or.inr (tw_ hw 30 rfl)) (Or.inr (tw_ hw 32 rfl)) (by decide) (t := (.array .byte)) (t' := .byte) (by decide) (by decide))))
    have f34 := (f30.wr W28)
    obtain ⟨T32, h32, X32, e32, W32, st32⟩ := putF X28 hx hZ hown (host := "") (Or.inl (tw_ hw 29 rfl)) Via.refl e28 f33 f34 (Or.inr ⟨(tw_ hw 30 rfl), rfl, hnm⟩) (tw_ hw 17 rfl) (ty := (.array .byte)) (by decide) rfl rfl (g := (mkF m 54 #[vr x1, vr b1, vi (0 : Int32), vi (2 : Int32), vn, vr t13] [(.ref t13), (.ref x1)])) rfl rfl (hb hby d0_54)
    have F32 := f33.same W32
    refine own_go st32 ?_
    have z35 := W32.size
    have K35 := K31.wr W32 (Or.inl (List.mem_of_getElem? (i := 0) rfl))
    have O35 := O31.wr W32 (by omega)
    have N35 := Fr.snoc X32 N31 (by omega)
    have f36 := (f34.wr W32)
    have f37 := (F28.other W32 (Or.inr (slot_ne (Or.inr (tw_ hw 32 rfl)) (Or.inr (tw_ hw 30 rfl)) (by decide) (t := .byte) (t' := (.array .byte)) (by decide) (by decide))))
    have f38 := ((Vt.other W28 (own_ne (a := t13) (b := x1) (by omega))).other W32 (own_ne (a := t13) (b := x1) (by omega)))
    exact own_rV X32 Bd (hb hby d0_57) e32 (⟨rfl, N35, K35, t13, (by omega), ⟨_, _, _, _, f36, F32, f37, f38, Or.inr ⟨rfl, rfl, rfl, hbig⟩, hbd, Nat.le_of_ble_eq_true rfl⟩⟩) rfl rfl
def own_u_new1_2_Q (Z : State) (x1 b1 : Nat) (v0 c0_ : Value) (k1 : ClassId) (c0 c1 : Int32) (h0 : Heap) (n0 : Nat) (v : Option Value) (h : Heap) (L : List Loc) : Prop := v = none ∧ Fr n0 L ∧ Keep h0 h [x1] ∧ ∃ t : Nat, x1 ≠ t ∧ own_Str Z h x1 t [c0, c1]
theorem ef_own_u_new1_2 (m : MethodId) (x0 : Nat) (x1 : Nat) : entryFrame m #[(.ref x0), (.ref x1)] 2 = mkF m 0 #[vr x0, vr x1] [] := by first | (simp [entryFrame, mkF, argsToLocals, Value.category]; done) | rfl
set_option maxRecDepth 65536 in
set_option maxHeartbeats 40000000 in
theorem own_u_new1_2 (l : Launch) (Z : State) (a0 : Array Value) (hW : own_W Z a0) (x1 b1 : Nat) (v0 c0_ : Value) (k1 : ClassId) (c0 c1 : Int32) (h0 : Heap) (n0 : Nat) (Z0 : n0 ≤ h0.size) (O0 : Old Z n0 h0) (E1 : Exa Z h0 x1 "java/lang/String") (Fv1 : Fld Z h0 x1 "java/lang/String" "value" "[B" v0) (Fc1 : Fld Z h0 x1 "java/lang/String" "coder" "B" c0_) (g1 : n0 ≤ x1) (V1 : Arv Z h0 b1 k1 .char (2 : Int32) [(.int c0), (.int c1)] (.int (0 : Int32))) (hb0 : ¬ c0 < 0 ∧ ¬ (65535 : Int32) < c0) (hb1 : ¬ c1 < 0 ∧ ¬ (65535 : Int32) < c1) :
    own_M l own_y1 own_c1 2 none (own_r 5 2 6 74) #[(.ref x1), (.ref b1)] Z h0 (own_u_new1_2_Q Z x1 b1 v0 c0_ k1 c0 c1 h0 n0) := by
  refine own_enter (own := "java/lang/String") rfl (plainFor_of_name pn_java_lang_String) (fun m => ef_own_u_new1_2 m x1 b1) ?_
  intro p e s m below meth c s₁ Bd hZ hh hx hby hml hown hnm X0 e0
  obtain ⟨hw, ⟨G1, O2, P5⟩, ⟨G3, O4, rG3⟩, Oa, Oh, Ol⟩ := id hW
  have N0 := Fr.nil n0
  have K0 := Keep.refl h0 [x1]
  have lt1 := own_lt E1.lt
  have lt1 := own_lt V1.lt
  refine own_gs (cur' := s₁.setTop (mkF m 4 #[vr x1, vr b1] [(.ref b1), (.int (0 : Int32)), (.ref b1), (.ref x1)])) ?_ ?_
  · refine XS.aloadN X0.here hx rfl (hb hby d1_0) rfl rfl ?_
    refine XS.aloadN X0.here hx rfl (hb hby d1_1) rfl rfl ?_
    refine XS.iconst X0.here hx rfl (hb hby d1_2) ?_
    refine XS.aloadN X0.here hx rfl (hb hby d1_3) rfl rfl ?_
    exact Steps.refl _
  obtain ⟨cl11, Ar11, q11, S11, M11, Hs11, G11⟩ := id V1
  refine own_go (X0.arraylength hx (by rw [e0]; exact Ar11.1) (State.isArrayOf_alike hZ.alike Ar11.2.1) (g := (mkF m 4 #[vr x1, vr b1] [(.ref b1), (.int (0 : Int32)), (.ref b1), (.ref x1)])) rfl rfl (hb hby d1_4)) ?_
  rw [len_of S11 M11]
  show own_Fin p e below (s₁.setTop (mkF m 5 #[vr x1, vr b1] [(.int (2 : Int32)), (.int (0 : Int32)), (.ref b1), (.ref x1)])) _
  refine own_gs (cur' := s₁.setTop (mkF m 6 #[vr x1, vr b1] [.null, (.int (2 : Int32)), (.int (0 : Int32)), (.ref b1), (.ref x1)])) ?_ ?_
  · refine XS.aconstNull X0.here hx rfl (hb hby d1_5) ?_
    exact Steps.refl _
  obtain ⟨_, _, ⟨T12, L12, k12, n12⟩, -, X12, ⟨Lc12, hQ12, l12, y12, z12⟩, st12⟩ := X0.specialBack hx (y := own_y0) rfl hown (mvT hZ (tw_ hw 165 rfl)) (mvT hZ (tw_ hw 166 rfl)) (mvT hZ (tw_ hw 167 rfl)) (by decide) (backOf (W := 0) (own_u_new4_2 l Z a0 hW x1 b1 v0 c0_ k1 c0 c1 h0 n0 (by omega) O0 E1 Fv1 Fc1 g1 V1 hb0 hb1) hZ (tw_ hw 167 rfl) (tw_ hw 9 rfl) (by decide) (by decide)) (g := (mkF m 6 #[vr x1, vr b1] [.null, (.int (2 : Int32)), (.int (0 : Int32)), (.ref b1), (.ref x1)])) rfl (by rw [hml]; rfl) (Steps.refl _) (a := x1) (argsL := [(.ref b1), (.int (0 : Int32)), (.int (2 : Int32)), .null]) (rest := []) (lenOf pd_0 rfl) rfl (own_le rfl) (hb hby d1_6) (fun _ _ => ⟨rfl, e0, own_le rfl, own_le rfl⟩)
  dsimp only [Pt.U, Pt.locs, Pt.cells, Pt.slots] at X12 l12 y12 z12 st12 hQ12
  subst l12 y12 z12
  obtain ⟨rfl, Nq12, Kq12, tq, hne, F12⟩ := hQ12
  have N12 := Fr.app N0 Nq12
  have z13 := Kq12.1
  have K13 := K0.trans Kq12 (allS (Or.inl (List.mem_of_getElem? (i := 0) rfl)) all0)
  have O13 := O0.keep Kq12 (allS (by omega) all0)
  refine own_gs st12 ?_
  exact own_rV X12 Bd (hb hby d1_9) rfl (⟨rfl, N12, K13, tq, hne, F12⟩) rfl rfl
def own_u_nbl3_Q (Z : State)  (h0 : Heap) (n0 : Nat) (v : Option Value) (h : Heap) (L : List Loc) : Prop := v = (some (.int (6 : Int32))) ∧ Fr n0 L ∧ h = h0
theorem ef_own_u_nbl3 (m : MethodId) (x0 : Int32) : entryFrame m #[(.int x0)] 1 = mkF m 0 #[vi x0] [] := by first | (simp [entryFrame, mkF, argsToLocals, Value.category]; done) | rfl
set_option maxRecDepth 65536 in
set_option maxHeartbeats 40000000 in
theorem own_u_nbl3 (l : Launch) (Z : State) (a0 : Array Value) (hW : own_W Z a0)  (h0 : Heap) (n0 : Nat) (Z0 : n0 ≤ h0.size) (O0 : Old Z n0 h0)  :
    own_M l own_y11 own_c11 1 (some .int) (own_r 0 0 0 0) #[(.int (3 : Int32))] Z h0 (own_u_nbl3_Q Z  h0 n0) := by
  refine own_enter (own := "java/lang/StringUTF16") rfl (plainFor_of_name pn_java_lang_StringUTF16) (fun m => ef_own_u_nbl3 m (3 : Int32)) ?_
  intro p e s m below meth c s₁ Bd hZ hh hx hby hml hown hnm X0 e0
  obtain ⟨hw, ⟨G1, O2, P5⟩, ⟨G3, O4, rG3⟩, Oa, Oh, Ol⟩ := id hW
  have N0 := Fr.nil n0
  have K0 := Keep.refl h0 []
  refine own_gs (cur' := s₁.setTop (mkF m 58 #[vi (3 : Int32)] [(.int (6 : Int32))])) ?_ ?_
  · refine XS.iloadN X0.here hx rfl (hb hby d11_0) rfl ?_
    refine XS.ifYes X0.here hx rfl (pc0 := 1) (pc' := 12) rfl (hb hby d11_1) rfl ((if0 _ _).trans (flt ((by decide) : ¬ ((3 : Int32) < (0 : Int32)))).2.1) (by decide) (by decide) ?_
    refine XS.iloadN X0.here hx rfl (hb hby d11_12) rfl ?_
    refine X0.ldcInt hx hown (mvT hZ (tw_ hw 191 rfl)) (g := (mkF m 13 #[vi (3 : Int32)] [(.int (3 : Int32))])) rfl (hb hby d11_13) _ ?_
    refine XS.icmpYes X0.here hx rfl (pc0 := 15) (pc' := 55) rfl (hb hby d11_15) rfl (tlt ((by decide) : (3 : Int32) < (1073741823 : Int32))).1 (by decide) (by decide) ?_
    refine XS.iloadN X0.here hx rfl (hb hby d11_55) rfl ?_
    refine XS.iconst X0.here hx rfl (hb hby d11_56) ?_
    refine XS.ishl X0.here hx rfl (hb hby d11_57) rfl ?_
    exact Steps.refl _
  exact own_rI X0 Bd (hb hby d11_58) e0 (⟨rfl, N0, rfl⟩) rfl rfl
def own_u_nbf3_Q (Z : State)  (h0 : Heap) (n0 : Nat) (v : Option Value) (h : Heap) (L : List Loc) : Prop := ∃ (t : Nat) (kb : ClassId), v = some (.ref t) ∧ Fr n0 L ∧ Keep h0 h [] ∧ Arv Z h t kb .byte (6 : Int32) [(.int (0 : Int32)), (.int (0 : Int32)), (.int (0 : Int32)), (.int (0 : Int32)), (.int (0 : Int32)), (.int (0 : Int32))] (.int (0 : Int32)) ∧ h0.size ≤ t
theorem ef_own_u_nbf3 (m : MethodId) (x0 : Int32) : entryFrame m #[(.int x0)] 1 = mkF m 0 #[vi x0] [] := by first | (simp [entryFrame, mkF, argsToLocals, Value.category]; done) | rfl
set_option maxRecDepth 65536 in
set_option maxHeartbeats 40000000 in
theorem own_u_nbf3 (l : Launch) (Z : State) (a0 : Array Value) (hW : own_W Z a0)  (h0 : Heap) (n0 : Nat) (Z0 : n0 ≤ h0.size) (O0 : Old Z n0 h0)  :
    own_M l own_y12 own_c12 1 (some (.array .byte)) (own_r 1 1 6 12) #[(.int (3 : Int32))] Z h0 (own_u_nbf3_Q Z  h0 n0) := by
  refine own_enter (own := "java/lang/StringUTF16") rfl (plainFor_of_name pn_java_lang_StringUTF16) (fun m => ef_own_u_nbf3 m (3 : Int32)) ?_
  intro p e s m below meth c s₁ Bd hZ hh hx hby hml hown hnm X0 e0
  obtain ⟨hw, ⟨G1, O2, P5⟩, ⟨G3, O4, rG3⟩, Oa, Oh, Ol⟩ := id hW
  have N0 := Fr.nil n0
  have K0 := Keep.refl h0 []
  refine own_gs (cur' := s₁.setTop (mkF m 1 #[vi (3 : Int32)] [(.int (3 : Int32))])) ?_ ?_
  · refine XS.iloadN X0.here hx rfl (hb hby d12_0) rfl ?_
    exact Steps.refl _
  obtain ⟨_, _, ⟨T11, L11, k11, n11⟩, -, X11, ⟨Lc11, hQ11, l11, y11, z11⟩, st11⟩ := Jvm.LawKit.callS X0 hx (y := own_y11) hown (mvT hZ (tw_ hw 188 rfl)) (mvT hZ (tw_ hw 189 rfl)) (mvT hZ (tw_ hw 170 rfl)) (mvT hZ (tw_ hw 190 rfl)) (by decide) (backOf (W := 0) (own_u_nbl3 l Z a0 hW h0 n0 (by omega) O0) hZ (tw_ hw 190 rfl) (tw_ hw 170 rfl) (by decide) (by decide)) (g := (mkF m 1 #[vi (3 : Int32)] [(.int (3 : Int32))])) rfl (by rw [hml]; rfl) (argsL := [(.int (3 : Int32))]) (rest := []) (lenOf pd_7 rfl) rfl (own_le rfl) (hb hby d12_1) (fun _ _ => ⟨rfl, e0, own_le rfl, own_le rfl⟩)
  dsimp only [Pt.U, Pt.locs, Pt.cells, Pt.slots] at X11 l11 y11 z11 st11 hQ11
  subst l11 y11 z11
  obtain ⟨rfl, Nq11, eh11⟩ := hQ11
  have N11 := Fr.app N0 Nq11
  refine own_go st11 ?_
  obtain ⟨T12, h12, k12, X12, e12, E12, A12, Eb12, st12⟩ := newPE X11 hx hZ (tw_ hw 21 rfl) eh11 (g := (mkF m 4 #[vi (3 : Int32)] [(.int (6 : Int32))])) rfl (hb hby d12_4) rfl (by decide) (cap := 6) (by decide) (by decide) (by decide) (by decide) (ad := "[B") rfl
  obtain ⟨b12, g12⟩ : ∃ z, z = h0.size := ⟨_, rfl⟩
  rw [← g12] at A12 st12
  have lt12 := own_lt A12.lt
  refine own_go st12 ?_
  have z13 := E12.1
  have K13 := K0.ext E12
  have O13 := O0.ext E12
  have V12 : Arv Z h12 b12 k12 .byte (6 : Int32) [(.int (0 : Int32)), (.int (0 : Int32)), (.int (0 : Int32)), (.int (0 : Int32)), (.int (0 : Int32)), (.int (0 : Int32))] (.int (0 : Int32)) := (Arv.new A12 (by decide)).pad (pad_rep [] (.int (0 : Int32)) 6)
  rw [← g12] at Eb12
  have fc12 := own_fcB V12 Eb12
  exact own_rA X12 Bd rfl (v := (.ref b12)) rfl (hb hby d12_6) e12 (⟨_, _, rfl, N11, K13, V12, (by omega)⟩) rfl rfl
def own_u_tob3_Q (Z : State) (b1 : Nat) (k1 : ClassId) (c0 c1 c2 : Int32) (h0 : Heap) (n0 : Nat) (v : Option Value) (h : Heap) (L : List Loc) : Prop := ∃ (t : Nat) (kb : ClassId), v = some (.ref t) ∧ Fr n0 L ∧ Keep h0 h [] ∧ Arv Z h t kb .byte (6 : Int32) (StrChars.Road.wideBytes [c0, c1, c2]) (.int (0 : Int32)) ∧ h0.size ≤ t
theorem ef_own_u_tob3 (m : MethodId) (x0 : Nat) (x1 : Int32) (x2 : Int32) : entryFrame m #[(.ref x0), (.int x1), (.int x2)] 5 = mkF m 0 #[vr x0, vi x1, vi x2, .unset, .unset] [] := by first | (simp [entryFrame, mkF, argsToLocals, Value.category]; done) | rfl
set_option maxRecDepth 65536 in
set_option maxHeartbeats 40000000 in
theorem own_u_tob3 (l : Launch) (Z : State) (a0 : Array Value) (hW : own_W Z a0) (b1 : Nat) (k1 : ClassId) (c0 c1 c2 : Int32) (h0 : Heap) (n0 : Nat) (Z0 : n0 ≤ h0.size) (O0 : Old Z n0 h0) (V1 : Arv Z h0 b1 k1 .char (3 : Int32) [(.int c0), (.int c1), (.int c2)] (.int (0 : Int32))) :
    own_M l own_y13 own_c13 5 (some (.array .byte)) (own_r 2 1 6 24) #[(.ref b1), (.int (0 : Int32)), (.int (3 : Int32))] Z h0 (own_u_tob3_Q Z b1 k1 c0 c1 c2 h0 n0) := by
  refine own_enter (own := "java/lang/StringUTF16") rfl (plainFor_of_name pn_java_lang_StringUTF16) (fun m => ef_own_u_tob3 m b1 (0 : Int32) (3 : Int32)) ?_
  intro p e s m below meth c s₁ Bd hZ hh hx hby hml hown hnm X0 e0
  obtain ⟨hw, ⟨G1, O2, P5⟩, ⟨G3, O4, rG3⟩, Oa, Oh, Ol⟩ := id hW
  have N0 := Fr.nil n0
  have K0 := Keep.refl h0 []
  have lt1 := own_lt V1.lt
  refine own_gs (cur' := s₁.setTop (mkF m 1 #[vr b1, vi (0 : Int32), vi (3 : Int32), uu, uu] [(.int (3 : Int32))])) ?_ ?_
  · refine XS.iloadN X0.here hx rfl (hb hby d13_0) rfl ?_
    exact Steps.refl _
  obtain ⟨_, _, ⟨T11, L11, k11, n11⟩, -, X11, ⟨Lc11, hQ11, l11, y11, z11⟩, st11⟩ := Jvm.LawKit.callS X0 hx (y := own_y12) hown (mvT hZ (tw_ hw 185 rfl)) (mvT hZ (tw_ hw 186 rfl)) (mvT hZ (tw_ hw 170 rfl)) (mvT hZ (tw_ hw 187 rfl)) (by decide) (backOf (W := 0) (own_u_nbf3 l Z a0 hW h0 n0 (by omega) O0) hZ (tw_ hw 187 rfl) (tw_ hw 170 rfl) (by decide) (by decide)) (g := (mkF m 1 #[vr b1, vi (0 : Int32), vi (3 : Int32), uu, uu] [(.int (3 : Int32))])) rfl (by rw [hml]; rfl) (argsL := [(.int (3 : Int32))]) (rest := []) (lenOf pd_8 rfl) rfl (own_le rfl) (hb hby d13_1) (fun _ _ => ⟨rfl, e0, own_le rfl, own_le rfl⟩)
  dsimp only [Pt.U, Pt.locs, Pt.cells, Pt.slots] at X11 l11 y11 z11 st11 hQ11
  subst l11 y11 z11
  obtain ⟨t11, kb11, rfl, Nq11, Kq11, Vt11, ge11⟩ := hQ11
  have N11 := Fr.app N0 Nq11
  have z12 := Kq11.1
  have K12 := K0.trans Kq11 all0
  have O12 := O0.keep Kq11 all0
  have lt11 := own_lt Vt11.lt
  refine own_go st11 ?_
  refine own_gs (cur' := T11.setTop (mkF m 19 #[vr b1, vi (0 : Int32), vi (3 : Int32), vr t11, vi (0 : Int32)] [(.int (0 : Int32)), (.ref b1), (.int (0 : Int32)), (.ref t11)])) ?_ ?_
  · refine XS.astoreN X11.here hx rfl (hb hby d13_4) rfl rfl (l' := #[vr b1, vi (0 : Int32), vi (3 : Int32), vr t11, uu]) rfl ?_
    refine XS.iconst X11.here hx rfl (hb hby d13_5) ?_
    refine XS.istore X11.here hx rfl (hb hby d13_6) rfl (l' := #[vr b1, vi (0 : Int32), vi (3 : Int32), vr t11, vi (0 : Int32)]) rfl ?_
    refine XS.iload X11.here hx rfl (hb hby d13_8) rfl ?_
    refine XS.iloadN X11.here hx rfl (hb hby d13_10) rfl ?_
    refine XS.icmpNo X11.here hx rfl (hb hby d13_11) rfl (tlt ((by decide) : (0 : Int32) < (3 : Int32))).2.1 ?_
    refine XS.aloadN X11.here hx rfl (hb hby d13_14) rfl rfl ?_
    refine XS.iload X11.here hx rfl (hb hby d13_15) rfl ?_
    show Steps p.tables e below (T11.setTop (mkF m 17 #[vr b1, vi (0 : Int32), vi (3 : Int32), vr t11, vi (0 : Int32)] [(.int (0 : Int32)), (.ref t11)])) _
    refine XS.aloadN X11.here hx rfl (hb hby d13_17) rfl rfl ?_
    refine XS.iloadN X11.here hx rfl (hb hby d13_18) rfl ?_
    exact Steps.refl _
  have f14 := (V1.keep Kq11 nin0)
  obtain ⟨cl13, Ar13, q13, S13, M13, Hs13, G13⟩ := id f14
  have hin13 : ¬ ((0 : Int32) < 0 ∨ cl13.slots.size ≤ ((0 : Int32)).toNatClampNeg) := inb_of S13 ⟨by decide, by decide⟩
  have hat13 : cl13.slots[((0 : Int32)).toNatClampNeg]? = some (.int c0) := Has.at Hs13 hin13 rfl
  refine own_go (X11.caload hx (j := (0 : Int32)) (v := (.int c0)) (by exact Ar13.1) (State.isArrayOf_alike hZ.alike Ar13.2.1) Ar13.2.2 hin13 hat13 (g := (mkF m 19 #[vr b1, vi (0 : Int32), vi (3 : Int32), vr t11, vi (0 : Int32)] [(.int (0 : Int32)), (.ref b1), (.int (0 : Int32)), (.ref t11)])) rfl rfl (hb hby d13_19)) ?_
  show own_Fin p e below (T11.setTop (mkF m 20 #[vr b1, vi (0 : Int32), vi (3 : Int32), vr t11, vi (0 : Int32)] [(.int c0), (.int (0 : Int32)), (.ref t11)])) _
  obtain ⟨_, _, ⟨T15, L15, k15, n15⟩, -, X15, ⟨Lc15, hQ15, l15, y15, z15⟩, st15⟩ := Jvm.LawKit.callS X11 hx (y := own_y10) hown (mvT hZ (tw_ hw 192 rfl)) (mvT hZ (tw_ hw 193 rfl)) (mvT hZ (tw_ hw 170 rfl)) (mvT hZ (tw_ hw 194 rfl)) (by decide) (backOf (W := 0) (own_u_putc l Z a0 hW t11 kb11 3 0 [(.int (0 : Int32)), (.int (0 : Int32)), (.int (0 : Int32)), (.int (0 : Int32)), (.int (0 : Int32)), (.int (0 : Int32))] c0 T11.heap n0 (by omega) O12 (by decide) (by decide) rfl (by omega) Vt11) hZ (tw_ hw 194 rfl) (tw_ hw 170 rfl) (by decide) (by decide)) (g := (mkF m 20 #[vr b1, vi (0 : Int32), vi (3 : Int32), vr t11, vi (0 : Int32)] [(.int c0), (.int (0 : Int32)), (.ref t11)])) rfl (by rw [hml]; rfl) (argsL := [(.ref t11), (.int (0 : Int32)), (.int c0)]) (rest := []) (lenOf pd_9 rfl) rfl (own_le rfl) (hb hby d13_20) (fun _ _ => ⟨rfl, rfl, own_le rfl, own_le rfl⟩)
  dsimp only [Pt.U, Pt.locs, Pt.cells, Pt.slots] at X15 l15 y15 z15 st15 hQ15
  subst l15 y15 z15
  obtain ⟨rfl, Nq15, Kq15, Vt15⟩ := hQ15
  have N15 := Fr.app N11 Nq15
  have z16 := Kq15.1
  have K16 := K12.trans Kq15 (allS (Or.inr (by omega)) all0)
  have O16 := O12.keep Kq15 (allS (by omega) all0)
  have Vu15 : Arv Z T15.heap t11 kb11 .byte (6 : Int32) [(.int (StrChars.lo8 c0)), (.int (StrChars.hi8 c0)), (.int (0 : Int32)), (.int (0 : Int32)), (.int (0 : Int32)), (.int (0 : Int32))] (.int (0 : Int32)) := Vt15
  refine own_go st15 ?_
  refine own_gs (cur' := T15.setTop (mkF m 19 #[vr b1, vi (1 : Int32), vi (3 : Int32), vr t11, vi (1 : Int32)] [(.int (1 : Int32)), (.ref b1), (.int (1 : Int32)), (.ref t11)])) ?_ ?_
  · refine XS.iinc X15.here hx rfl (hb hby d13_23) rfl (l' := #[vr b1, vi (1 : Int32), vi (3 : Int32), vr t11, vi (0 : Int32)]) rfl ?_
    refine XS.iinc X15.here hx rfl (hb hby d13_26) rfl (l' := #[vr b1, vi (1 : Int32), vi (3 : Int32), vr t11, vi (1 : Int32)]) rfl ?_
    refine XS.goto X15.here hx rfl (pc0 := 29) (pc' := 8) rfl (hb hby d13_29) (by decide) (by decide) ?_
    refine XS.iload X15.here hx rfl (hb hby d13_8) rfl ?_
    refine XS.iloadN X15.here hx rfl (hb hby d13_10) rfl ?_
    refine XS.icmpNo X15.here hx rfl (hb hby d13_11) rfl (tlt ((by decide) : (1 : Int32) < (3 : Int32))).2.1 ?_
    refine XS.aloadN X15.here hx rfl (hb hby d13_14) rfl rfl ?_
    refine XS.iload X15.here hx rfl (hb hby d13_15) rfl ?_
    show Steps p.tables e below (T15.setTop (mkF m 17 #[vr b1, vi (1 : Int32), vi (3 : Int32), vr t11, vi (1 : Int32)] [(.int (1 : Int32)), (.ref t11)])) _
    refine XS.aloadN X15.here hx rfl (hb hby d13_17) rfl rfl ?_
    refine XS.iloadN X15.here hx rfl (hb hby d13_18) rfl ?_
    exact Steps.refl _
  have f18 := (f14.keep Kq15 (ninS (own_ne (a := b1) (b := t11) (by omega)) nin0))
  obtain ⟨cl17, Ar17, q17, S17, M17, Hs17, G17⟩ := id f18
  have hin17 : ¬ ((1 : Int32) < 0 ∨ cl17.slots.size ≤ ((1 : Int32)).toNatClampNeg) := inb_of S17 ⟨by decide, by decide⟩
  have hat17 : cl17.slots[((1 : Int32)).toNatClampNeg]? = some (.int c1) := Has.at Hs17 hin17 rfl
  refine own_go (X15.caload hx (j := (1 : Int32)) (v := (.int c1)) (by exact Ar17.1) (State.isArrayOf_alike hZ.alike Ar17.2.1) Ar17.2.2 hin17 hat17 (g := (mkF m 19 #[vr b1, vi (1 : Int32), vi (3 : Int32), vr t11, vi (1 : Int32)] [(.int (1 : Int32)), (.ref b1), (.int (1 : Int32)), (.ref t11)])) rfl rfl (hb hby d13_19)) ?_
  show own_Fin p e below (T15.setTop (mkF m 20 #[vr b1, vi (1 : Int32), vi (3 : Int32), vr t11, vi (1 : Int32)] [(.int c1), (.int (1 : Int32)), (.ref t11)])) _
  obtain ⟨_, _, ⟨T19, L19, k19, n19⟩, -, X19, ⟨Lc19, hQ19, l19, y19, z19⟩, st19⟩ := Jvm.LawKit.callS X15 hx (y := own_y10) hown (mvT hZ (tw_ hw 192 rfl)) (mvT hZ (tw_ hw 193 rfl)) (mvT hZ (tw_ hw 170 rfl)) (mvT hZ (tw_ hw 194 rfl)) (by decide) (backOf (W := 0) (own_u_putc l Z a0 hW t11 kb11 3 1 [(.int (StrChars.lo8 c0)), (.int (StrChars.hi8 c0)), (.int (0 : Int32)), (.int (0 : Int32)), (.int (0 : Int32)), (.int (0 : Int32))] c1 T15.heap n0 (by omega) O16 (by decide) (by decide) rfl (by omega) Vu15) hZ (tw_ hw 194 rfl) (tw_ hw 170 rfl) (by decide) (by decide)) (g := (mkF m 20 #[vr b1, vi (1 : Int32), vi (3 : Int32), vr t11, vi (1 : Int32)] [(.int c1), (.int (1 : Int32)), (.ref t11)])) rfl (by rw [hml]; rfl) (argsL := [(.ref t11), (.int (1 : Int32)), (.int c1)]) (rest := []) (lenOf pd_9 rfl) rfl (own_le rfl) (hb hby d13_20) (fun _ _ => ⟨rfl, rfl, own_le rfl, own_le rfl⟩)
  dsimp only [Pt.U, Pt.locs, Pt.cells, Pt.slots] at X19 l19 y19 z19 st19 hQ19
  subst l19 y19 z19
  obtain ⟨rfl, Nq19, Kq19, Vt19⟩ := hQ19
  have N19 := Fr.app N15 Nq19
  have z20 := Kq19.1
  have K20 := K16.trans Kq19 (allS (Or.inr (by omega)) all0)
  have O20 := O16.keep Kq19 (allS (by omega) all0)
  have Vu19 : Arv Z T19.heap t11 kb11 .byte (6 : Int32) [(.int (StrChars.lo8 c0)), (.int (StrChars.hi8 c0)), (.int (StrChars.lo8 c1)), (.int (StrChars.hi8 c1)), (.int (0 : Int32)), (.int (0 : Int32))] (.int (0 : Int32)) := Vt19
  refine own_go st19 ?_
  refine own_gs (cur' := T19.setTop (mkF m 19 #[vr b1, vi (2 : Int32), vi (3 : Int32), vr t11, vi (2 : Int32)] [(.int (2 : Int32)), (.ref b1), (.int (2 : Int32)), (.ref t11)])) ?_ ?_
  · refine XS.iinc X19.here hx rfl (hb hby d13_23) rfl (l' := #[vr b1, vi (2 : Int32), vi (3 : Int32), vr t11, vi (1 : Int32)]) rfl ?_
    refine XS.iinc X19.here hx rfl (hb hby d13_26) rfl (l' := #[vr b1, vi (2 : Int32), vi (3 : Int32), vr t11, vi (2 : Int32)]) rfl ?_
    refine XS.goto X19.here hx rfl (pc0 := 29) (pc' := 8) rfl (hb hby d13_29) (by decide) (by decide) ?_
    refine XS.iload X19.here hx rfl (hb hby d13_8) rfl ?_
    refine XS.iloadN X19.here hx rfl (hb hby d13_10) rfl ?_
    refine XS.icmpNo X19.here hx rfl (hb hby d13_11) rfl (tlt ((by decide) : (2 : Int32) < (3 : Int32))).2.1 ?_
    refine XS.aloadN X19.here hx rfl (hb hby d13_14) rfl rfl ?_
    refine XS.iload X19.here hx rfl (hb hby d13_15) rfl ?_
    show Steps p.tables e below (T19.setTop (mkF m 17 #[vr b1, vi (2 : Int32), vi (3 : Int32), vr t11, vi (2 : Int32)] [(.int (2 : Int32)), (.ref t11)])) _
    refine XS.aloadN X19.here hx rfl (hb hby d13_17) rfl rfl ?_
    refine XS.iloadN X19.here hx rfl (hb hby d13_18) rfl ?_
    exact Steps.refl _
  have f22 := (f18.keep Kq19 (ninS (own_ne (a := b1) (b := t11) (by omega)) nin0))
  obtain ⟨cl21, Ar21, q21, S21, M21, Hs21, G21⟩ := id f22
  have hin21 : ¬ ((2 : Int32) < 0 ∨ cl21.slots.size ≤ ((2 : Int32)).toNatClampNeg) := inb_of S21 ⟨by decide, by decide⟩
  have hat21 : cl21.slots[((2 : Int32)).toNatClampNeg]? = some (.int c2) := Has.at Hs21 hin21 rfl
  refine own_go (X19.caload hx (j := (2 : Int32)) (v := (.int c2)) (by exact Ar21.1) (State.isArrayOf_alike hZ.alike Ar21.2.1) Ar21.2.2 hin21 hat21 (g := (mkF m 19 #[vr b1, vi (2 : Int32), vi (3 : Int32), vr t11, vi (2 : Int32)] [(.int (2 : Int32)), (.ref b1), (.int (2 : Int32)), (.ref t11)])) rfl rfl (hb hby d13_19)) ?_
  show own_Fin p e below (T19.setTop (mkF m 20 #[vr b1, vi (2 : Int32), vi (3 : Int32), vr t11, vi (2 : Int32)] [(.int c2), (.int (2 : Int32)), (.ref t11)])) _
  obtain ⟨_, _, ⟨T23, L23, k23, n23⟩, -, X23, ⟨Lc23, hQ23, l23, y23, z23⟩, st23⟩ := Jvm.LawKit.callS X19 hx (y := own_y10) hown (mvT hZ (tw_ hw 192 rfl)) (mvT hZ (tw_ hw 193 rfl)) (mvT hZ (tw_ hw 170 rfl)) (mvT hZ (tw_ hw 194 rfl)) (by decide) (backOf (W := 0) (own_u_putc l Z a0 hW t11 kb11 3 2 [(.int (StrChars.lo8 c0)), (.int (StrChars.hi8 c0)), (.int (StrChars.lo8 c1)), (.int (StrChars.hi8 c1)), (.int (0 : Int32)), (.int (0 : Int32))] c2 T19.heap n0 (by omega) O20 (by decide) (by decide) rfl (by omega) Vu19) hZ (tw_ hw 194 rfl) (tw_ hw 170 rfl) (by decide) (by decide)) (g := (mkF m 20 #[vr b1, vi (2 : Int32), vi (3 : Int32), vr t11, vi (2 : Int32)] [(.int c2), (.int (2 : Int32)), (.ref t11)])) rfl (by rw [hml]; rfl) (argsL := [(.ref t11), (.int (2 : Int32)), (.int c2)]) (rest := []) (lenOf pd_9 rfl) rfl (own_le rfl) (hb hby d13_20) (fun _ _ => ⟨rfl, rfl, own_le rfl, own_le rfl⟩)
  dsimp only [Pt.U, Pt.locs, Pt.cells, Pt.slots] at X23 l23 y23 z23 st23 hQ23
  subst l23 y23 z23
  obtain ⟨rfl, Nq23, Kq23, Vt23⟩ := hQ23
  have N23 := Fr.app N19 Nq23
  have z24 := Kq23.1
  have K24 := K20.trans Kq23 (allS (Or.inr (by omega)) all0)
  have O24 := O20.keep Kq23 (allS (by omega) all0)
  have Vu23 : Arv Z T23.heap t11 kb11 .byte (6 : Int32) [(.int (StrChars.lo8 c0)), (.int (StrChars.hi8 c0)), (.int (StrChars.lo8 c1)), (.int (StrChars.hi8 c1)), (.int (StrChars.lo8 c2)), (.int (StrChars.hi8 c2))] (.int (0 : Int32)) := Vt23
  refine own_go st23 ?_
  refine own_gs (cur' := T23.setTop (mkF m 33 #[vr b1, vi (3 : Int32), vi (3 : Int32), vr t11, vi (3 : Int32)] [(.ref t11)])) ?_ ?_
  · refine XS.iinc X23.here hx rfl (hb hby d13_23) rfl (l' := #[vr b1, vi (3 : Int32), vi (3 : Int32), vr t11, vi (2 : Int32)]) rfl ?_
    refine XS.iinc X23.here hx rfl (hb hby d13_26) rfl (l' := #[vr b1, vi (3 : Int32), vi (3 : Int32), vr t11, vi (3 : Int32)]) rfl ?_
    refine XS.goto X23.here hx rfl (pc0 := 29) (pc' := 8) rfl (hb hby d13_29) (by decide) (by decide) ?_
    refine XS.iload X23.here hx rfl (hb hby d13_8) rfl ?_
    refine XS.iloadN X23.here hx rfl (hb hby d13_10) rfl ?_
    refine XS.icmpYes X23.here hx rfl (pc0 := 11) (pc' := 32) rfl (hb hby d13_11) rfl (flt ((by decide) : ¬ ((3 : Int32) < (3 : Int32)))).2.1 (by decide) (by decide) ?_
    refine XS.aloadN X23.here hx rfl (hb hby d13_32) rfl rfl ?_
    exact Steps.refl _
  exact own_rA X23 Bd rfl (v := (.ref t11)) rfl (hb hby d13_33) rfl (⟨_, _, rfl, N23, K24, Vu23, (by omega)⟩) rfl rfl
def own_u_cmp3_Q (Z : State) (b1 d1 : Nat) (k1 k2 : ClassId) (c0 c1 c2 : Int32) (h0 : Heap) (n0 : Nat) (v : Option Value) (h : Heap) (L : List Loc) : Prop := Fr n0 L ∧ Keep h0 h [d1] ∧ ((v = some (.int (3 : Int32)) ∧ (∀ c ∈ ([c0, c1, c2] : List Int32), ¬ (255 : Int32) < c) ∧ Arv Z h d1 k2 .byte (3 : Int32) [(.int (StrChars.lo8 c0)), (.int (StrChars.lo8 c1)), (.int (StrChars.lo8 c2))] (.int (0 : Int32))) ∨ (v = some (.int (0 : Int32)) ∧ (255 : Int32) < c0) ∨ (v = some (.int (1 : Int32)) ∧ (255 : Int32) < c1) ∨ (v = some (.int (2 : Int32)) ∧ (255 : Int32) < c2))
theorem ef_own_u_cmp3 (m : MethodId) (x0 : Nat) (x1 : Int32) (x2 : Nat) (x3 : Int32) (x4 : Int32) : entryFrame m #[(.ref x0), (.int x1), (.ref x2), (.int x3), (.int x4)] 7 = mkF m 0 #[vr x0, vi x1, vr x2, vi x3, vi x4, .unset, .unset] [] := by first | (simp [entryFrame, mkF, argsToLocals, Value.category]; done) | rfl
set_option maxRecDepth 65536 in
set_option maxHeartbeats 40000000 in
theorem own_u_cmp3 (l : Launch) (Z : State) (a0 : Array Value) (hW : own_W Z a0) (b1 d1 : Nat) (k1 k2 : ClassId) (c0 c1 c2 : Int32) (h0 : Heap) (n0 : Nat) (Z0 : n0 ≤ h0.size) (O0 : Old Z n0 h0) (V1 : Arv Z h0 b1 k1 .char (3 : Int32) [(.int c0), (.int c1), (.int c2)] (.int (0 : Int32))) (V2 : Arv Z h0 d1 k2 .byte (3 : Int32) [(.int (0 : Int32)), (.int (0 : Int32)), (.int (0 : Int32))] (.int (0 : Int32))) (g2 : n0 ≤ d1) (hbd : b1 ≠ d1) :
    own_M l own_y14 own_c14 7 (some .int) (own_r 0 0 0 0) #[(.ref b1), (.int (0 : Int32)), (.ref d1), (.int (0 : Int32)), (.int (3 : Int32))] Z h0 (own_u_cmp3_Q Z b1 d1 k1 k2 c0 c1 c2 h0 n0) := by
  refine own_enter (own := "java/lang/StringUTF16") rfl (plainFor_of_name pn_java_lang_StringUTF16) (fun m => ef_own_u_cmp3 m b1 (0 : Int32) d1 (0 : Int32) (3 : Int32)) ?_
  intro p e s m below meth c s₁ Bd hZ hh hx hby hml hown hnm X0 e0
  obtain ⟨hw, ⟨G1, O2, P5⟩, ⟨G3, O4, rG3⟩, Oa, Oh, Ol⟩ := id hW
  have N0 := Fr.nil n0
  have K0 := Keep.refl h0 [d1]
  have lt1 := own_lt V1.lt
  have lt2 := own_lt V2.lt
  refine own_gs (cur' := s₁.setTop (mkF m 12 #[vr b1, vi (0 : Int32), vr d1, vi (0 : Int32), vi (3 : Int32), vi (0 : Int32), uu] [(.int (0 : Int32)), (.ref b1)])) ?_ ?_
  · refine XS.iconst X0.here hx rfl (hb hby d14_0) ?_
    refine XS.istore X0.here hx rfl (hb hby d14_1) rfl (l' := #[vr b1, vi (0 : Int32), vr d1, vi (0 : Int32), vi (3 : Int32), vi (0 : Int32), uu]) rfl ?_
    refine XS.iload X0.here hx rfl (hb hby d14_3) rfl ?_
    refine XS.iload X0.here hx rfl (hb hby d14_5) rfl ?_
    refine XS.icmpNo X0.here hx rfl (hb hby d14_7) rfl (tlt ((by decide) : (0 : Int32) < (3 : Int32))).2.1 ?_
    refine XS.aloadN X0.here hx rfl (hb hby d14_10) rfl rfl ?_
    refine XS.iloadN X0.here hx rfl (hb hby d14_11) rfl ?_
    exact Steps.refl _
  obtain ⟨cl11, Ar11, q11, S11, M11, Hs11, G11⟩ := id V1
  have hin11 : ¬ ((0 : Int32) < 0 ∨ cl11.slots.size ≤ ((0 : Int32)).toNatClampNeg) := inb_of S11 ⟨by decide, by decide⟩
  have hat11 : cl11.slots[((0 : Int32)).toNatClampNeg]? = some (.int c0) := Has.at Hs11 hin11 rfl
  refine own_go (X0.caload hx (j := (0 : Int32)) (v := (.int c0)) (by rw [e0]; exact Ar11.1) (State.isArrayOf_alike hZ.alike Ar11.2.1) Ar11.2.2 hin11 hat11 (g := (mkF m 12 #[vr b1, vi (0 : Int32), vr d1, vi (0 : Int32), vi (3 : Int32), vi (0 : Int32), uu] [(.int (0 : Int32)), (.ref b1)])) rfl rfl (hb hby d14_12)) ?_
  show own_Fin p e below (s₁.setTop (mkF m 13 #[vr b1, vi (0 : Int32), vr d1, vi (0 : Int32), vi (3 : Int32), vi (0 : Int32), uu] [(.int c0)])) _
  refine own_gs (cur' := s₁.setTop (mkF m 20 #[vr b1, vi (0 : Int32), vr d1, vi (0 : Int32), vi (3 : Int32), vi (0 : Int32), vi c0] [(.int (255 : Int32)), (.int c0)])) ?_ ?_
  · refine XS.istore X0.here hx rfl (hb hby d14_13) rfl (l' := #[vr b1, vi (0 : Int32), vr d1, vi (0 : Int32), vi (3 : Int32), vi (0 : Int32), vi c0]) rfl ?_
    refine XS.iload X0.here hx rfl (hb hby d14_15) rfl ?_
    refine XS.sipush X0.here hx rfl (hb hby d14_17) ?_
    exact Steps.refl _
  by_cases hc20_12 : (255 : Int32) < c0
  · refine own_gs (cur' := s₁.setTop (mkF m 25 #[vr b1, vi (0 : Int32), vr d1, vi (0 : Int32), vi (3 : Int32), vi (0 : Int32), vi c0] [(.int (0 : Int32))])) ?_ ?_
    · refine XS.icmpNo X0.here hx rfl (hb hby d14_20) rfl (tlt (hc20_12 : (255 : Int32) < c0)).2.2.2 ?_
      refine XS.iload X0.here hx rfl (hb hby d14_23) rfl ?_
      exact Steps.refl _
    exact own_rI X0 Bd (hb hby d14_25) e0 (⟨N0, K0, Or.inr (Or.inl ⟨rfl, hc20_12⟩)⟩) rfl rfl
  · refine own_gs (cur' := s₁.setTop (mkF m 31 #[vr b1, vi (0 : Int32), vr d1, vi (0 : Int32), vi (3 : Int32), vi (0 : Int32), vi c0] [(.int (c0.toInt8.toInt32)), (.int (0 : Int32)), (.ref d1)])) ?_ ?_
    · refine XS.icmpYes X0.here hx rfl (pc0 := 20) (pc' := 26) rfl (hb hby d14_20) rfl (flt (hc20_12 : ¬ ((255 : Int32) < c0))).2.2.2 (by decide) (by decide) ?_
      refine XS.aloadN X0.here hx rfl (hb hby d14_26) rfl rfl ?_
      refine XS.iloadN X0.here hx rfl (hb hby d14_27) rfl ?_
      refine XS.iload X0.here hx rfl (hb hby d14_28) rfl ?_
      refine XS.i2b X0.here hx rfl (hb hby d14_30) rfl ?_
      exact Steps.refl _
    obtain ⟨cl13, Ar13, q13, S13, M13, Hs13, G13⟩ := id V2
    have hin13 : ¬ ((0 : Int32) < 0 ∨ cl13.slots.size ≤ ((0 : Int32)).toNatClampNeg) := inb_of S13 ⟨by decide, by decide⟩
    obtain ⟨T13, h13, X13, e13, W13, st13⟩ := stB X0 hx hZ e0 Ar13 (j := (0 : Int32)) hin13 (g := (mkF m 31 #[vr b1, vi (0 : Int32), vr d1, vi (0 : Int32), vi (3 : Int32), vi (0 : Int32), vi c0] [(.int (c0.toInt8.toInt32)), (.int (0 : Int32)), (.ref d1)])) rfl rfl (hb hby d14_31)
    have V13 := Arv.set Ar13 q13 S13 M13 Hs13 G13 (fits_nar_byte _) W13 0 rfl (Nat.le_of_ble_eq_true rfl)
    refine own_go st13 ?_
    have z14 := W13.size
    have K14 := K0.wr W13 (Or.inl (List.mem_of_getElem? (i := 0) rfl))
    have O14 := O0.wr W13 (by omega)
    have N14 := Fr.snoc X13 N0 (by omega)
    refine own_gs (cur' := T13.setTop (mkF m 12 #[vr b1, vi (1 : Int32), vr d1, vi (1 : Int32), vi (3 : Int32), vi (1 : Int32), vi c0] [(.int (1 : Int32)), (.ref b1)])) ?_ ?_
    · refine XS.iinc X13.here hx rfl (hb hby d14_32) rfl (l' := #[vr b1, vi (1 : Int32), vr d1, vi (0 : Int32), vi (3 : Int32), vi (0 : Int32), vi c0]) rfl ?_
      refine XS.iinc X13.here hx rfl (hb hby d14_35) rfl (l' := #[vr b1, vi (1 : Int32), vr d1, vi (1 : Int32), vi (3 : Int32), vi (0 : Int32), vi c0]) rfl ?_
      refine XS.iinc X13.here hx rfl (hb hby d14_38) rfl (l' := #[vr b1, vi (1 : Int32), vr d1, vi (1 : Int32), vi (3 : Int32), vi (1 : Int32), vi c0]) rfl ?_
      refine XS.goto X13.here hx rfl (pc0 := 41) (pc' := 3) rfl (hb hby d14_41) (by decide) (by decide) ?_
      refine XS.iload X13.here hx rfl (hb hby d14_3) rfl ?_
      refine XS.iload X13.here hx rfl (hb hby d14_5) rfl ?_
      refine XS.icmpNo X13.here hx rfl (hb hby d14_7) rfl (tlt ((by decide) : (1 : Int32) < (3 : Int32))).2.1 ?_
      refine XS.aloadN X13.here hx rfl (hb hby d14_10) rfl rfl ?_
      show Steps p.tables e below (T13.setTop (mkF m 11 #[vr b1, vi (1 : Int32), vr d1, vi (1 : Int32), vi (3 : Int32), vi (1 : Int32), vi c0] [(.ref b1)])) _
      refine XS.iloadN X13.here hx rfl (hb hby d14_11) rfl ?_
      exact Steps.refl _
    have f16 := (V1.other W13 (own_ne (a := b1) (b := d1) (by omega)))
    obtain ⟨cl15, Ar15, q15, S15, M15, Hs15, G15⟩ := id f16
    have hin15 : ¬ ((1 : Int32) < 0 ∨ cl15.slots.size ≤ ((1 : Int32)).toNatClampNeg) := inb_of S15 ⟨by decide, by decide⟩
    have hat15 : cl15.slots[((1 : Int32)).toNatClampNeg]? = some (.int c1) := Has.at Hs15 hin15 rfl
    refine own_go (X13.caload hx (j := (1 : Int32)) (v := (.int c1)) (by rw [e13]; exact Ar15.1) (State.isArrayOf_alike hZ.alike Ar15.2.1) Ar15.2.2 hin15 hat15 (g := (mkF m 12 #[vr b1, vi (1 : Int32), vr d1, vi (1 : Int32), vi (3 : Int32), vi (1 : Int32), vi c0] [(.int (1 : Int32)), (.ref b1)])) rfl rfl (hb hby d14_12)) ?_
    show own_Fin p e below (T13.setTop (mkF m 13 #[vr b1, vi (1 : Int32), vr d1, vi (1 : Int32), vi (3 : Int32), vi (1 : Int32), vi c0] [(.int c1)])) _
    refine own_gs (cur' := T13.setTop (mkF m 20 #[vr b1, vi (1 : Int32), vr d1, vi (1 : Int32), vi (3 : Int32), vi (1 : Int32), vi c1] [(.int (255 : Int32)), (.int c1)])) ?_ ?_
    · refine XS.istore X13.here hx rfl (hb hby d14_13) rfl (l' := #[vr b1, vi (1 : Int32), vr d1, vi (1 : Int32), vi (3 : Int32), vi (1 : Int32), vi c1]) rfl ?_
      refine XS.iload X13.here hx rfl (hb hby d14_15) rfl ?_
      refine XS.sipush X13.here hx rfl (hb hby d14_17) ?_
      exact Steps.refl _
    by_cases hc20_17 : (255 : Int32) < c1
    · refine own_gs (cur' := T13.setTop (mkF m 25 #[vr b1, vi (1 : Int32), vr d1, vi (1 : Int32), vi (3 : Int32), vi (1 : Int32), vi c1] [(.int (1 : Int32))])) ?_ ?_
      · refine XS.icmpNo X13.here hx rfl (hb hby d14_20) rfl (tlt (hc20_17 : (255 : Int32) < c1)).2.2.2 ?_
        refine XS.iload X13.here hx rfl (hb hby d14_23) rfl ?_
        exact Steps.refl _
      exact own_rI X13 Bd (hb hby d14_25) e13 (⟨N14, K14, Or.inr (Or.inr (Or.inl ⟨rfl, hc20_17⟩))⟩) rfl rfl
    · refine own_gs (cur' := T13.setTop (mkF m 31 #[vr b1, vi (1 : Int32), vr d1, vi (1 : Int32), vi (3 : Int32), vi (1 : Int32), vi c1] [(.int (c1.toInt8.toInt32)), (.int (1 : Int32)), (.ref d1)])) ?_ ?_
      · refine XS.icmpYes X13.here hx rfl (pc0 := 20) (pc' := 26) rfl (hb hby d14_20) rfl (flt (hc20_17 : ¬ ((255 : Int32) < c1))).2.2.2 (by decide) (by decide) ?_
        refine XS.aloadN X13.here hx rfl (hb hby d14_26) rfl rfl ?_
        refine XS.iloadN X13.here hx rfl (hb hby d14_27) rfl ?_
        refine XS.iload X13.here hx rfl (hb hby d14_28) rfl ?_
        refine XS.i2b X13.here hx rfl (hb hby d14_30) rfl ?_
        exact Steps.refl _
      obtain ⟨cl18, Ar18, q18, S18, M18, Hs18, G18⟩ := id V13
      have hin18 : ¬ ((1 : Int32) < 0 ∨ cl18.slots.size ≤ ((1 : Int32)).toNatClampNeg) := inb_of S18 ⟨by decide, by decide⟩
      obtain ⟨T18, h18, X18, e18, W18, st18⟩ := stB X13 hx hZ e13 Ar18 (j := (1 : Int32)) hin18 (g := (mkF m 31 #[vr b1, vi (1 : Int32), vr d1, vi (1 : Int32), vi (3 : Int32), vi (1 : Int32), vi c1] [(.int (c1.toInt8.toInt32)), (.int (1 : Int32)), (.ref d1)])) rfl rfl (hb hby d14_31)
      have V18 := Arv.set Ar18 q18 S18 M18 Hs18 G18 (fits_nar_byte _) W18 1 rfl (Nat.le_of_ble_eq_true rfl)
      refine own_go st18 ?_
      have z19 := W18.size
      have K19 := K14.wr W18 (Or.inl (List.mem_of_getElem? (i := 0) rfl))
      have O19 := O14.wr W18 (by omega)
      have N19 := Fr.snoc X18 N14 (by omega)
      refine own_gs (cur' := T18.setTop (mkF m 12 #[vr b1, vi (2 : Int32), vr d1, vi (2 : Int32), vi (3 : Int32), vi (2 : Int32), vi c1] [(.int (2 : Int32)), (.ref b1)])) ?_ ?_
      · refine XS.iinc X18.here hx rfl (hb hby d14_32) rfl (l' := #[vr b1, vi (2 : Int32), vr d1, vi (1 : Int32), vi (3 : Int32), vi (1 : Int32), vi c1]) rfl ?_
        refine XS.iinc X18.here hx rfl (hb hby d14_35) rfl (l' := #[vr b1, vi (2 : Int32), vr d1, vi (2 : Int32), vi (3 : Int32), vi (1 : Int32), vi c1]) rfl ?_
        refine XS.iinc X18.here hx rfl (hb hby d14_38) rfl (l' := #[vr b1, vi (2 : Int32), vr d1, vi (2 : Int32), vi (3 : Int32), vi (2 : Int32), vi c1]) rfl ?_
        refine XS.goto X18.here hx rfl (pc0 := 41) (pc' := 3) rfl (hb hby d14_41) (by decide) (by decide) ?_
        refine XS.iload X18.here hx rfl (hb hby d14_3) rfl ?_
        refine XS.iload X18.here hx rfl (hb hby d14_5) rfl ?_
        refine XS.icmpNo X18.here hx rfl (hb hby d14_7) rfl (tlt ((by decide) : (2 : Int32) < (3 : Int32))).2.1 ?_
        refine XS.aloadN X18.here hx rfl (hb hby d14_10) rfl rfl ?_
        show Steps p.tables e below (T18.setTop (mkF m 11 #[vr b1, vi (2 : Int32), vr d1, vi (2 : Int32), vi (3 : Int32), vi (2 : Int32), vi c1] [(.ref b1)])) _
        refine XS.iloadN X18.here hx rfl (hb hby d14_11) rfl ?_
        exact Steps.refl _
      have f21 := (f16.other W18 (own_ne (a := b1) (b := d1) (by omega)))
      obtain ⟨cl20, Ar20, q20, S20, M20, Hs20, G20⟩ := id f21
      have hin20 : ¬ ((2 : Int32) < 0 ∨ cl20.slots.size ≤ ((2 : Int32)).toNatClampNeg) := inb_of S20 ⟨by decide, by decide⟩
      have hat20 : cl20.slots[((2 : Int32)).toNatClampNeg]? = some (.int c2) := Has.at Hs20 hin20 rfl
      refine own_go (X18.caload hx (j := (2 : Int32)) (v := (.int c2)) (by rw [e18]; exact Ar20.1) (State.isArrayOf_alike hZ.alike Ar20.2.1) Ar20.2.2 hin20 hat20 (g := (mkF m 12 #[vr b1, vi (2 : Int32), vr d1, vi (2 : Int32), vi (3 : Int32), vi (2 : Int32), vi c1] [(.int (2 : Int32)), (.ref b1)])) rfl rfl (hb hby d14_12)) ?_
      show own_Fin p e below (T18.setTop (mkF m 13 #[vr b1, vi (2 : Int32), vr d1, vi (2 : Int32), vi (3 : Int32), vi (2 : Int32), vi c1] [(.int c2)])) _
      refine own_gs (cur' := T18.setTop (mkF m 20 #[vr b1, vi (2 : Int32), vr d1, vi (2 : Int32), vi (3 : Int32), vi (2 : Int32), vi c2] [(.int (255 : Int32)), (.int c2)])) ?_ ?_
      · refine XS.istore X18.here hx rfl (hb hby d14_13) rfl (l' := #[vr b1, vi (2 : Int32), vr d1, vi (2 : Int32), vi (3 : Int32), vi (2 : Int32), vi c2]) rfl ?_
        refine XS.iload X18.here hx rfl (hb hby d14_15) rfl ?_
        refine XS.sipush X18.here hx rfl (hb hby d14_17) ?_
        exact Steps.refl _
      by_cases hc20_22 : (255 : Int32) < c2
      · refine own_gs (cur' := T18.setTop (mkF m 25 #[vr b1, vi (2 : Int32), vr d1, vi (2 : Int32), vi (3 : Int32), vi (2 : Int32), vi c2] [(.int (2 : Int32))])) ?_ ?_
        · refine XS.icmpNo X18.here hx rfl (hb hby d14_20) rfl (tlt (hc20_22 : (255 : Int32) < c2)).2.2.2 ?_
          refine XS.iload X18.here hx rfl (hb hby d14_23) rfl ?_
          exact Steps.refl _
        exact own_rI X18 Bd (hb hby d14_25) e18 (⟨N19, K19, Or.inr (Or.inr (Or.inr ⟨rfl, hc20_22⟩))⟩) rfl rfl
      · refine own_gs (cur' := T18.setTop (mkF m 31 #[vr b1, vi (2 : Int32), vr d1, vi (2 : Int32), vi (3 : Int32), vi (2 : Int32), vi c2] [(.int (c2.toInt8.toInt32)), (.int (2 : Int32)), (.ref d1)])) ?_ ?_
        · refine XS.icmpYes X18.here hx rfl (pc0 := 20) (pc' := 26) rfl (hb hby d14_20) rfl (flt (hc20_22 : ¬ ((255 : Int32) < c2))).2.2.2 (by decide) (by decide) ?_
          refine XS.aloadN X18.here hx rfl (hb hby d14_26) rfl rfl ?_
          refine XS.iloadN X18.here hx rfl (hb hby d14_27) rfl ?_
          refine XS.iload X18.here hx rfl (hb hby d14_28) rfl ?_
          refine XS.i2b X18.here hx rfl (hb hby d14_30) rfl ?_
          exact Steps.refl _
        obtain ⟨cl23, Ar23, q23, S23, M23, Hs23, G23⟩ := id V18
        have hin23 : ¬ ((2 : Int32) < 0 ∨ cl23.slots.size ≤ ((2 : Int32)).toNatClampNeg) := inb_of S23 ⟨by decide, by decide⟩
        obtain ⟨T23, h23, X23, e23, W23, st23⟩ := stB X18 hx hZ e18 Ar23 (j := (2 : Int32)) hin23 (g := (mkF m 31 #[vr b1, vi (2 : Int32), vr d1, vi (2 : Int32), vi (3 : Int32), vi (2 : Int32), vi c2] [(.int (c2.toInt8.toInt32)), (.int (2 : Int32)), (.ref d1)])) rfl rfl (hb hby d14_31)
        have V23 := Arv.set Ar23 q23 S23 M23 Hs23 G23 (fits_nar_byte _) W23 2 rfl (Nat.le_of_ble_eq_true rfl)
        refine own_go st23 ?_
        have z24 := W23.size
        have K24 := K19.wr W23 (Or.inl (List.mem_of_getElem? (i := 0) rfl))
        have O24 := O19.wr W23 (by omega)
        have N24 := Fr.snoc X23 N19 (by omega)
        have Vf := V23
        simp only [own_b2] at Vf
        have hal : ∀ c ∈ ([c0, c1, c2] : List Int32), ¬ (255 : Int32) < c := by
          intro c hc
          simp only [List.mem_cons, List.not_mem_nil, or_false] at hc
          rcases hc with rfl | rfl | rfl
          · exact hc20_12
          · exact hc20_17
          · exact hc20_22
        refine own_gs (cur' := T23.setTop (mkF m 46 #[vr b1, vi (3 : Int32), vr d1, vi (3 : Int32), vi (3 : Int32), vi (3 : Int32), vi c2] [(.int (3 : Int32))])) ?_ ?_
        · refine XS.iinc X23.here hx rfl (hb hby d14_32) rfl (l' := #[vr b1, vi (3 : Int32), vr d1, vi (2 : Int32), vi (3 : Int32), vi (2 : Int32), vi c2]) rfl ?_
          refine XS.iinc X23.here hx rfl (hb hby d14_35) rfl (l' := #[vr b1, vi (3 : Int32), vr d1, vi (3 : Int32), vi (3 : Int32), vi (2 : Int32), vi c2]) rfl ?_
          refine XS.iinc X23.here hx rfl (hb hby d14_38) rfl (l' := #[vr b1, vi (3 : Int32), vr d1, vi (3 : Int32), vi (3 : Int32), vi (3 : Int32), vi c2]) rfl ?_
          refine XS.goto X23.here hx rfl (pc0 := 41) (pc' := 3) rfl (hb hby d14_41) (by decide) (by decide) ?_
          refine XS.iload X23.here hx rfl (hb hby d14_3) rfl ?_
          refine XS.iload X23.here hx rfl (hb hby d14_5) rfl ?_
          refine XS.icmpYes X23.here hx rfl (pc0 := 7) (pc' := 44) rfl (hb hby d14_7) rfl (flt ((by decide) : ¬ ((3 : Int32) < (3 : Int32)))).2.1 (by decide) (by decide) ?_
          refine XS.iload X23.here hx rfl (hb hby d14_44) rfl ?_
          exact Steps.refl _
        exact own_rI X23 Bd (hb hby d14_46) e23 (⟨N24, K24, Or.inl ⟨rfl, hal, Vf⟩⟩) rfl rfl
def own_u_cmpr3_Q (Z : State) (b1 : Nat) (k1 : ClassId) (c0 c1 c2 : Int32) (h0 : Heap) (n0 : Nat) (v : Option Value) (h : Heap) (L : List Loc) : Prop := ∃ (t : Nat) (kb : ClassId), v = some (.ref t) ∧ Fr n0 L ∧ Keep h0 h [] ∧ h0.size ≤ t ∧ (((∀ c ∈ ([c0, c1, c2] : List Int32), ¬ (255 : Int32) < c) ∧ Arv Z h t kb .byte (3 : Int32) [(.int (StrChars.lo8 c0)), (.int (StrChars.lo8 c1)), (.int (StrChars.lo8 c2))] (.int (0 : Int32))) ∨ ((∃ c ∈ ([c0, c1, c2] : List Int32), (255 : Int32) < c) ∧ Arv Z h t kb .byte (6 : Int32) (StrChars.Road.wideBytes [c0, c1, c2]) (.int (0 : Int32))))
theorem ef_own_u_cmpr3 (m : MethodId) (x0 : Nat) (x1 : Int32) (x2 : Int32) : entryFrame m #[(.ref x0), (.int x1), (.int x2)] 6 = mkF m 0 #[vr x0, vi x1, vi x2, .unset, .unset, .unset] [] := by first | (simp [entryFrame, mkF, argsToLocals, Value.category]; done) | rfl
set_option maxRecDepth 65536 in
set_option maxHeartbeats 40000000 in
theorem own_u_cmpr3 (l : Launch) (Z : State) (a0 : Array Value) (hW : own_W Z a0) (b1 : Nat) (k1 : ClassId) (c0 c1 c2 : Int32) (h0 : Heap) (n0 : Nat) (Z0 : n0 ≤ h0.size) (O0 : Old Z n0 h0) (V1 : Arv Z h0 b1 k1 .char (3 : Int32) [(.int c0), (.int c1), (.int c2)] (.int (0 : Int32))) (hb0 : ¬ c0 < 0 ∧ ¬ (65535 : Int32) < c0) (hb1 : ¬ c1 < 0 ∧ ¬ (65535 : Int32) < c1) (hb2 : ¬ c2 < 0 ∧ ¬ (65535 : Int32) < c2) :
    own_M l own_y15 own_c15 6 (some (.array .byte)) (own_r 3 2 9 40) #[(.ref b1), (.int (0 : Int32)), (.int (3 : Int32))] Z h0 (own_u_cmpr3_Q Z b1 k1 c0 c1 c2 h0 n0) := by
  refine own_enter (own := "java/lang/StringUTF16") rfl (plainFor_of_name pn_java_lang_StringUTF16) (fun m => ef_own_u_cmpr3 m b1 (0 : Int32) (3 : Int32)) ?_
  intro p e s m below meth c s₁ Bd hZ hh hx hby hml hown hnm X0 e0
  obtain ⟨hw, ⟨G1, O2, P5⟩, ⟨G3, O4, rG3⟩, Oa, Oh, Ol⟩ := id hW
  have N0 := Fr.nil n0
  have K0 := Keep.refl h0 []
  have lt1 := own_lt V1.lt
  refine own_gs (cur' := s₁.setTop (mkF m 1 #[vr b1, vi (0 : Int32), vi (3 : Int32), uu, uu, uu] [(.int (3 : Int32))])) ?_ ?_
  · refine XS.iloadN X0.here hx rfl (hb hby d15_0) rfl ?_
    exact Steps.refl _
  obtain ⟨T11, h11, k11, X11, e11, E11, A11, Eb11, st11⟩ := newPE X0 hx hZ (tw_ hw 21 rfl) e0 (g := (mkF m 1 #[vr b1, vi (0 : Int32), vi (3 : Int32), uu, uu, uu] [(.int (3 : Int32))])) rfl (hb hby d15_1) rfl (by decide) (cap := 3) (by decide) (by decide) (by decide) (by decide) (ad := "[B") rfl
  obtain ⟨b11, g11⟩ : ∃ z, z = h0.size := ⟨_, rfl⟩
  rw [← g11] at A11 st11
  have lt11 := own_lt A11.lt
  refine own_go st11 ?_
  have z12 := E11.1
  have K12 := K0.ext E11
  have O12 := O0.ext E11
  have V11 : Arv Z h11 b11 k11 .byte (3 : Int32) [(.int (0 : Int32)), (.int (0 : Int32)), (.int (0 : Int32))] (.int (0 : Int32)) := (Arv.new A11 (by decide)).pad (pad_rep [] (.int (0 : Int32)) 3)
  rw [← g11] at Eb11
  have fc11 := own_fcB V11 Eb11
  have f13 := (V1.ext E11)
  refine own_gs (cur' := T11.setTop (mkF m 9 #[vr b1, vi (0 : Int32), vi (3 : Int32), vr b11, uu, uu] [(.int (3 : Int32)), (.int (0 : Int32)), (.ref b11), (.int (0 : Int32)), (.ref b1)])) ?_ ?_
  · refine XS.astoreN X11.here hx rfl (hb hby d15_3) rfl rfl (l' := #[vr b1, vi (0 : Int32), vi (3 : Int32), vr b11, uu, uu]) rfl ?_
    refine XS.aloadN X11.here hx rfl (hb hby d15_4) rfl rfl ?_
    refine XS.iloadN X11.here hx rfl (hb hby d15_5) rfl ?_
    refine XS.aloadN X11.here hx rfl (hb hby d15_6) rfl rfl ?_
    refine XS.iconst X11.here hx rfl (hb hby d15_7) ?_
    refine XS.iloadN X11.here hx rfl (hb hby d15_8) rfl ?_
    exact Steps.refl _
  obtain ⟨_, _, ⟨T14, L14, k14, n14⟩, -, X14, ⟨Lc14, hQ14, l14, y14, z14⟩, st14⟩ := Jvm.LawKit.callS X11 hx (y := own_y14) hown (mvT hZ (tw_ hw 172 rfl)) (mvT hZ (tw_ hw 173 rfl)) (mvT hZ (tw_ hw 170 rfl)) (mvT hZ (tw_ hw 174 rfl)) (by decide) (backOf (W := 0) (own_u_cmp3 l Z a0 hW b1 b11 k1 k11 c0 c1 c2 h11 n0 (by omega) O12 f13 V11 (by omega) (by omega)) hZ (tw_ hw 174 rfl) (tw_ hw 170 rfl) (by decide) (by decide)) (g := (mkF m 9 #[vr b1, vi (0 : Int32), vi (3 : Int32), vr b11, uu, uu] [(.int (3 : Int32)), (.int (0 : Int32)), (.ref b11), (.int (0 : Int32)), (.ref b1)])) rfl (by rw [hml]; rfl) (argsL := [(.ref b1), (.int (0 : Int32)), (.ref b11), (.int (0 : Int32)), (.int (3 : Int32))]) (rest := []) (lenOf pd_10 rfl) rfl (own_le rfl) (hb hby d15_9) (fun _ _ => ⟨rfl, e11, own_le rfl, own_le rfl⟩)
  dsimp only [Pt.U, Pt.locs, Pt.cells, Pt.slots] at X14 l14 y14 z14 st14 hQ14
  subst l14 y14 z14
  obtain ⟨Nq14, Kq14, hor⟩ := hQ14
  have N14 := Fr.app N0 Nq14
  have z15 := Kq14.1
  have K15 := K12.trans Kq14 (allS (Or.inr (by omega)) all0)
  have O15 := O12.keep Kq14 (allS (by omega) all0)
  rcases hor with ⟨rfl, hal, Vl⟩ | ⟨rfl, hbig⟩ | ⟨rfl, hbig⟩ | ⟨rfl, hbig⟩
  · refine own_go st14 ?_
    show own_Fin p e below (T14.setTop (mkF m 12 #[vr b1, vi (0 : Int32), vi (3 : Int32), vr b11, uu, uu] [(.int (3 : Int32))])) _
    refine own_gs (cur' := T14.setTop (mkF m 58 #[vr b1, vi (0 : Int32), vi (3 : Int32), vr b11, vi (3 : Int32), uu] [(.ref b11)])) ?_ ?_
    · refine XS.istore X14.here hx rfl (hb hby d15_12) rfl (l' := #[vr b1, vi (0 : Int32), vi (3 : Int32), vr b11, vi (3 : Int32), uu]) rfl ?_
      refine XS.iload X14.here hx rfl (hb hby d15_14) rfl ?_
      refine XS.iloadN X14.here hx rfl (hb hby d15_16) rfl ?_
      refine XS.icmpYes X14.here hx rfl (pc0 := 17) (pc' := 57) rfl (hb hby d15_17) rfl (teq ((by decide) : (3 : Int32) = (3 : Int32))).1 (by decide) (by decide) ?_
      refine XS.aloadN X14.here hx rfl (hb hby d15_57) rfl rfl ?_
      exact Steps.refl _
    exact own_rA X14 Bd rfl (v := (.ref b11)) rfl (hb hby d15_58) rfl (⟨_, _, rfl, N14, K15, (by omega), Or.inl ⟨hal, Vl⟩⟩) rfl rfl
  · refine own_go st14 ?_
    show own_Fin p e below (T14.setTop (mkF m 12 #[vr b1, vi (0 : Int32), vi (3 : Int32), vr b11, uu, uu] [(.int (0 : Int32))])) _
    have f16 := (f13.keep Kq14 (ninS (own_ne (a := b1) (b := b11) (by omega)) nin0))
    refine own_gs (cur' := T14.setTop (mkF m 23 #[vr b1, vi (0 : Int32), vi (3 : Int32), vr b11, vi (0 : Int32), uu] [(.int (3 : Int32)), (.int (0 : Int32)), (.ref b1)])) ?_ ?_
    · refine XS.istore X14.here hx rfl (hb hby d15_12) rfl (l' := #[vr b1, vi (0 : Int32), vi (3 : Int32), vr b11, vi (0 : Int32), uu]) rfl ?_
      refine XS.iload X14.here hx rfl (hb hby d15_14) rfl ?_
      refine XS.iloadN X14.here hx rfl (hb hby d15_16) rfl ?_
      refine XS.icmpNo X14.here hx rfl (hb hby d15_17) rfl (feq ((by decide) : ¬ ((0 : Int32) = (3 : Int32)))).1 ?_
      refine XS.aloadN X14.here hx rfl (hb hby d15_20) rfl rfl ?_
      refine XS.iloadN X14.here hx rfl (hb hby d15_21) rfl ?_
      refine XS.iloadN X14.here hx rfl (hb hby d15_22) rfl ?_
      exact Steps.refl _
    obtain ⟨_, _, ⟨T17, L17, k17, n17⟩, -, X17, ⟨Lc17, hQ17, l17, y17, z17⟩, st17⟩ := Jvm.LawKit.callS X14 hx (y := own_y13) hown (mvT hZ (tw_ hw 182 rfl)) (mvT hZ (tw_ hw 183 rfl)) (mvT hZ (tw_ hw 170 rfl)) (mvT hZ (tw_ hw 184 rfl)) (by decide) (backOf (W := 0) (own_u_tob3 l Z a0 hW b1 k1 c0 c1 c2 T14.heap n0 (by omega) O15 f16) hZ (tw_ hw 184 rfl) (tw_ hw 170 rfl) (by decide) (by decide)) (g := (mkF m 23 #[vr b1, vi (0 : Int32), vi (3 : Int32), vr b11, vi (0 : Int32), uu] [(.int (3 : Int32)), (.int (0 : Int32)), (.ref b1)])) rfl (by rw [hml]; rfl) (argsL := [(.ref b1), (.int (0 : Int32)), (.int (3 : Int32))]) (rest := []) (lenOf pd_11 rfl) rfl (own_le rfl) (hb hby d15_23) (fun _ _ => ⟨rfl, rfl, own_le rfl, own_le rfl⟩)
    dsimp only [Pt.U, Pt.locs, Pt.cells, Pt.slots] at X17 l17 y17 z17 st17 hQ17
    subst l17 y17 z17
    obtain ⟨t17, kb17, rfl, Nq17, Kq17, Vt17, ge17⟩ := hQ17
    have N17 := Fr.app N14 Nq17
    have z18 := Kq17.1
    have K18 := K15.trans Kq17 all0
    have O18 := O15.keep Kq17 all0
    have lt17 := own_lt Vt17.lt
    refine own_go st17 ?_
    refine own_gs (cur' := T17.setTop (mkF m 32 #[vr b1, vi (0 : Int32), vi (3 : Int32), vr b11, vi (0 : Int32), vr t17] [(.int (0 : Int32)), (.ref t17)])) ?_ ?_
    · refine XS.astore X17.here hx rfl (hb hby d15_26) rfl rfl (l' := #[vr b1, vi (0 : Int32), vi (3 : Int32), vr b11, vi (0 : Int32), vr t17]) rfl ?_
      refine XS.aload X17.here hx rfl (hb hby d15_28) rfl rfl ?_
      refine XS.iload X17.here hx rfl (hb hby d15_30) rfl ?_
      exact Steps.refl _
    obtain ⟨_, _, ⟨T19, L19, k19, n19⟩, -, X19, ⟨Lc19, hQ19, l19, y19, z19⟩, st19⟩ := Jvm.LawKit.callS X17 hx (y := own_y6) hown (mvT hZ (tw_ hw 198 rfl)) (mvT hZ (tw_ hw 199 rfl)) (mvT hZ (tw_ hw 170 rfl)) (mvT hZ (tw_ hw 200 rfl)) (by decide) (backOf (W := 0) (own_u_getc l Z a0 hW t17 kb17 3 0 (StrChars.Road.wideBytes [c0, c1, c2]) (StrChars.lo8 c0) (StrChars.hi8 c0) T17.heap n0 (by omega) O18 (by decide) (by decide) Vt17 rfl rfl) hZ (tw_ hw 200 rfl) (tw_ hw 170 rfl) (by decide) (by decide)) (g := (mkF m 32 #[vr b1, vi (0 : Int32), vi (3 : Int32), vr b11, vi (0 : Int32), vr t17] [(.int (0 : Int32)), (.ref t17)])) rfl (by rw [hml]; rfl) (argsL := [(.ref t17), (.int (0 : Int32))]) (rest := []) (lenOf pd_5 rfl) rfl (own_le rfl) (hb hby d15_32) (fun _ _ => ⟨rfl, rfl, own_le rfl, own_le rfl⟩)
    dsimp only [Pt.U, Pt.locs, Pt.cells, Pt.slots] at X19 l19 y19 z19 st19 hQ19
    subst l19 y19 z19
    obtain ⟨rfl, Nq19, eh19⟩ := hQ19
    have N19 := Fr.app N17 Nq19
    rw [StrChars.pair_says hb0.1 hb0.2] at st19
    refine own_go st19 ?_
    refine own_gs (cur' := T19.setTop (mkF m 56 #[vr b1, vi (0 : Int32), vi (3 : Int32), vr b11, vi (0 : Int32), vr t17] [(.ref t17)])) ?_ ?_
    · refine XS.sipush X19.here hx rfl (hb hby d15_35) ?_
      refine XS.icmpYes X19.here hx rfl (pc0 := 38) (pc' := 54) rfl (hb hby d15_38) rfl (tlt (hbig : (255 : Int32) < c0)).2.2.1 (by decide) (by decide) ?_
      refine XS.aload X19.here hx rfl (hb hby d15_54) rfl rfl ?_
      exact Steps.refl _
    exact own_rA X19 Bd rfl (v := (.ref t17)) rfl (hb hby d15_56) eh19 (⟨_, _, rfl, N19, K18, (by omega), Or.inr ⟨⟨_, List.mem_of_getElem? (i := 0) rfl, hbig⟩, Vt17⟩⟩) rfl rfl
  · refine own_go st14 ?_
    show own_Fin p e below (T14.setTop (mkF m 12 #[vr b1, vi (0 : Int32), vi (3 : Int32), vr b11, uu, uu] [(.int (1 : Int32))])) _
    have f20 := (f13.keep Kq14 (ninS (own_ne (a := b1) (b := b11) (by omega)) nin0))
    refine own_gs (cur' := T14.setTop (mkF m 23 #[vr b1, vi (0 : Int32), vi (3 : Int32), vr b11, vi (1 : Int32), uu] [(.int (3 : Int32)), (.int (0 : Int32)), (.ref b1)])) ?_ ?_
    · refine XS.istore X14.here hx rfl (hb hby d15_12) rfl (l' := #[vr b1, vi (0 : Int32), vi (3 : Int32), vr b11, vi (1 : Int32), uu]) rfl ?_
      refine XS.iload X14.here hx rfl (hb hby d15_14) rfl ?_
      refine XS.iloadN X14.here hx rfl (hb hby d15_16) rfl ?_
      refine XS.icmpNo X14.here hx rfl (hb hby d15_17) rfl (feq ((by decide) : ¬ ((1 : Int32) = (3 : Int32)))).1 ?_
      refine XS.aloadN X14.here hx rfl (hb hby d15_20) rfl rfl ?_
      refine XS.iloadN X14.here hx rfl (hb hby d15_21) rfl ?_
      refine XS.iloadN X14.here hx rfl (hb hby d15_22) rfl ?_
      exact Steps.refl _
    obtain ⟨_, _, ⟨T21, L21, k21, n21⟩, -, X21, ⟨Lc21, hQ21, l21, y21, z21⟩, st21⟩ := Jvm.LawKit.callS X14 hx (y := own_y13) hown (mvT hZ (tw_ hw 182 rfl)) (mvT hZ (tw_ hw 183 rfl)) (mvT hZ (tw_ hw 170 rfl)) (mvT hZ (tw_ hw 184 rfl)) (by decide) (backOf (W := 0) (own_u_tob3 l Z a0 hW b1 k1 c0 c1 c2 T14.heap n0 (by omega) O15 f20) hZ (tw_ hw 184 rfl) (tw_ hw 170 rfl) (by decide) (by decide)) (g := (mkF m 23 #[vr b1, vi (0 : Int32), vi (3 : Int32), vr b11, vi (1 : Int32), uu] [(.int (3 : Int32)), (.int (0 : Int32)), (.ref b1)])) rfl (by rw [hml]; rfl) (argsL := [(.ref b1), (.int (0 : Int32)), (.int (3 : Int32))]) (rest := []) (lenOf pd_11 rfl) rfl (own_le rfl) (hb hby d15_23) (fun _ _ => ⟨rfl, rfl, own_le rfl, own_le rfl⟩)
    dsimp only [Pt.U, Pt.locs, Pt.cells, Pt.slots] at X21 l21 y21 z21 st21 hQ21
    subst l21 y21 z21
    obtain ⟨t21, kb21, rfl, Nq21, Kq21, Vt21, ge21⟩ := hQ21
    have N21 := Fr.app N14 Nq21
    have z22 := Kq21.1
    have K22 := K15.trans Kq21 all0
    have O22 := O15.keep Kq21 all0
    have lt21 := own_lt Vt21.lt
    refine own_go st21 ?_
    refine own_gs (cur' := T21.setTop (mkF m 32 #[vr b1, vi (0 : Int32), vi (3 : Int32), vr b11, vi (1 : Int32), vr t21] [(.int (1 : Int32)), (.ref t21)])) ?_ ?_
    · refine XS.astore X21.here hx rfl (hb hby d15_26) rfl rfl (l' := #[vr b1, vi (0 : Int32), vi (3 : Int32), vr b11, vi (1 : Int32), vr t21]) rfl ?_
      refine XS.aload X21.here hx rfl (hb hby d15_28) rfl rfl ?_
      refine XS.iload X21.here hx rfl (hb hby d15_30) rfl ?_
      exact Steps.refl _
    obtain ⟨_, _, ⟨T23, L23, k23, n23⟩, -, X23, ⟨Lc23, hQ23, l23, y23, z23⟩, st23⟩ := Jvm.LawKit.callS X21 hx (y := own_y6) hown (mvT hZ (tw_ hw 198 rfl)) (mvT hZ (tw_ hw 199 rfl)) (mvT hZ (tw_ hw 170 rfl)) (mvT hZ (tw_ hw 200 rfl)) (by decide) (backOf (W := 0) (own_u_getc l Z a0 hW t21 kb21 3 1 (StrChars.Road.wideBytes [c0, c1, c2]) (StrChars.lo8 c1) (StrChars.hi8 c1) T21.heap n0 (by omega) O22 (by decide) (by decide) Vt21 rfl rfl) hZ (tw_ hw 200 rfl) (tw_ hw 170 rfl) (by decide) (by decide)) (g := (mkF m 32 #[vr b1, vi (0 : Int32), vi (3 : Int32), vr b11, vi (1 : Int32), vr t21] [(.int (1 : Int32)), (.ref t21)])) rfl (by rw [hml]; rfl) (argsL := [(.ref t21), (.int (1 : Int32))]) (rest := []) (lenOf pd_5 rfl) rfl (own_le rfl) (hb hby d15_32) (fun _ _ => ⟨rfl, rfl, own_le rfl, own_le rfl⟩)
    dsimp only [Pt.U, Pt.locs, Pt.cells, Pt.slots] at X23 l23 y23 z23 st23 hQ23
    subst l23 y23 z23
    obtain ⟨rfl, Nq23, eh23⟩ := hQ23
    have N23 := Fr.app N21 Nq23
    rw [StrChars.pair_says hb1.1 hb1.2] at st23
    refine own_go st23 ?_
    refine own_gs (cur' := T23.setTop (mkF m 56 #[vr b1, vi (0 : Int32), vi (3 : Int32), vr b11, vi (1 : Int32), vr t21] [(.ref t21)])) ?_ ?_
    · refine XS.sipush X23.here hx rfl (hb hby d15_35) ?_
      refine XS.icmpYes X23.here hx rfl (pc0 := 38) (pc' := 54) rfl (hb hby d15_38) rfl (tlt (hbig : (255 : Int32) < c1)).2.2.1 (by decide) (by decide) ?_
      refine XS.aload X23.here hx rfl (hb hby d15_54) rfl rfl ?_
      exact Steps.refl _
    exact own_rA X23 Bd rfl (v := (.ref t21)) rfl (hb hby d15_56) eh23 (⟨_, _, rfl, N23, K22, (by omega), Or.inr ⟨⟨_, List.mem_of_getElem? (i := 1) rfl, hbig⟩, Vt21⟩⟩) rfl rfl
  · refine own_go st14 ?_
    show own_Fin p e below (T14.setTop (mkF m 12 #[vr b1, vi (0 : Int32), vi (3 : Int32), vr b11, uu, uu] [(.int (2 : Int32))])) _
    have f24 := (f13.keep Kq14 (ninS (own_ne (a := b1) (b := b11) (by omega)) nin0))
    refine own_gs (cur' := T14.setTop (mkF m 23 #[vr b1, vi (0 : Int32), vi (3 : Int32), vr b11, vi (2 : Int32), uu] [(.int (3 : Int32)), (.int (0 : Int32)), (.ref b1)])) ?_ ?_
    · refine XS.istore X14.here hx rfl (hb hby d15_12) rfl (l' := #[vr b1, vi (0 : Int32), vi (3 : Int32), vr b11, vi (2 : Int32), uu]) rfl ?_
      refine XS.iload X14.here hx rfl (hb hby d15_14) rfl ?_
      refine XS.iloadN X14.here hx rfl (hb hby d15_16) rfl ?_
      refine XS.icmpNo X14.here hx rfl (hb hby d15_17) rfl (feq ((by decide) : ¬ ((2 : Int32) = (3 : Int32)))).1 ?_
      refine XS.aloadN X14.here hx rfl (hb hby d15_20) rfl rfl ?_
      refine XS.iloadN X14.here hx rfl (hb hby d15_21) rfl ?_
      refine XS.iloadN X14.here hx rfl (hb hby d15_22) rfl ?_
      exact Steps.refl _
    obtain ⟨_, _, ⟨T25, L25, k25, n25⟩, -, X25, ⟨Lc25, hQ25, l25, y25, z25⟩, st25⟩ := Jvm.LawKit.callS X14 hx (y := own_y13) hown (mvT hZ (tw_ hw 182 rfl)) (mvT hZ (tw_ hw 183 rfl)) (mvT hZ (tw_ hw 170 rfl)) (mvT hZ (tw_ hw 184 rfl)) (by decide) (backOf (W := 0) (own_u_tob3 l Z a0 hW b1 k1 c0 c1 c2 T14.heap n0 (by omega) O15 f24) hZ (tw_ hw 184 rfl) (tw_ hw 170 rfl) (by decide) (by decide)) (g := (mkF m 23 #[vr b1, vi (0 : Int32), vi (3 : Int32), vr b11, vi (2 : Int32), uu] [(.int (3 : Int32)), (.int (0 : Int32)), (.ref b1)])) rfl (by rw [hml]; rfl) (argsL := [(.ref b1), (.int (0 : Int32)), (.int (3 : Int32))]) (rest := []) (lenOf pd_11 rfl) rfl (own_le rfl) (hb hby d15_23) (fun _ _ => ⟨rfl, rfl, own_le rfl, own_le rfl⟩)
    dsimp only [Pt.U, Pt.locs, Pt.cells, Pt.slots] at X25 l25 y25 z25 st25 hQ25
    subst l25 y25 z25
    obtain ⟨t25, kb25, rfl, Nq25, Kq25, Vt25, ge25⟩ := hQ25
    have N25 := Fr.app N14 Nq25
    have z26 := Kq25.1
    have K26 := K15.trans Kq25 all0
    have O26 := O15.keep Kq25 all0
    have lt25 := own_lt Vt25.lt
    refine own_go st25 ?_
    refine own_gs (cur' := T25.setTop (mkF m 32 #[vr b1, vi (0 : Int32), vi (3 : Int32), vr b11, vi (2 : Int32), vr t25] [(.int (2 : Int32)), (.ref t25)])) ?_ ?_
    · refine XS.astore X25.here hx rfl (hb hby d15_26) rfl rfl (l' := #[vr b1, vi (0 : Int32), vi (3 : Int32), vr b11, vi (2 : Int32), vr t25]) rfl ?_
      refine XS.aload X25.here hx rfl (hb hby d15_28) rfl rfl ?_
      refine XS.iload X25.here hx rfl (hb hby d15_30) rfl ?_
      exact Steps.refl _
    obtain ⟨_, _, ⟨T27, L27, k27, n27⟩, -, X27, ⟨Lc27, hQ27, l27, y27, z27⟩, st27⟩ := Jvm.LawKit.callS X25 hx (y := own_y6) hown (mvT hZ (tw_ hw 198 rfl)) (mvT hZ (tw_ hw 199 rfl)) (mvT hZ (tw_ hw 170 rfl)) (mvT hZ (tw_ hw 200 rfl)) (by decide) (backOf (W := 0) (own_u_getc l Z a0 hW t25 kb25 3 2 (StrChars.Road.wideBytes [c0, c1, c2]) (StrChars.lo8 c2) (StrChars.hi8 c2) T25.heap n0 (by omega) O26 (by decide) (by decide) Vt25 rfl rfl) hZ (tw_ hw 200 rfl) (tw_ hw 170 rfl) (by decide) (by decide)) (g := (mkF m 32 #[vr b1, vi (0 : Int32), vi (3 : Int32), vr b11, vi (2 : Int32), vr t25] [(.int (2 : Int32)), (.ref t25)])) rfl (by rw [hml]; rfl) (argsL := [(.ref t25), (.int (2 : Int32))]) (rest := []) (lenOf pd_5 rfl) rfl (own_le rfl) (hb hby d15_32) (fun _ _ => ⟨rfl, rfl, own_le rfl, own_le rfl⟩)
    dsimp only [Pt.U, Pt.locs, Pt.cells, Pt.slots] at X27 l27 y27 z27 st27 hQ27
    subst l27 y27 z27
    obtain ⟨rfl, Nq27, eh27⟩ := hQ27
    have N27 := Fr.app N25 Nq27
    rw [StrChars.pair_says hb2.1 hb2.2] at st27
    refine own_go st27 ?_
    refine own_gs (cur' := T27.setTop (mkF m 56 #[vr b1, vi (0 : Int32), vi (3 : Int32), vr b11, vi (2 : Int32), vr t25] [(.ref t25)])) ?_ ?_
    · refine XS.sipush X27.here hx rfl (hb hby d15_35) ?_
      refine XS.icmpYes X27.here hx rfl (pc0 := 38) (pc' := 54) rfl (hb hby d15_38) rfl (tlt (hbig : (255 : Int32) < c2)).2.2.1 (by decide) (by decide) ?_
      refine XS.aload X27.here hx rfl (hb hby d15_54) rfl rfl ?_
      exact Steps.refl _
    exact own_rA X27 Bd rfl (v := (.ref t25)) rfl (hb hby d15_56) eh27 (⟨_, _, rfl, N27, K26, (by omega), Or.inr ⟨⟨_, List.mem_of_getElem? (i := 2) rfl, hbig⟩, Vt25⟩⟩) rfl rfl
def own_u_cfa3_0_Q (Z : State) (t1 : Nat) (k1 : ClassId) (vs : List Value) (h0 : Heap) (n0 : Nat) (v : Option Value) (h : Heap) (L : List Loc) : Prop := v = (some (.int (0 : Int32))) ∧ Fr n0 L ∧ h = h0
theorem ef_own_u_cfa3_0 (m : MethodId) (x0 : Nat) (x1 : Int32) : entryFrame m #[(.ref x0), (.int x1)] 2 = mkF m 0 #[vr x0, vi x1] [] := by first | (simp [entryFrame, mkF, argsToLocals, Value.category]; done) | rfl
set_option maxRecDepth 65536 in
set_option maxHeartbeats 40000000 in
theorem own_u_cfa3_0 (l : Launch) (Z : State) (a0 : Array Value) (hW : own_W Z a0) (t1 : Nat) (k1 : ClassId) (vs : List Value) (h0 : Heap) (n0 : Nat) (Z0 : n0 ≤ h0.size) (O0 : Old Z n0 h0) (V1 : Arv Z h0 t1 k1 .byte (3 : Int32) vs (.int (0 : Int32))) :
    own_M l own_y16 own_c16 2 (some .byte) (own_r 0 0 0 0) #[(.ref t1), (.int (3 : Int32))] Z h0 (own_u_cfa3_0_Q Z t1 k1 vs h0 n0) := by
  refine own_enter (own := "java/lang/StringUTF16") rfl (plainFor_of_name pn_java_lang_StringUTF16) (fun m => ef_own_u_cfa3_0 m t1 (3 : Int32)) ?_
  intro p e s m below meth c s₁ Bd hZ hh hx hby hml hown hnm X0 e0
  obtain ⟨hw, ⟨G1, O2, P5⟩, ⟨G3, O4, rG3⟩, Oa, Oh, Ol⟩ := id hW
  have N0 := Fr.nil n0
  have K0 := Keep.refl h0 []
  refine own_gs (cur' := s₁.setTop (mkF m 2 #[vr t1, vi (3 : Int32)] [(.ref t1), (.int (3 : Int32))])) ?_ ?_
  · refine XS.iloadN X0.here hx rfl (hb hby d16_0) rfl ?_
    refine XS.aloadN X0.here hx rfl (hb hby d16_1) rfl rfl ?_
    exact Steps.refl _
  obtain ⟨cl11, Ar11, q11, S11, M11, Hs11, G11⟩ := id V1
  refine own_go (X0.arraylength hx (by rw [e0]; exact Ar11.1) (State.isArrayOf_alike hZ.alike Ar11.2.1) (g := (mkF m 2 #[vr t1, vi (3 : Int32)] [(.ref t1), (.int (3 : Int32))])) rfl rfl (hb hby d16_2)) ?_
  rw [len_of S11 M11]
  show own_Fin p e below (s₁.setTop (mkF m 3 #[vr t1, vi (3 : Int32)] [(.int (3 : Int32)), (.int (3 : Int32))])) _
  refine own_gs (cur' := s₁.setTop (mkF m 8 #[vr t1, vi (3 : Int32)] [(.int (0 : Int32))])) ?_ ?_
  · refine XS.isub X0.here hx rfl (hb hby d16_3) rfl ?_
    refine XS.bipush X0.here hx rfl (hb hby d16_4) ?_
    refine XS.iushr X0.here hx rfl (hb hby d16_6) rfl ?_
    refine XS.i2b X0.here hx rfl (hb hby d16_7) rfl ?_
    exact Steps.refl _
  exact own_rN X0 Bd (by simp) (v := (0 : Int32)) rfl (hb hby d16_8) e0 (⟨rfl, N0, rfl⟩) rfl rfl
def own_u_cfa3_1_Q (Z : State) (t1 : Nat) (k1 : ClassId) (vs : List Value) (h0 : Heap) (n0 : Nat) (v : Option Value) (h : Heap) (L : List Loc) : Prop := v = (some (.int (1 : Int32))) ∧ Fr n0 L ∧ h = h0
theorem ef_own_u_cfa3_1 (m : MethodId) (x0 : Nat) (x1 : Int32) : entryFrame m #[(.ref x0), (.int x1)] 2 = mkF m 0 #[vr x0, vi x1] [] := by first | (simp [entryFrame, mkF, argsToLocals, Value.category]; done) | rfl
set_option maxRecDepth 65536 in
set_option maxHeartbeats 40000000 in
theorem own_u_cfa3_1 (l : Launch) (Z : State) (a0 : Array Value) (hW : own_W Z a0) (t1 : Nat) (k1 : ClassId) (vs : List Value) (h0 : Heap) (n0 : Nat) (Z0 : n0 ≤ h0.size) (O0 : Old Z n0 h0) (V1 : Arv Z h0 t1 k1 .byte (6 : Int32) vs (.int (0 : Int32))) :
    own_M l own_y16 own_c16 2 (some .byte) (own_r 0 0 0 0) #[(.ref t1), (.int (3 : Int32))] Z h0 (own_u_cfa3_1_Q Z t1 k1 vs h0 n0) := by
  refine own_enter (own := "java/lang/StringUTF16") rfl (plainFor_of_name pn_java_lang_StringUTF16) (fun m => ef_own_u_cfa3_1 m t1 (3 : Int32)) ?_
  intro p e s m below meth c s₁ Bd hZ hh hx hby hml hown hnm X0 e0
  obtain ⟨hw, ⟨G1, O2, P5⟩, ⟨G3, O4, rG3⟩, Oa, Oh, Ol⟩ := id hW
  have N0 := Fr.nil n0
  have K0 := Keep.refl h0 []
  refine own_gs (cur' := s₁.setTop (mkF m 2 #[vr t1, vi (3 : Int32)] [(.ref t1), (.int (3 : Int32))])) ?_ ?_
  · refine XS.iloadN X0.here hx rfl (hb hby d16_0) rfl ?_
    refine XS.aloadN X0.here hx rfl (hb hby d16_1) rfl rfl ?_
    exact Steps.refl _
  obtain ⟨cl11, Ar11, q11, S11, M11, Hs11, G11⟩ := id V1
  refine own_go (X0.arraylength hx (by rw [e0]; exact Ar11.1) (State.isArrayOf_alike hZ.alike Ar11.2.1) (g := (mkF m 2 #[vr t1, vi (3 : Int32)] [(.ref t1), (.int (3 : Int32))])) rfl rfl (hb hby d16_2)) ?_
  rw [len_of S11 M11]
  show own_Fin p e below (s₁.setTop (mkF m 3 #[vr t1, vi (3 : Int32)] [(.int (6 : Int32)), (.int (3 : Int32))])) _
  refine own_gs (cur' := s₁.setTop (mkF m 8 #[vr t1, vi (3 : Int32)] [(.int (1 : Int32))])) ?_ ?_
  · refine XS.isub X0.here hx rfl (hb hby d16_3) rfl ?_
    refine XS.bipush X0.here hx rfl (hb hby d16_4) ?_
    refine XS.iushr X0.here hx rfl (hb hby d16_6) rfl ?_
    refine XS.i2b X0.here hx rfl (hb hby d16_7) rfl ?_
    exact Steps.refl _
  exact own_rN X0 Bd (by simp) (v := (1 : Int32)) rfl (hb hby d16_8) e0 (⟨rfl, N0, rfl⟩) rfl rfl
def own_u_new4_3_Q (Z : State) (x1 b1 : Nat) (v0 c0_ : Value) (k1 : ClassId) (c0 c1 c2 : Int32) (h0 : Heap) (n0 : Nat) (v : Option Value) (h : Heap) (L : List Loc) : Prop := v = none ∧ Fr n0 L ∧ Keep h0 h [x1] ∧ ∃ t : Nat, x1 ≠ t ∧ own_Str Z h x1 t [c0, c1, c2]
theorem ef_own_u_new4_3 (m : MethodId) (x0 : Nat) (x1 : Nat) (x2 : Int32) (x3 : Int32) : entryFrame m #[(.ref x0), (.ref x1), (.int x2), (.int x3), .null] 6 = mkF m 0 #[vr x0, vr x1, vi x2, vi x3, vn, .unset] [] := by first | (simp [entryFrame, mkF, argsToLocals, Value.category]; done) | rfl
set_option maxRecDepth 65536 in
set_option maxHeartbeats 40000000 in
theorem own_u_new4_3 (l : Launch) (Z : State) (a0 : Array Value) (hW : own_W Z a0) (x1 b1 : Nat) (v0 c0_ : Value) (k1 : ClassId) (c0 c1 c2 : Int32) (h0 : Heap) (n0 : Nat) (Z0 : n0 ≤ h0.size) (O0 : Old Z n0 h0) (E1 : Exa Z h0 x1 "java/lang/String") (Fv1 : Fld Z h0 x1 "java/lang/String" "value" "[B" v0) (Fc1 : Fld Z h0 x1 "java/lang/String" "coder" "B" c0_) (g1 : n0 ≤ x1) (V1 : Arv Z h0 b1 k1 .char (3 : Int32) [(.int c0), (.int c1), (.int c2)] (.int (0 : Int32))) (hb0 : ¬ c0 < 0 ∧ ¬ (65535 : Int32) < c0) (hb1 : ¬ c1 < 0 ∧ ¬ (65535 : Int32) < c1) (hb2 : ¬ c2 < 0 ∧ ¬ (65535 : Int32) < c2) :
    own_M l own_y0 own_c0 6 none (own_r 4 2 9 57) #[(.ref x1), (.ref b1), (.int (0 : Int32)), (.int (3 : Int32)), .null] Z h0 (own_u_new4_3_Q Z x1 b1 v0 c0_ k1 c0 c1 c2 h0 n0) := by
  refine own_enter (own := "java/lang/String") rfl (plainFor_of_name pn_java_lang_String) (fun m => ef_own_u_new4_3 m x1 b1 (0 : Int32) (3 : Int32)) ?_
  intro p e s m below meth c s₁ Bd hZ hh hx hby hml hown hnm X0 e0
  obtain ⟨hw, ⟨G1, O2, P5⟩, ⟨G3, O4, rG3⟩, Oa, Oh, Ol⟩ := id hW
  have N0 := Fr.nil n0
  have K0 := Keep.refl h0 [x1]
  have lt1 := own_lt E1.lt
  have lt1 := own_lt V1.lt
  have hbd : ∀ c ∈ ([c0, c1, c2] : List Int32), ¬ c < 0 ∧ ¬ (65535 : Int32) < c := by
    intro c hc
    simp only [List.mem_cons, List.not_mem_nil, or_false] at hc
    rcases hc with rfl | rfl | rfl
    · exact hb0
    · exact hb1
    · exact hb2
  refine own_gs (cur' := s₁.setTop (mkF m 1 #[vr x1, vr b1, vi (0 : Int32), vi (3 : Int32), vn, uu] [(.ref x1)])) ?_ ?_
  · refine XS.aloadN X0.here hx rfl (hb hby d0_0) rfl rfl ?_
    exact Steps.refl _
  obtain ⟨T11, X11, e11, st11⟩ := initO X0 hx hZ hown (tw_ hw 26 rfl) (tw_ hw 27 rfl) (tw_ hw 28 rfl) e0 (g := (mkF m 1 #[vr x1, vr b1, vi (0 : Int32), vi (3 : Int32), vn, uu] [(.ref x1)])) rfl (by rw [hml]; rfl) rfl (hb hby d0_1) (by decide) (W := 0) (own_le rfl) (by decide)
  refine own_go st11 ?_
  refine own_gs (cur' := T11.setTop (mkF m 27 #[vr x1, vr b1, vi (0 : Int32), vi (3 : Int32), vn, uu] [])) ?_ ?_
  · refine XS.iloadN X11.here hx rfl (hb hby d0_4) rfl ?_
    refine XS.ifYes X11.here hx rfl (pc0 := 5) (pc' := 27) rfl (hb hby d0_5) rfl ((if0 _ _).trans (feq ((by decide) : ¬ ((3 : Int32) = (0 : Int32)))).2) (by decide) (by decide) ?_
    exact Steps.refl _
  obtain ⟨T12, X12, e12, st12⟩ := getS2 X11 hx hZ hown (host := "") (Or.inl (tw_ hw 11 rfl)) Via.refl e11 (O2.ext O0.2) (g := (mkF m 27 #[vr x1, vr b1, vi (0 : Int32), vi (3 : Int32), vn, uu] [])) rfl (hb hby d0_27)
  refine own_go st12 ?_
  refine own_gs (cur' := T12.setTop (mkF m 36 #[vr x1, vr b1, vi (0 : Int32), vi (3 : Int32), vn, uu] [(.int (3 : Int32)), (.int (0 : Int32)), (.ref b1)])) ?_ ?_
  · refine XS.ifNo X12.here hx rfl (hb hby d0_30) rfl ((if0 _ _).trans (feq (P5 : ¬ (G1 = (0 : Int32)))).1) ?_
    refine XS.aloadN X12.here hx rfl (hb hby d0_33) rfl rfl ?_
    refine XS.iloadN X12.here hx rfl (hb hby d0_34) rfl ?_
    refine XS.iloadN X12.here hx rfl (hb hby d0_35) rfl ?_
    exact Steps.refl _
  obtain ⟨_, _, ⟨T13, L13, k13, n13⟩, -, X13, ⟨Lc13, hQ13, l13, y13, z13⟩, st13⟩ := Jvm.LawKit.callS X12 hx (y := own_y15) hown (mvT hZ (tw_ hw 168 rfl)) (mvT hZ (tw_ hw 169 rfl)) (mvT hZ (tw_ hw 170 rfl)) (mvT hZ (tw_ hw 171 rfl)) (by decide) (backOf (W := 0) (own_u_cmpr3 l Z a0 hW b1 k1 c0 c1 c2 h0 n0 (by omega) O0 V1 hb0 hb1 hb2) hZ (tw_ hw 171 rfl) (tw_ hw 170 rfl) (by decide) (by decide)) (g := (mkF m 36 #[vr x1, vr b1, vi (0 : Int32), vi (3 : Int32), vn, uu] [(.int (3 : Int32)), (.int (0 : Int32)), (.ref b1)])) rfl (by rw [hml]; rfl) (argsL := [(.ref b1), (.int (0 : Int32)), (.int (3 : Int32))]) (rest := []) (lenOf pd_11 rfl) rfl (own_le rfl) (hb hby d0_36) (fun _ _ => ⟨rfl, e12, own_le rfl, own_le rfl⟩)
  dsimp only [Pt.U, Pt.locs, Pt.cells, Pt.slots] at X13 l13 y13 z13 st13 hQ13
  subst l13 y13 z13
  obtain ⟨t13, kb13, rfl, Nq13, Kq13, ge13, hor⟩ := hQ13
  have N13 := Fr.app N0 Nq13
  have z14 := Kq13.1
  have K14 := K0.trans Kq13 all0
  have O14 := O0.keep Kq13 all0
  rcases hor with ⟨hal, Vt⟩ | ⟨hbig, Vt⟩
  · have ltt := own_lt Vt.lt
    refine own_go st13 ?_
    show own_Fin p e below (T13.setTop (mkF m 39 #[vr x1, vr b1, vi (0 : Int32), vi (3 : Int32), vn, uu] [(.ref t13)])) _
    refine own_gs (cur' := T13.setTop (mkF m 45 #[vr x1, vr b1, vi (0 : Int32), vi (3 : Int32), vn, vr t13] [(.int (3 : Int32)), (.ref t13), (.ref x1)])) ?_ ?_
    · refine XS.astore X13.here hx rfl (hb hby d0_39) rfl rfl (l' := #[vr x1, vr b1, vi (0 : Int32), vi (3 : Int32), vn, vr t13]) rfl ?_
      refine XS.aloadN X13.here hx rfl (hb hby d0_41) rfl rfl ?_
      refine XS.aload X13.here hx rfl (hb hby d0_42) rfl rfl ?_
      refine XS.iloadN X13.here hx rfl (hb hby d0_44) rfl ?_
      exact Steps.refl _
    obtain ⟨_, _, ⟨T15, L15, k15, n15⟩, -, X15, ⟨Lc15, hQ15, l15, y15, z15⟩, st15⟩ := Jvm.LawKit.callS X13 hx (y := own_y16) hown (mvT hZ (tw_ hw 175 rfl)) (mvT hZ (tw_ hw 176 rfl)) (mvT hZ (tw_ hw 170 rfl)) (mvT hZ (tw_ hw 177 rfl)) (by decide) (backOf (W := 1) (own_u_cfa3_0 l Z a0 hW t13 kb13 _ T13.heap n0 (by omega) O14 Vt) hZ (tw_ hw 177 rfl) (tw_ hw 170 rfl) (by decide) (by decide)) (g := (mkF m 45 #[vr x1, vr b1, vi (0 : Int32), vi (3 : Int32), vn, vr t13] [(.int (3 : Int32)), (.ref t13), (.ref x1)])) rfl (by rw [hml]; rfl) (argsL := [(.ref t13), (.int (3 : Int32))]) (rest := [(.ref x1)]) (lenOf pd_12 rfl) rfl (own_le rfl) (hb hby d0_45) (fun _ _ => ⟨rfl, rfl, own_le rfl, own_le rfl⟩)
    dsimp only [Pt.U, Pt.locs, Pt.cells, Pt.slots] at X15 l15 y15 z15 st15 hQ15
    subst l15 y15 z15
    obtain ⟨rfl, Nq15, eh15⟩ := hQ15
    have N15 := Fr.app N13 Nq15
    refine own_go st15 ?_
    have f17 := (Fc1.keep Kq13 nin0)
    have f18 := (E1.keep Kq13)
    obtain ⟨T16, h16, X16, e16, W16, st16⟩ := putF X15 hx hZ hown (host := "") (Or.inl (tw_ hw 31 rfl)) Via.refl eh15 f17 f18 (Or.inr ⟨(tw_ hw 32 rfl), rfl, hnm⟩) (tw_ hw 17 rfl) (ty := .byte) (by decide) rfl rfl (g := (mkF m 48 #[vr x1, vr b1, vi (0 : Int32), vi (3 : Int32), vn, vr t13] [(.int (0 : Int32)), (.ref x1)])) rfl rfl (hb hby d0_48)
    have F16 := f17.same W16
    refine own_go st16 ?_
    have z19 := W16.size
    have K19 := K14.wr W16 (Or.inl (List.mem_of_getElem? (i := 0) rfl))
    have O19 := O14.wr W16 (by omega)
    have N19 := Fr.snoc X16 N15 (by omega)
    refine own_gs (cur' := T16.setTop (mkF m 54 #[vr x1, vr b1, vi (0 : Int32), vi (3 : Int32), vn, vr t13] [(.ref t13), (.ref x1)])) ?_ ?_
    · refine XS.aloadN X16.here hx rfl (hb hby d0_51) rfl rfl ?_
      refine XS.aload X16.here hx rfl (hb hby d0_52) rfl rfl ?_
      exact Steps.refl _
    have f21 := ((Fv1.keep Kq13 nin0).other W16 (Or.inr (slot_ne (Or.inr (tw_ hw 30 rfl)) (Or.inr (tw_ hw 32 rfl)) (by decide) (t := (.array .byte)) (t' := .byte) (by decide) (by decide))))
    have f22 := (f18.wr W16)
    obtain ⟨T20, h20, X20, e20, W20, st20⟩ := putF X16 hx hZ hown (host := "") (Or.inl (tw_ hw 29 rfl)) Via.refl e16 f21 f22 (Or.inr ⟨(tw_ hw 30 rfl), rfl, hnm⟩) (tw_ hw 17 rfl) (ty := (.array .byte)) (by decide) rfl rfl (g := (mkF m 54 #[vr x1, vr b1, vi (0 : Int32), vi (3 : Int32), vn, vr t13] [(.ref t13), (.ref x1)])) rfl rfl (hb hby d0_54)
    have F20 := f21.same W20
    refine own_go st20 ?_
    have z23 := W20.size
    have K23 := K19.wr W20 (Or.inl (List.mem_of_getElem? (i := 0) rfl))
    have O23 := O19.wr W20 (by omega)
    have N23 := Fr.snoc X20 N19 (by omega)
    have f24 := (f22.wr W20)
    have f25 := (F16.other W20 (Or.inr (slot_ne (Or.inr (tw_ hw 32 rfl)) (Or.inr (tw_ hw 30 rfl)) (by decide) (t := .byte) (t' := (.array .byte)) (by decide) (by decide))))
    have f26 := ((Vt.other W16 (own_ne (a := t13) (b := x1) (by omega))).other W20 (own_ne (a := t13) (b := x1) (by omega)))
    exact own_rV X20 Bd (hb hby d0_57) e20 (⟨rfl, N23, K23, t13, (by omega), ⟨_, _, _, _, f24, F20, f25, f26, Or.inl ⟨rfl, rfl, rfl, hal⟩, hbd, Nat.le_of_ble_eq_true rfl⟩⟩) rfl rfl
  · have ltt := own_lt Vt.lt
    refine own_go st13 ?_
    show own_Fin p e below (T13.setTop (mkF m 39 #[vr x1, vr b1, vi (0 : Int32), vi (3 : Int32), vn, uu] [(.ref t13)])) _
    refine own_gs (cur' := T13.setTop (mkF m 45 #[vr x1, vr b1, vi (0 : Int32), vi (3 : Int32), vn, vr t13] [(.int (3 : Int32)), (.ref t13), (.ref x1)])) ?_ ?_
    · refine XS.astore X13.here hx rfl (hb hby d0_39) rfl rfl (l' := #[vr x1, vr b1, vi (0 : Int32), vi (3 : Int32), vn, vr t13]) rfl ?_
      refine XS.aloadN X13.here hx rfl (hb hby d0_41) rfl rfl ?_
      refine XS.aload X13.here hx rfl (hb hby d0_42) rfl rfl ?_
      refine XS.iloadN X13.here hx rfl (hb hby d0_44) rfl ?_
      exact Steps.refl _
    obtain ⟨_, _, ⟨T27, L27, k27, n27⟩, -, X27, ⟨Lc27, hQ27, l27, y27, z27⟩, st27⟩ := Jvm.LawKit.callS X13 hx (y := own_y16) hown (mvT hZ (tw_ hw 175 rfl)) (mvT hZ (tw_ hw 176 rfl)) (mvT hZ (tw_ hw 170 rfl)) (mvT hZ (tw_ hw 177 rfl)) (by decide) (backOf (W := 1) (own_u_cfa3_1 l Z a0 hW t13 kb13 _ T13.heap n0 (by omega) O14 Vt) hZ (tw_ hw 177 rfl) (tw_ hw 170 rfl) (by decide) (by decide)) (g := (mkF m 45 #[vr x1, vr b1, vi (0 : Int32), vi (3 : Int32), vn, vr t13] [(.int (3 : Int32)), (.ref t13), (.ref x1)])) rfl (by rw [hml]; rfl) (argsL := [(.ref t13), (.int (3 : Int32))]) (rest := [(.ref x1)]) (lenOf pd_12 rfl) rfl (own_le rfl) (hb hby d0_45) (fun _ _ => ⟨rfl, rfl, own_le rfl, own_le rfl⟩)
    dsimp only [Pt.U, Pt.locs, Pt.cells, Pt.slots] at X27 l27 y27 z27 st27 hQ27
    subst l27 y27 z27
    obtain ⟨rfl, Nq27, eh27⟩ := hQ27
    have N27 := Fr.app N13 Nq27
    refine own_go st27 ?_
    have f29 := (Fc1.keep Kq13 nin0)
    have f30 := (E1.keep Kq13)
    obtain ⟨T28, h28, X28, e28, W28, st28⟩ := putF X27 hx hZ hown (host := "") (Or.inl (tw_ hw 31 rfl)) Via.refl eh27 f29 f30 (Or.inr ⟨(tw_ hw 32 rfl), rfl, hnm⟩) (tw_ hw 17 rfl) (ty := .byte) (by decide) rfl rfl (g := (mkF m 48 #[vr x1, vr b1, vi (0 : Int32), vi (3 : Int32), vn, vr t13] [(.int (1 : Int32)), (.ref x1)])) rfl rfl (hb hby d0_48)
    have F28 := f29.same W28
    refine own_go st28 ?_
    have z31 := W28.size
    have K31 := K14.wr W28 (Or.inl (List.mem_of_getElem? (i := 0) rfl))
    have O31 := O14.wr W28 (by omega)
    have N31 := Fr.snoc X28 N27 (by omega)
    refine own_gs (cur' := T28.setTop (mkF m 54 #[vr x1, vr b1, vi (0 : Int32), vi (3 : Int32), vn, vr t13] [(.ref t13), (.ref x1)])) ?_ ?_
    · refine XS.aloadN X28.here hx rfl (hb hby d0_51) rfl rfl ?_
      refine XS.aload X28.here hx rfl (hb hby d0_52) rfl rfl ?_
      exact Steps.refl _
    have f33 := ((Fv1.keep Kq13 nin0).other W28 (Or.inr (slot_ne (Or.inr (tw_ hw 30 rfl)) (Or.inr (tw_ hw 32 rfl)) (by decide) (t := (.array .byte)) (t' := .byte) (by decide) (by decide))))
    have f34 := (f30.wr W28)
    obtain ⟨T32, h32, X32, e32, W32, st32⟩ := putF X28 hx hZ hown (host := "") (Or.inl (tw_ hw 29 rfl)) Via.refl e28 f33 f34 (Or.inr ⟨(tw_ hw 30 rfl), rfl, hnm⟩) (tw_ hw 17 rfl) (ty := (.array .byte)) (by decide) rfl rfl (g := (mkF m 54 #[vr x1, vr b1, vi (0 : Int32), vi (3 : Int32), vn, vr t13] [(.ref t13), (.ref x1)])) rfl rfl (hb hby d0_54)
    have F32 := f33.same W32
    refine own_go st32 ?_
    have z35 := W32.size
    have K35 := K31.wr W32 (Or.inl (List.mem_of_getElem? (i := 0) rfl))
    have O35 := O31.wr W32 (by omega)
    have N35 := Fr.snoc X32 N31 (by omega)
    have f36 := (f34.wr W32)
    have f37 := (F28.other W32 (Or.inr (slot_ne (Or.inr (tw_ hw 32 rfl)) (Or.inr (tw_ hw 30 rfl)) (by decide) (t := .byte) (t' := (.array .byte)) (by decide) (by decide))))
    have f38 := ((Vt.other W28 (own_ne (a := t13) (b := x1) (by omega))).other W32 (own_ne (a := t13) (b := x1) (by omega)))
    exact own_rV X32 Bd (hb hby d0_57) e32 (⟨rfl, N35, K35, t13, (by omega), ⟨_, _, _, _, f36, F32, f37, f38, Or.inr ⟨rfl, rfl, rfl, hbig⟩, hbd, Nat.le_of_ble_eq_true rfl⟩⟩) rfl rfl
def own_u_new1_3_Q (Z : State) (x1 b1 : Nat) (v0 c0_ : Value) (k1 : ClassId) (c0 c1 c2 : Int32) (h0 : Heap) (n0 : Nat) (v : Option Value) (h : Heap) (L : List Loc) : Prop := v = none ∧ Fr n0 L ∧ Keep h0 h [x1] ∧ ∃ t : Nat, x1 ≠ t ∧ own_Str Z h x1 t [c0, c1, c2]
theorem ef_own_u_new1_3 (m : MethodId) (x0 : Nat) (x1 : Nat) : entryFrame m #[(.ref x0), (.ref x1)] 2 = mkF m 0 #[vr x0, vr x1] [] := by first | (simp [entryFrame, mkF, argsToLocals, Value.category]; done) | rfl
set_option maxRecDepth 65536 in
set_option maxHeartbeats 40000000 in
theorem own_u_new1_3 (l : Launch) (Z : State) (a0 : Array Value) (hW : own_W Z a0) (x1 b1 : Nat) (v0 c0_ : Value) (k1 : ClassId) (c0 c1 c2 : Int32) (h0 : Heap) (n0 : Nat) (Z0 : n0 ≤ h0.size) (O0 : Old Z n0 h0) (E1 : Exa Z h0 x1 "java/lang/String") (Fv1 : Fld Z h0 x1 "java/lang/String" "value" "[B" v0) (Fc1 : Fld Z h0 x1 "java/lang/String" "coder" "B" c0_) (g1 : n0 ≤ x1) (V1 : Arv Z h0 b1 k1 .char (3 : Int32) [(.int c0), (.int c1), (.int c2)] (.int (0 : Int32))) (hb0 : ¬ c0 < 0 ∧ ¬ (65535 : Int32) < c0) (hb1 : ¬ c1 < 0 ∧ ¬ (65535 : Int32) < c1) (hb2 : ¬ c2 < 0 ∧ ¬ (65535 : Int32) < c2) :
    own_M l own_y1 own_c1 2 none (own_r 5 2 9 74) #[(.ref x1), (.ref b1)] Z h0 (own_u_new1_3_Q Z x1 b1 v0 c0_ k1 c0 c1 c2 h0 n0) := by
  refine own_enter (own := "java/lang/String") rfl (plainFor_of_name pn_java_lang_String) (fun m => ef_own_u_new1_3 m x1 b1) ?_
  intro p e s m below meth c s₁ Bd hZ hh hx hby hml hown hnm X0 e0
  obtain ⟨hw, ⟨G1, O2, P5⟩, ⟨G3, O4, rG3⟩, Oa, Oh, Ol⟩ := id hW
  have N0 := Fr.nil n0
  have K0 := Keep.refl h0 [x1]
  have lt1 := own_lt E1.lt
  have lt1 := own_lt V1.lt
  refine own_gs (cur' := s₁.setTop (mkF m 4 #[vr x1, vr b1] [(.ref b1), (.int (0 : Int32)), (.ref b1), (.ref x1)])) ?_ ?_
  · refine XS.aloadN X0.here hx rfl (hb hby d1_0) rfl rfl ?_
    refine XS.aloadN X0.here hx rfl (hb hby d1_1) rfl rfl ?_
    refine XS.iconst X0.here hx rfl (hb hby d1_2) ?_
    refine XS.aloadN X0.here hx rfl (hb hby d1_3) rfl rfl ?_
    exact Steps.refl _
  obtain ⟨cl11, Ar11, q11, S11, M11, Hs11, G11⟩ := id V1
  refine own_go (X0.arraylength hx (by rw [e0]; exact Ar11.1) (State.isArrayOf_alike hZ.alike Ar11.2.1) (g := (mkF m 4 #[vr x1, vr b1] [(.ref b1), (.int (0 : Int32)), (.ref b1), (.ref x1)])) rfl rfl (hb hby d1_4)) ?_
  rw [len_of S11 M11]
  show own_Fin p e below (s₁.setTop (mkF m 5 #[vr x1, vr b1] [(.int (3 : Int32)), (.int (0 : Int32)), (.ref b1), (.ref x1)])) _
  refine own_gs (cur' := s₁.setTop (mkF m 6 #[vr x1, vr b1] [.null, (.int (3 : Int32)), (.int (0 : Int32)), (.ref b1), (.ref x1)])) ?_ ?_
  · refine XS.aconstNull X0.here hx rfl (hb hby d1_5) ?_
    exact Steps.refl _
  obtain ⟨_, _, ⟨T12, L12, k12, n12⟩, -, X12, ⟨Lc12, hQ12, l12, y12, z12⟩, st12⟩ := X0.specialBack hx (y := own_y0) rfl hown (mvT hZ (tw_ hw 165 rfl)) (mvT hZ (tw_ hw 166 rfl)) (mvT hZ (tw_ hw 167 rfl)) (by decide) (backOf (W := 0) (own_u_new4_3 l Z a0 hW x1 b1 v0 c0_ k1 c0 c1 c2 h0 n0 (by omega) O0 E1 Fv1 Fc1 g1 V1 hb0 hb1 hb2) hZ (tw_ hw 167 rfl) (tw_ hw 9 rfl) (by decide) (by decide)) (g := (mkF m 6 #[vr x1, vr b1] [.null, (.int (3 : Int32)), (.int (0 : Int32)), (.ref b1), (.ref x1)])) rfl (by rw [hml]; rfl) (Steps.refl _) (a := x1) (argsL := [(.ref b1), (.int (0 : Int32)), (.int (3 : Int32)), .null]) (rest := []) (lenOf pd_0 rfl) rfl (own_le rfl) (hb hby d1_6) (fun _ _ => ⟨rfl, e0, own_le rfl, own_le rfl⟩)
  dsimp only [Pt.U, Pt.locs, Pt.cells, Pt.slots] at X12 l12 y12 z12 st12 hQ12
  subst l12 y12 z12
  obtain ⟨rfl, Nq12, Kq12, tq, hne, F12⟩ := hQ12
  have N12 := Fr.app N0 Nq12
  have z13 := Kq12.1
  have K13 := K0.trans Kq12 (allS (Or.inl (List.mem_of_getElem? (i := 0) rfl)) all0)
  have O13 := O0.keep Kq12 (allS (by omega) all0)
  refine own_gs st12 ?_
  exact own_rV X12 Bd (hb hby d1_9) rfl (⟨rfl, N12, K13, tq, hne, F12⟩) rfl rfl
abbrev own_c17 : ByteArray := jdk_43_method_3_code
def own_u_ce_Q (Z : State) (c0 : Int32) (h0 : Heap) (n0 : Nat) (v : Option Value) (h : Heap) (L : List Loc) : Prop := ((v = some (.int (1 : Int32)) ∧ ¬ (255 : Int32) < c0) ∨ (v = some (.int (0 : Int32)) ∧ (255 : Int32) < c0)) ∧ Fr n0 L ∧ h = h0
theorem pn_java_lang_StringLatin1 : plainName "java/lang/StringLatin1" = true := by first | (simp [plainName, overriddenIn]; done) | decide +kernel
theorem ef_own_u_ce (m : MethodId) (x0 : Int32) : entryFrame m #[(.int x0)] 1 = mkF m 0 #[vi x0] [] := by first | (simp [entryFrame, mkF, argsToLocals, Value.category]; done) | rfl
abbrev own_y17 : MethodName := ⟨"java/lang/StringLatin1", "canEncode", "(C)Z"⟩
theorem d17_0 : decode own_c17 0 = .ok (.iload_n 0, 1) := by decide +kernel
theorem d17_1 : decode own_c17 1 = .ok (.sipush 255, 3) := by decide +kernel
theorem d17_4 : decode own_c17 4 = .ok (.if_icmp .gt 7, 3) := by decide +kernel
theorem d17_11 : decode own_c17 11 = .ok (.iconst 0, 1) := by decide +kernel
theorem d17_12 : decode own_c17 12 = .ok (.ireturn, 1) := by decide +kernel
theorem d17_7 : decode own_c17 7 = .ok (.iconst 1, 1) := by decide +kernel
theorem d17_8 : decode own_c17 8 = .ok (.goto 4, 3) := by decide +kernel
set_option maxRecDepth 65536 in
set_option maxHeartbeats 40000000 in
theorem own_u_ce (l : Launch) (Z : State) (a0 : Array Value) (hW : own_W Z a0) (c0 : Int32) (h0 : Heap) (n0 : Nat) (Z0 : n0 ≤ h0.size) (O0 : Old Z n0 h0)  :
    own_M l own_y17 own_c17 1 (some .boolean) (own_r 0 0 0 0) #[(.int c0)] Z h0 (own_u_ce_Q Z c0 h0 n0) := by
  refine own_enter (own := "java/lang/StringLatin1") rfl (plainFor_of_name pn_java_lang_StringLatin1) (fun m => ef_own_u_ce m c0) ?_
  intro p e s m below meth c s₁ Bd hZ hh hx hby hml hown hnm X0 e0
  obtain ⟨hw, ⟨G1, O2, P5⟩, ⟨G3, O4, rG3⟩, Oa, Oh, Ol⟩ := id hW
  have N0 := Fr.nil n0
  have K0 := Keep.refl h0 []
  refine own_gs (cur' := s₁.setTop (mkF m 4 #[vi c0] [(.int (255 : Int32)), (.int c0)])) ?_ ?_
  · refine XS.iloadN X0.here hx rfl (hb hby d17_0) rfl ?_
    refine XS.sipush X0.here hx rfl (hb hby d17_1) ?_
    exact Steps.refl _
  by_cases hc4_11 : (255 : Int32) < c0
  · refine own_gs (cur' := s₁.setTop (mkF m 12 #[vi c0] [(.int (0 : Int32))])) ?_ ?_
    · refine XS.icmpYes X0.here hx rfl (pc0 := 4) (pc' := 11) rfl (hb hby d17_4) rfl (tlt (hc4_11 : (255 : Int32) < c0)).2.2.1 (by decide) (by decide) ?_
      refine XS.iconst X0.here hx rfl (hb hby d17_11) ?_
      exact Steps.refl _
    exact own_rN X0 Bd (by simp) (v := (0 : Int32)) rfl (hb hby d17_12) e0 (⟨Or.inr ⟨rfl, hc4_11⟩, N0, rfl⟩) rfl rfl
  · refine own_gs (cur' := s₁.setTop (mkF m 12 #[vi c0] [(.int (1 : Int32))])) ?_ ?_
    · refine XS.icmpNo X0.here hx rfl (hb hby d17_4) rfl (flt (hc4_11 : ¬ ((255 : Int32) < c0))).2.2.1 ?_
      refine XS.iconst X0.here hx rfl (hb hby d17_7) ?_
      refine XS.goto X0.here hx rfl (pc0 := 8) (pc' := 12) rfl (hb hby d17_8) (by decide) (by decide) ?_
      exact Steps.refl _
    exact own_rN X0 Bd (by simp) (v := (1 : Int32)) rfl (hb hby d17_12) e0 (⟨Or.inl ⟨rfl, hc4_11⟩, N0, rfl⟩) rfl rfl
abbrev own_c18 : ByteArray := jdk_43_method_46_code
def own_u_ltb_Q (Z : State) (c0 : Int32) (h0 : Heap) (n0 : Nat) (v : Option Value) (h : Heap) (L : List Loc) : Prop := ∃ (t : Nat) (kb : ClassId), v = some (.ref t) ∧ Fr n0 L ∧ Keep h0 h [] ∧ Arv Z h t kb .byte (1 : Int32) [(.int (StrChars.lo8 c0))] (.int (0 : Int32)) ∧ h0.size ≤ t
theorem ef_own_u_ltb (m : MethodId) (x0 : Int32) : entryFrame m #[(.int x0)] 1 = mkF m 0 #[vi x0] [] := by first | (simp [entryFrame, mkF, argsToLocals, Value.category]; done) | rfl
abbrev own_y18 : MethodName := ⟨"java/lang/StringLatin1", "toBytes", "(C)[B"⟩
theorem d18_0 : decode own_c18 0 = .ok (.iconst 1, 1) := by decide +kernel
theorem d18_1 : decode own_c18 1 = .ok (.newarray .byte, 2) := by decide +kernel
theorem d18_3 : decode own_c18 3 = .ok (.dup, 1) := by decide +kernel
theorem d18_4 : decode own_c18 4 = .ok (.iconst 0, 1) := by decide +kernel
theorem d18_5 : decode own_c18 5 = .ok (.iload_n 0, 1) := by decide +kernel
theorem d18_6 : decode own_c18 6 = .ok (.i2b, 1) := by decide +kernel
theorem d18_7 : decode own_c18 7 = .ok (.bastore, 1) := by decide +kernel
theorem d18_8 : decode own_c18 8 = .ok (.areturn, 1) := by decide +kernel
set_option maxRecDepth 65536 in
set_option maxHeartbeats 40000000 in
theorem own_u_ltb (l : Launch) (Z : State) (a0 : Array Value) (hW : own_W Z a0) (c0 : Int32) (h0 : Heap) (n0 : Nat) (Z0 : n0 ≤ h0.size) (O0 : Old Z n0 h0)  :
    own_M l own_y18 own_c18 1 (some (.array .byte)) (own_r 0 1 1 0) #[(.int c0)] Z h0 (own_u_ltb_Q Z c0 h0 n0) := by
  refine own_enter (own := "java/lang/StringLatin1") rfl (plainFor_of_name pn_java_lang_StringLatin1) (fun m => ef_own_u_ltb m c0) ?_
  intro p e s m below meth c s₁ Bd hZ hh hx hby hml hown hnm X0 e0
  obtain ⟨hw, ⟨G1, O2, P5⟩, ⟨G3, O4, rG3⟩, Oa, Oh, Ol⟩ := id hW
  have N0 := Fr.nil n0
  have K0 := Keep.refl h0 []
  refine own_gs (cur' := s₁.setTop (mkF m 1 #[vi c0] [(.int (1 : Int32))])) ?_ ?_
  · refine XS.iconst X0.here hx rfl (hb hby d18_0) ?_
    exact Steps.refl _
  obtain ⟨T11, h11, k11, X11, e11, E11, A11, Eb11, st11⟩ := newPE X0 hx hZ (tw_ hw 21 rfl) e0 (g := (mkF m 1 #[vi c0] [(.int (1 : Int32))])) rfl (hb hby d18_1) rfl (by decide) (cap := 1) (by decide) (by decide) (by decide) (by decide) (ad := "[B") rfl
  obtain ⟨b11, g11⟩ : ∃ z, z = h0.size := ⟨_, rfl⟩
  rw [← g11] at A11 st11
  have lt11 := own_lt A11.lt
  refine own_go st11 ?_
  have z12 := E11.1
  have K12 := K0.ext E11
  have O12 := O0.ext E11
  have V11 : Arv Z h11 b11 k11 .byte (1 : Int32) [(.int (0 : Int32))] (.int (0 : Int32)) := (Arv.new A11 (by decide)).pad (pad_rep [] (.int (0 : Int32)) 1)
  rw [← g11] at Eb11
  have fc11 := own_fcB V11 Eb11
  refine own_gs (cur' := T11.setTop (mkF m 7 #[vi c0] [(.int (c0.toInt8.toInt32)), (.int (0 : Int32)), (.ref b11), (.ref b11)])) ?_ ?_
  · refine XS.dup X11.here hx rfl (hb hby d18_3) rfl rfl ?_
    refine XS.iconst X11.here hx rfl (hb hby d18_4) ?_
    refine XS.iloadN X11.here hx rfl (hb hby d18_5) rfl ?_
    refine XS.i2b X11.here hx rfl (hb hby d18_6) rfl ?_
    exact Steps.refl _
  obtain ⟨cl13, Ar13, q13, S13, M13, Hs13, G13⟩ := id V11
  have hin13 : ¬ ((0 : Int32) < 0 ∨ cl13.slots.size ≤ ((0 : Int32)).toNatClampNeg) := inb_of S13 ⟨by decide, by decide⟩
  obtain ⟨T13, h13, X13, e13, W13, st13⟩ := stB X11 hx hZ e11 Ar13 (j := (0 : Int32)) hin13 (g := (mkF m 7 #[vi c0] [(.int (c0.toInt8.toInt32)), (.int (0 : Int32)), (.ref b11), (.ref b11)])) rfl rfl (hb hby d18_7)
  have V13 := Arv.set Ar13 q13 S13 M13 Hs13 G13 (fits_nar_byte _) W13 0 rfl (Nat.le_of_ble_eq_true rfl)
  refine own_go st13 ?_
  have z14 := W13.size
  have K14 := K12.wr W13 (Or.inr (by omega))
  have O14 := O12.wr W13 (by omega)
  have N14 := Fr.snoc X13 N0 (by omega)
  have Vf := V13
  rw [own_b2] at Vf
  exact own_rA X13 Bd rfl (v := (.ref b11)) rfl (hb hby d18_8) e13 (⟨_, _, rfl, N14, K14, Vf, (by omega)⟩) rfl rfl
abbrev own_c19 : ByteArray := jdk_52_method_24_code
def own_u_utb_Q (Z : State) (c0 : Int32) (h0 : Heap) (n0 : Nat) (v : Option Value) (h : Heap) (L : List Loc) : Prop := ∃ (t : Nat) (kb : ClassId), v = some (.ref t) ∧ Fr n0 L ∧ Keep h0 h [] ∧ Arv Z h t kb .byte (2 : Int32) (StrChars.Road.wideBytes [c0]) (.int (0 : Int32)) ∧ h0.size ≤ t
theorem ef_own_u_utb (m : MethodId) (x0 : Int32) : entryFrame m #[(.int x0)] 2 = mkF m 0 #[vi x0, .unset] [] := by first | (simp [entryFrame, mkF, argsToLocals, Value.category]; done) | rfl
abbrev own_y19 : MethodName := ⟨"java/lang/StringUTF16", "toBytes", "(C)[B"⟩
theorem d19_0 : decode own_c19 0 = .ok (.iconst 2, 1) := by decide +kernel
theorem d19_1 : decode own_c19 1 = .ok (.newarray .byte, 2) := by decide +kernel
theorem d19_3 : decode own_c19 3 = .ok (.astore_n 1, 1) := by decide +kernel
theorem d19_4 : decode own_c19 4 = .ok (.aload_n 1, 1) := by decide +kernel
theorem d19_5 : decode own_c19 5 = .ok (.iconst 0, 1) := by decide +kernel
theorem d19_6 : decode own_c19 6 = .ok (.iload_n 0, 1) := by decide +kernel
theorem d19_7 : decode own_c19 7 = .ok (.invokestatic 111, 3) := by decide +kernel
theorem d19_10 : decode own_c19 10 = .ok (.aload_n 1, 1) := by decide +kernel
theorem d19_11 : decode own_c19 11 = .ok (.areturn, 1) := by decide +kernel
set_option maxRecDepth 65536 in
set_option maxHeartbeats 40000000 in
theorem own_u_utb (l : Launch) (Z : State) (a0 : Array Value) (hW : own_W Z a0) (c0 : Int32) (h0 : Heap) (n0 : Nat) (Z0 : n0 ≤ h0.size) (O0 : Old Z n0 h0)  :
    own_M l own_y19 own_c19 2 (some (.array .byte)) (own_r 1 1 2 14) #[(.int c0)] Z h0 (own_u_utb_Q Z c0 h0 n0) := by
  refine own_enter (own := "java/lang/StringUTF16") rfl (plainFor_of_name pn_java_lang_StringUTF16) (fun m => ef_own_u_utb m c0) ?_
  intro p e s m below meth c s₁ Bd hZ hh hx hby hml hown hnm X0 e0
  obtain ⟨hw, ⟨G1, O2, P5⟩, ⟨G3, O4, rG3⟩, Oa, Oh, Ol⟩ := id hW
  have N0 := Fr.nil n0
  have K0 := Keep.refl h0 []
  refine own_gs (cur' := s₁.setTop (mkF m 1 #[vi c0, uu] [(.int (2 : Int32))])) ?_ ?_
  · refine XS.iconst X0.here hx rfl (hb hby d19_0) ?_
    exact Steps.refl _
  obtain ⟨T11, h11, k11, X11, e11, E11, A11, Eb11, st11⟩ := newPE X0 hx hZ (tw_ hw 21 rfl) e0 (g := (mkF m 1 #[vi c0, uu] [(.int (2 : Int32))])) rfl (hb hby d19_1) rfl (by decide) (cap := 2) (by decide) (by decide) (by decide) (by decide) (ad := "[B") rfl
  obtain ⟨b11, g11⟩ : ∃ z, z = h0.size := ⟨_, rfl⟩
  rw [← g11] at A11 st11
  have lt11 := own_lt A11.lt
  refine own_go st11 ?_
  have z12 := E11.1
  have K12 := K0.ext E11
  have O12 := O0.ext E11
  have V11 : Arv Z h11 b11 k11 .byte (2 : Int32) [(.int (0 : Int32)), (.int (0 : Int32))] (.int (0 : Int32)) := (Arv.new A11 (by decide)).pad (pad_rep [] (.int (0 : Int32)) 2)
  rw [← g11] at Eb11
  have fc11 := own_fcB V11 Eb11
  refine own_gs (cur' := T11.setTop (mkF m 7 #[vi c0, vr b11] [(.int c0), (.int (0 : Int32)), (.ref b11)])) ?_ ?_
  · refine XS.astoreN X11.here hx rfl (hb hby d19_3) rfl rfl (l' := #[vi c0, vr b11]) rfl ?_
    refine XS.aloadN X11.here hx rfl (hb hby d19_4) rfl rfl ?_
    refine XS.iconst X11.here hx rfl (hb hby d19_5) ?_
    refine XS.iloadN X11.here hx rfl (hb hby d19_6) rfl ?_
    exact Steps.refl _
  obtain ⟨_, _, ⟨T13, L13, k13, n13⟩, -, X13, ⟨Lc13, hQ13, l13, y13, z13⟩, st13⟩ := Jvm.LawKit.callS X11 hx (y := own_y10) hown (mvT hZ (tw_ hw 192 rfl)) (mvT hZ (tw_ hw 193 rfl)) (mvT hZ (tw_ hw 170 rfl)) (mvT hZ (tw_ hw 194 rfl)) (by decide) (backOf (W := 0) (own_u_putc l Z a0 hW b11 k11 1 0 [(.int (0 : Int32)), (.int (0 : Int32))] c0 h11 n0 (by omega) O12 (by decide) (by decide) rfl (by omega) V11) hZ (tw_ hw 194 rfl) (tw_ hw 170 rfl) (by decide) (by decide)) (g := (mkF m 7 #[vi c0, vr b11] [(.int c0), (.int (0 : Int32)), (.ref b11)])) rfl (by rw [hml]; rfl) (argsL := [(.ref b11), (.int (0 : Int32)), (.int c0)]) (rest := []) (lenOf pd_9 rfl) rfl (own_le rfl) (hb hby d19_7) (fun _ _ => ⟨rfl, e11, own_le rfl, own_le rfl⟩)
  dsimp only [Pt.U, Pt.locs, Pt.cells, Pt.slots] at X13 l13 y13 z13 st13 hQ13
  subst l13 y13 z13
  obtain ⟨rfl, Nq13, Kq13, Vt13⟩ := hQ13
  have N13 := Fr.app N0 Nq13
  have z14 := Kq13.1
  have K14 := K12.trans Kq13 (allS (Or.inr (by omega)) all0)
  have O14 := O12.keep Kq13 (allS (by omega) all0)
  refine own_go st13 ?_
  refine own_gs (cur' := T13.setTop (mkF m 11 #[vi c0, vr b11] [(.ref b11)])) ?_ ?_
  · refine XS.aloadN X13.here hx rfl (hb hby d19_10) rfl rfl ?_
    exact Steps.refl _
  exact own_rA X13 Bd rfl (v := (.ref b11)) rfl (hb hby d19_11) rfl (⟨_, _, rfl, N13, K14, Vt13, (by omega)⟩) rfl rfl
abbrev own_c20 : ByteArray := jdk_42_method_151_code
def own_u_newb0_Q (Z : State) (x1 t1 : Nat) (v0 c0 : Value) (h0 : Heap) (n0 : Nat) (v : Option Value) (h : Heap) (L : List Loc) : Prop := v = none ∧ Fr n0 L ∧ Keep h0 h [x1] ∧ Exa Z h x1 "java/lang/String" ∧ Fld Z h x1 "java/lang/String" "value" "[B" (.ref t1) ∧ Fld Z h x1 "java/lang/String" "coder" "B" (.int (0 : Int32))
theorem ef_own_u_newb0 (m : MethodId) (x0 : Nat) (x1 : Nat) (x2 : Int32) : entryFrame m #[(.ref x0), (.ref x1), (.int x2)] 3 = mkF m 0 #[vr x0, vr x1, vi x2] [] := by first | (simp [entryFrame, mkF, argsToLocals, Value.category]; done) | rfl
abbrev own_y20 : MethodName := ⟨"java/lang/String", "<init>", "([BB)V"⟩
theorem d20_0 : decode own_c20 0 = .ok (.aload_n 0, 1) := by decide +kernel
theorem d20_1 : decode own_c20 1 = .ok (.invokespecial 1, 3) := by decide +kernel
theorem d20_4 : decode own_c20 4 = .ok (.aload_n 0, 1) := by decide +kernel
theorem d20_5 : decode own_c20 5 = .ok (.aload_n 1, 1) := by decide +kernel
theorem d20_6 : decode own_c20 6 = .ok (.putfield 9, 3) := by decide +kernel
theorem d20_9 : decode own_c20 9 = .ok (.aload_n 0, 1) := by decide +kernel
theorem d20_10 : decode own_c20 10 = .ok (.iload_n 2, 1) := by decide +kernel
theorem d20_11 : decode own_c20 11 = .ok (.putfield 15, 3) := by decide +kernel
theorem d20_14 : decode own_c20 14 = .ok (.return_, 1) := by decide +kernel
set_option maxRecDepth 65536 in
set_option maxHeartbeats 40000000 in
theorem own_u_newb0 (l : Launch) (Z : State) (a0 : Array Value) (hW : own_W Z a0) (x1 t1 : Nat) (v0 c0 : Value) (h0 : Heap) (n0 : Nat) (Z0 : n0 ≤ h0.size) (O0 : Old Z n0 h0) (E1 : Exa Z h0 x1 "java/lang/String") (Fv1 : Fld Z h0 x1 "java/lang/String" "value" "[B" v0) (Fc1 : Fld Z h0 x1 "java/lang/String" "coder" "B" c0) (g1 : n0 ≤ x1) :
    own_M l own_y20 own_c20 3 none (own_r 1 0 0 12) #[(.ref x1), (.ref t1), (.int (0 : Int32))] Z h0 (own_u_newb0_Q Z x1 t1 v0 c0 h0 n0) := by
  refine own_enter (own := "java/lang/String") rfl (plainFor_of_name pn_java_lang_String) (fun m => ef_own_u_newb0 m x1 t1 (0 : Int32)) ?_
  intro p e s m below meth c s₁ Bd hZ hh hx hby hml hown hnm X0 e0
  obtain ⟨hw, ⟨G1, O2, P5⟩, ⟨G3, O4, rG3⟩, Oa, Oh, Ol⟩ := id hW
  have N0 := Fr.nil n0
  have K0 := Keep.refl h0 [x1]
  have lt1 := own_lt E1.lt
  refine own_gs (cur' := s₁.setTop (mkF m 1 #[vr x1, vr t1, vi (0 : Int32)] [(.ref x1)])) ?_ ?_
  · refine XS.aloadN X0.here hx rfl (hb hby d20_0) rfl rfl ?_
    exact Steps.refl _
  obtain ⟨T11, X11, e11, st11⟩ := initO X0 hx hZ hown (tw_ hw 26 rfl) (tw_ hw 27 rfl) (tw_ hw 28 rfl) e0 (g := (mkF m 1 #[vr x1, vr t1, vi (0 : Int32)] [(.ref x1)])) rfl (by rw [hml]; rfl) rfl (hb hby d20_1) (by decide) (W := 0) (own_le rfl) (by decide)
  refine own_go st11 ?_
  refine own_gs (cur' := T11.setTop (mkF m 6 #[vr x1, vr t1, vi (0 : Int32)] [(.ref t1), (.ref x1)])) ?_ ?_
  · refine XS.aloadN X11.here hx rfl (hb hby d20_4) rfl rfl ?_
    refine XS.aloadN X11.here hx rfl (hb hby d20_5) rfl rfl ?_
    exact Steps.refl _
  obtain ⟨T12, h12, X12, e12, W12, st12⟩ := putF X11 hx hZ hown (host := "") (Or.inl (tw_ hw 29 rfl)) Via.refl e11 Fv1 E1 (Or.inr ⟨(tw_ hw 30 rfl), rfl, hnm⟩) (tw_ hw 17 rfl) (ty := (.array .byte)) (by decide) rfl rfl (g := (mkF m 6 #[vr x1, vr t1, vi (0 : Int32)] [(.ref t1), (.ref x1)])) rfl rfl (hb hby d20_6)
  have F12 := Fv1.same W12
  refine own_go st12 ?_
  have z13 := W12.size
  have K13 := K0.wr W12 (Or.inl (List.mem_of_getElem? (i := 0) rfl))
  have O13 := O0.wr W12 (by omega)
  have N13 := Fr.snoc X12 N0 (by omega)
  refine own_gs (cur' := T12.setTop (mkF m 11 #[vr x1, vr t1, vi (0 : Int32)] [(.int (0 : Int32)), (.ref x1)])) ?_ ?_
  · refine XS.aloadN X12.here hx rfl (hb hby d20_9) rfl rfl ?_
    refine XS.iloadN X12.here hx rfl (hb hby d20_10) rfl ?_
    exact Steps.refl _
  have f15 := (Fc1.other W12 (Or.inr (slot_ne (Or.inr (tw_ hw 32 rfl)) (Or.inr (tw_ hw 30 rfl)) (by decide) (t := .byte) (t' := (.array .byte)) (by decide) (by decide))))
  have f16 := (E1.wr W12)
  obtain ⟨T14, h14, X14, e14, W14, st14⟩ := putF X12 hx hZ hown (host := "") (Or.inl (tw_ hw 31 rfl)) Via.refl e12 f15 f16 (Or.inr ⟨(tw_ hw 32 rfl), rfl, hnm⟩) (tw_ hw 17 rfl) (ty := .byte) (by decide) rfl rfl (g := (mkF m 11 #[vr x1, vr t1, vi (0 : Int32)] [(.int (0 : Int32)), (.ref x1)])) rfl rfl (hb hby d20_11)
  have F14 := f15.same W14
  refine own_go st14 ?_
  have z17 := W14.size
  have K17 := K13.wr W14 (Or.inl (List.mem_of_getElem? (i := 0) rfl))
  have O17 := O13.wr W14 (by omega)
  have N17 := Fr.snoc X14 N13 (by omega)
  have f18 := (f16.wr W14)
  have f19 := (F12.other W14 (Or.inr (slot_ne (Or.inr (tw_ hw 30 rfl)) (Or.inr (tw_ hw 32 rfl)) (by decide) (t := (.array .byte)) (t' := .byte) (by decide) (by decide))))
  exact own_rV X14 Bd (hb hby d20_14) e14 (⟨rfl, N17, K17, f18, f19, F14⟩) rfl rfl
def own_u_newb1_Q (Z : State) (x1 t1 : Nat) (v0 c0 : Value) (h0 : Heap) (n0 : Nat) (v : Option Value) (h : Heap) (L : List Loc) : Prop := v = none ∧ Fr n0 L ∧ Keep h0 h [x1] ∧ Exa Z h x1 "java/lang/String" ∧ Fld Z h x1 "java/lang/String" "value" "[B" (.ref t1) ∧ Fld Z h x1 "java/lang/String" "coder" "B" (.int (1 : Int32))
theorem ef_own_u_newb1 (m : MethodId) (x0 : Nat) (x1 : Nat) (x2 : Int32) : entryFrame m #[(.ref x0), (.ref x1), (.int x2)] 3 = mkF m 0 #[vr x0, vr x1, vi x2] [] := by first | (simp [entryFrame, mkF, argsToLocals, Value.category]; done) | rfl
set_option maxRecDepth 65536 in
set_option maxHeartbeats 40000000 in
theorem own_u_newb1 (l : Launch) (Z : State) (a0 : Array Value) (hW : own_W Z a0) (x1 t1 : Nat) (v0 c0 : Value) (h0 : Heap) (n0 : Nat) (Z0 : n0 ≤ h0.size) (O0 : Old Z n0 h0) (E1 : Exa Z h0 x1 "java/lang/String") (Fv1 : Fld Z h0 x1 "java/lang/String" "value" "[B" v0) (Fc1 : Fld Z h0 x1 "java/lang/String" "coder" "B" c0) (g1 : n0 ≤ x1) :
    own_M l own_y20 own_c20 3 none (own_r 1 0 0 12) #[(.ref x1), (.ref t1), (.int (1 : Int32))] Z h0 (own_u_newb1_Q Z x1 t1 v0 c0 h0 n0) := by
  refine own_enter (own := "java/lang/String") rfl (plainFor_of_name pn_java_lang_String) (fun m => ef_own_u_newb1 m x1 t1 (1 : Int32)) ?_
  intro p e s m below meth c s₁ Bd hZ hh hx hby hml hown hnm X0 e0
  obtain ⟨hw, ⟨G1, O2, P5⟩, ⟨G3, O4, rG3⟩, Oa, Oh, Ol⟩ := id hW
  have N0 := Fr.nil n0
  have K0 := Keep.refl h0 [x1]
  have lt1 := own_lt E1.lt
  refine own_gs (cur' := s₁.setTop (mkF m 1 #[vr x1, vr t1, vi (1 : Int32)] [(.ref x1)])) ?_ ?_
  · refine XS.aloadN X0.here hx rfl (hb hby d20_0) rfl rfl ?_
    exact Steps.refl _
  obtain ⟨T11, X11, e11, st11⟩ := initO X0 hx hZ hown (tw_ hw 26 rfl) (tw_ hw 27 rfl) (tw_ hw 28 rfl) e0 (g := (mkF m 1 #[vr x1, vr t1, vi (1 : Int32)] [(.ref x1)])) rfl (by rw [hml]; rfl) rfl (hb hby d20_1) (by decide) (W := 0) (own_le rfl) (by decide)
  refine own_go st11 ?_
  refine own_gs (cur' := T11.setTop (mkF m 6 #[vr x1, vr t1, vi (1 : Int32)] [(.ref t1), (.ref x1)])) ?_ ?_
  · refine XS.aloadN X11.here hx rfl (hb hby d20_4) rfl rfl ?_
    refine XS.aloadN X11.here hx rfl (hb hby d20_5) rfl rfl ?_
    exact Steps.refl _
  obtain ⟨T12, h12, X12, e12, W12, st12⟩ := putF X11 hx hZ hown (host := "") (Or.inl (tw_ hw 29 rfl)) Via.refl e11 Fv1 E1 (Or.inr ⟨(tw_ hw 30 rfl), rfl, hnm⟩) (tw_ hw 17 rfl) (ty := (.array .byte)) (by decide) rfl rfl (g := (mkF m 6 #[vr x1, vr t1, vi (1 : Int32)] [(.ref t1), (.ref x1)])) rfl rfl (hb hby d20_6)
  have F12 := Fv1.same W12
  refine own_go st12 ?_
  have z13 := W12.size
  have K13 := K0.wr W12 (Or.inl (List.mem_of_getElem? (i := 0) rfl))
  have O13 := O0.wr W12 (by omega)
  have N13 := Fr.snoc X12 N0 (by omega)
  refine own_gs (cur' := T12.setTop (mkF m 11 #[vr x1, vr t1, vi (1 : Int32)] [(.int (1 : Int32)), (.ref x1)])) ?_ ?_
  · refine XS.aloadN X12.here hx rfl (hb hby d20_9) rfl rfl ?_
    refine XS.iloadN X12.here hx rfl (hb hby d20_10) rfl ?_
    exact Steps.refl _
  have f15 := (Fc1.other W12 (Or.inr (slot_ne (Or.inr (tw_ hw 32 rfl)) (Or.inr (tw_ hw 30 rfl)) (by decide) (t := .byte) (t' := (.array .byte)) (by decide) (by decide))))
  have f16 := (E1.wr W12)
  obtain ⟨T14, h14, X14, e14, W14, st14⟩ := putF X12 hx hZ hown (host := "") (Or.inl (tw_ hw 31 rfl)) Via.refl e12 f15 f16 (Or.inr ⟨(tw_ hw 32 rfl), rfl, hnm⟩) (tw_ hw 17 rfl) (ty := .byte) (by decide) rfl rfl (g := (mkF m 11 #[vr x1, vr t1, vi (1 : Int32)] [(.int (1 : Int32)), (.ref x1)])) rfl rfl (hb hby d20_11)
  have F14 := f15.same W14
  refine own_go st14 ?_
  have z17 := W14.size
  have K17 := K13.wr W14 (Or.inl (List.mem_of_getElem? (i := 0) rfl))
  have O17 := O13.wr W14 (by omega)
  have N17 := Fr.snoc X14 N13 (by omega)
  have f18 := (f16.wr W14)
  have f19 := (F12.other W14 (Or.inr (slot_ne (Or.inr (tw_ hw 30 rfl)) (Or.inr (tw_ hw 32 rfl)) (by decide) (t := (.array .byte)) (t' := .byte) (by decide) (by decide))))
  exact own_rV X14 Bd (hb hby d20_14) e14 (⟨rfl, N17, K17, f18, f19, F14⟩) rfl rfl
abbrev own_c21 : ByteArray := jdk_42_method_139_code
def own_u_vof_Q (Z : State) (c0 : Int32) (h0 : Heap) (n0 : Nat) (v : Option Value) (h : Heap) (L : List Loc) : Prop := ∃ a t : Nat, v = some (.ref a) ∧ Fr n0 L ∧ Keep h0 h [] ∧ own_Str Z h a t [c0] ∧ h0.size ≤ a
theorem ef_own_u_vof (m : MethodId) (x0 : Int32) : entryFrame m #[(.int x0)] 1 = mkF m 0 #[vi x0] [] := by first | (simp [entryFrame, mkF, argsToLocals, Value.category]; done) | rfl
abbrev own_y21 : MethodName := ⟨"java/lang/String", "valueOf", "(C)Ljava/lang/String;"⟩
theorem d21_0 : decode own_c21 0 = .ok (.getstatic 38, 3) := by decide +kernel
theorem d21_3 : decode own_c21 3 = .ok (.ifCond .eq 23, 3) := by decide +kernel
theorem d21_6 : decode own_c21 6 = .ok (.iload_n 0, 1) := by decide +kernel
theorem d21_7 : decode own_c21 7 = .ok (.invokestatic 1015, 3) := by decide +kernel
theorem pd_13 : parseMethodDescriptor "(C)Z" = some ⟨[.char], some .boolean⟩ := by decide +kernel
theorem d21_10 : decode own_c21 10 = .ok (.ifCond .eq 16, 3) := by decide +kernel
theorem d21_13 : decode own_c21 13 = .ok (.new 10, 3) := by decide +kernel
theorem d21_16 : decode own_c21 16 = .ok (.dup, 1) := by decide +kernel
theorem d21_17 : decode own_c21 17 = .ok (.iload_n 0, 1) := by decide +kernel
theorem d21_18 : decode own_c21 18 = .ok (.invokestatic 1018, 3) := by decide +kernel
theorem pd_14 : parseMethodDescriptor "(C)[B" = some ⟨[.char], some (.array .byte)⟩ := by decide +kernel
theorem d21_21 : decode own_c21 21 = .ok (.iconst 0, 1) := by decide +kernel
theorem d21_22 : decode own_c21 22 = .ok (.invokespecial 209, 3) := by decide +kernel
theorem pd_15 : parseMethodDescriptor "([BB)V" = some ⟨[(.array .byte), .byte], none⟩ := by decide +kernel
theorem d21_25 : decode own_c21 25 = .ok (.areturn, 1) := by decide +kernel
theorem d21_26 : decode own_c21 26 = .ok (.new 10, 3) := by decide +kernel
theorem d21_29 : decode own_c21 29 = .ok (.dup, 1) := by decide +kernel
theorem d21_30 : decode own_c21 30 = .ok (.iload_n 0, 1) := by decide +kernel
theorem d21_31 : decode own_c21 31 = .ok (.invokestatic 1021, 3) := by decide +kernel
theorem d21_34 : decode own_c21 34 = .ok (.iconst 1, 1) := by decide +kernel
theorem d21_35 : decode own_c21 35 = .ok (.invokespecial 209, 3) := by decide +kernel
theorem d21_38 : decode own_c21 38 = .ok (.areturn, 1) := by decide +kernel
set_option maxRecDepth 65536 in
set_option maxHeartbeats 40000000 in
theorem own_u_vof (l : Launch) (Z : State) (a0 : Array Value) (hW : own_W Z a0) (c0 : Int32) (h0 : Heap) (n0 : Nat) (Z0 : n0 ≤ h0.size) (O0 : Old Z n0 h0) (hb0 : ¬ c0 < 0 ∧ ¬ (65535 : Int32) < c0) :
    own_M l own_y21 own_c21 1 (some (.object "java/lang/String")) (own_r 2 2 6 40) #[(.int c0)] Z h0 (own_u_vof_Q Z c0 h0 n0) := by
  refine own_enter (own := "java/lang/String") rfl (plainFor_of_name pn_java_lang_String) (fun m => ef_own_u_vof m c0) ?_
  intro p e s m below meth c s₁ Bd hZ hh hx hby hml hown hnm X0 e0
  obtain ⟨hw, ⟨G1, O2, P5⟩, ⟨G3, O4, rG3⟩, Oa, Oh, Ol⟩ := id hW
  have N0 := Fr.nil n0
  have K0 := Keep.refl h0 []
  obtain ⟨T11, X11, e11, st11⟩ := getS2 X0 hx hZ hown (host := "") (Or.inl (tw_ hw 11 rfl)) Via.refl e0 (O2.ext O0.2) (g := (mkF m 0 #[vi c0] [])) rfl (hb hby d21_0)
  refine own_go st11 ?_
  refine own_gs (cur' := T11.setTop (mkF m 7 #[vi c0] [(.int c0)])) ?_ ?_
  · refine XS.ifNo X11.here hx rfl (hb hby d21_3) rfl ((if0 _ _).trans (feq (P5 : ¬ (G1 = (0 : Int32)))).1) ?_
    refine XS.iloadN X11.here hx rfl (hb hby d21_6) rfl ?_
    exact Steps.refl _
  obtain ⟨_, _, ⟨T12, L12, k12, n12⟩, -, X12, ⟨Lc12, hQ12, l12, y12, z12⟩, st12⟩ := Jvm.LawKit.callS X11 hx (y := own_y17) hown (mvT hZ (tw_ hw 12 rfl)) (mvT hZ (tw_ hw 13 rfl)) (mvT hZ (tw_ hw 14 rfl)) (mvT hZ (tw_ hw 15 rfl)) (by decide) (backOf (W := 0) (own_u_ce l Z a0 hW c0 h0 n0 (by omega) O0) hZ (tw_ hw 15 rfl) (tw_ hw 14 rfl) (by decide) (by decide)) (g := (mkF m 7 #[vi c0] [(.int c0)])) rfl (by rw [hml]; rfl) (argsL := [(.int c0)]) (rest := []) (lenOf pd_13 rfl) rfl (own_le rfl) (hb hby d21_7) (fun _ _ => ⟨rfl, e11, own_le rfl, own_le rfl⟩)
  dsimp only [Pt.U, Pt.locs, Pt.cells, Pt.slots] at X12 l12 y12 z12 st12 hQ12
  subst l12 y12 z12
  obtain ⟨hor, Nq12, eh12⟩ := hQ12
  have N12 := Fr.app N0 Nq12
  rcases hor with ⟨rfl, hce⟩ | ⟨rfl, hce⟩
  · refine own_go st12 ?_
    show own_Fin p e below (T12.setTop (mkF m 10 #[vi c0] [(.int (1 : Int32))])) _
    refine own_gs (cur' := T12.setTop (mkF m 13 #[vi c0] [])) ?_ ?_
    · refine XS.ifNo X12.here hx rfl (hb hby d21_10) rfl ((if0 _ _).trans (feq ((by decide) : ¬ ((1 : Int32) = (0 : Int32)))).1) ?_
      exact Steps.refl _
    obtain ⟨T13, h13, X13, e13, E13, A13, D13, -, st13⟩ := newO X12 hx hZ hown (tw_ hw 16 rfl) (tw_ hw 17 rfl) (tw_ hw 9 rfl) eh12 (g := (mkF m 13 #[vi c0] [])) rfl (hb hby d21_13) (by decide) (by decide)
    obtain ⟨b13, g13⟩ : ∃ z, z = h0.size := ⟨_, rfl⟩
    rw [← g13] at A13 D13 st13
    have lt13 := own_lt A13.lt
    refine own_go st13 ?_
    have z14 := E13.1
    have K14 := K0.ext E13
    have O14 := O0.ext E13
    have F13_value : Fld Z h13 b13 "java/lang/String" "value" "[B" .null := D13 (Or.inr (tw_ hw 30 rfl)) (ty := (.array .byte)) (by decide)
    have F13_coder : Fld Z h13 b13 "java/lang/String" "coder" "B" (.int (0 : Int32)) := D13 (Or.inr (tw_ hw 32 rfl)) (ty := .byte) (by decide)
    refine own_gs (cur' := T13.setTop (mkF m 18 #[vi c0] [(.int c0), (.ref b13), (.ref b13)])) ?_ ?_
    · refine XS.dup X13.here hx rfl (hb hby d21_16) rfl rfl ?_
      refine XS.iloadN X13.here hx rfl (hb hby d21_17) rfl ?_
      exact Steps.refl _
    obtain ⟨_, _, ⟨T15, L15, k15, n15⟩, -, X15, ⟨Lc15, hQ15, l15, y15, z15⟩, st15⟩ := Jvm.LawKit.callS X13 hx (y := own_y18) hown (mvT hZ (tw_ hw 18 rfl)) (mvT hZ (tw_ hw 19 rfl)) (mvT hZ (tw_ hw 14 rfl)) (mvT hZ (tw_ hw 20 rfl)) (by decide) (backOf (W := 2) (own_u_ltb l Z a0 hW c0 h13 n0 (by omega) O14) hZ (tw_ hw 20 rfl) (tw_ hw 14 rfl) (by decide) (by decide)) (g := (mkF m 18 #[vi c0] [(.int c0), (.ref b13), (.ref b13)])) rfl (by rw [hml]; rfl) (argsL := [(.int c0)]) (rest := [(.ref b13), (.ref b13)]) (lenOf pd_14 rfl) rfl (own_le rfl) (hb hby d21_18) (fun _ _ => ⟨rfl, e13, own_le rfl, own_le rfl⟩)
    dsimp only [Pt.U, Pt.locs, Pt.cells, Pt.slots] at X15 l15 y15 z15 st15 hQ15
    subst l15 y15 z15
    obtain ⟨t15, kb15, rfl, Nq15, Kq15, Vt15, ge15⟩ := hQ15
    have N15 := Fr.app N12 Nq15
    have z16 := Kq15.1
    have K16 := K14.trans Kq15 all0
    have O16 := O14.keep Kq15 all0
    have lt15 := own_lt Vt15.lt
    refine own_go st15 ?_
    have f17 := (A13.keep Kq15)
    have f18 := (F13_value.keep Kq15 nin0)
    have f19 := (F13_coder.keep Kq15 nin0)
    refine own_gs (cur' := T15.setTop (mkF m 22 #[vi c0] [(.int (0 : Int32)), (.ref t15), (.ref b13), (.ref b13)])) ?_ ?_
    · refine XS.iconst X15.here hx rfl (hb hby d21_21) ?_
      exact Steps.refl _
    obtain ⟨_, _, ⟨T20, L20, k20, n20⟩, -, X20, ⟨Lc20, hQ20, l20, y20, z20⟩, st20⟩ := X15.specialBack hx (y := own_y20) rfl hown (mvT hZ (tw_ hw 22 rfl)) (mvT hZ (tw_ hw 23 rfl)) (mvT hZ (tw_ hw 25 rfl)) (by decide) (backOf (W := 1) (own_u_newb0 l Z a0 hW b13 t15 .null (.int (0 : Int32)) T15.heap n0 (by omega) O16 f17 f18 f19 (by omega)) hZ (tw_ hw 25 rfl) (tw_ hw 9 rfl) (by decide) (by decide)) (g := (mkF m 22 #[vi c0] [(.int (0 : Int32)), (.ref t15), (.ref b13), (.ref b13)])) rfl (by rw [hml]; rfl) (Steps.refl _) (a := b13) (argsL := [(.ref t15), (.int (0 : Int32))]) (rest := [(.ref b13)]) (lenOf pd_15 rfl) rfl (own_le rfl) (hb hby d21_22) (fun _ _ => ⟨rfl, rfl, own_le rfl, own_le rfl⟩)
    dsimp only [Pt.U, Pt.locs, Pt.cells, Pt.slots] at X20 l20 y20 z20 st20 hQ20
    subst l20 y20 z20
    obtain ⟨rfl, Nq20, Kq20, Ex20, Fv20, Fc20⟩ := hQ20
    have N20 := Fr.app N15 Nq20
    have z21 := Kq20.1
    have K21 := K16.trans Kq20 (allS (Or.inr (by omega)) all0)
    have O21 := O16.keep Kq20 (allS (by omega) all0)
    refine own_gs st20 ?_
    have f22 := (Vt15.keep Kq20 (ninS (own_ne (a := t15) (b := b13) (by omega)) nin0))
    exact own_rA X20 Bd rfl (v := (.ref b13)) rfl (hb hby d21_25) rfl (⟨_, _, rfl, N20, K21, ⟨_, _, _, _, Ex20, Fv20, Fc20, f22, Or.inl ⟨rfl, rfl, rfl, fun z hz => by rw [List.mem_singleton.mp hz]; exact hce⟩, fun z hz => by rw [List.mem_singleton.mp hz]; exact hb0, Nat.le_of_ble_eq_true rfl⟩, (by omega)⟩) rfl rfl
  · refine own_go st12 ?_
    show own_Fin p e below (T12.setTop (mkF m 10 #[vi c0] [(.int (0 : Int32))])) _
    refine own_gs (cur' := T12.setTop (mkF m 26 #[vi c0] [])) ?_ ?_
    · refine XS.ifYes X12.here hx rfl (pc0 := 10) (pc' := 26) rfl (hb hby d21_10) rfl ((if0 _ _).trans (teq ((by decide) : (0 : Int32) = (0 : Int32))).1) (by decide) (by decide) ?_
      exact Steps.refl _
    obtain ⟨T23, h23, X23, e23, E23, A23, D23, -, st23⟩ := newO X12 hx hZ hown (tw_ hw 16 rfl) (tw_ hw 17 rfl) (tw_ hw 9 rfl) eh12 (g := (mkF m 26 #[vi c0] [])) rfl (hb hby d21_26) (by decide) (by decide)
    obtain ⟨b23, g23⟩ : ∃ z, z = h0.size := ⟨_, rfl⟩
    rw [← g23] at A23 D23 st23
    have lt23 := own_lt A23.lt
    refine own_go st23 ?_
    have z24 := E23.1
    have K24 := K0.ext E23
    have O24 := O0.ext E23
    have F23_value : Fld Z h23 b23 "java/lang/String" "value" "[B" .null := D23 (Or.inr (tw_ hw 30 rfl)) (ty := (.array .byte)) (by decide)
    have F23_coder : Fld Z h23 b23 "java/lang/String" "coder" "B" (.int (0 : Int32)) := D23 (Or.inr (tw_ hw 32 rfl)) (ty := .byte) (by decide)
    refine own_gs (cur' := T23.setTop (mkF m 31 #[vi c0] [(.int c0), (.ref b23), (.ref b23)])) ?_ ?_
    · refine XS.dup X23.here hx rfl (hb hby d21_29) rfl rfl ?_
      refine XS.iloadN X23.here hx rfl (hb hby d21_30) rfl ?_
      exact Steps.refl _
    obtain ⟨_, _, ⟨T25, L25, k25, n25⟩, -, X25, ⟨Lc25, hQ25, l25, y25, z25⟩, st25⟩ := Jvm.LawKit.callS X23 hx (y := own_y19) hown (mvT hZ (tw_ hw 237 rfl)) (mvT hZ (tw_ hw 238 rfl)) (mvT hZ (tw_ hw 170 rfl)) (mvT hZ (tw_ hw 239 rfl)) (by decide) (backOf (W := 2) (own_u_utb l Z a0 hW c0 h23 n0 (by omega) O24) hZ (tw_ hw 239 rfl) (tw_ hw 170 rfl) (by decide) (by decide)) (g := (mkF m 31 #[vi c0] [(.int c0), (.ref b23), (.ref b23)])) rfl (by rw [hml]; rfl) (argsL := [(.int c0)]) (rest := [(.ref b23), (.ref b23)]) (lenOf pd_14 rfl) rfl (own_le rfl) (hb hby d21_31) (fun _ _ => ⟨rfl, e23, own_le rfl, own_le rfl⟩)
    dsimp only [Pt.U, Pt.locs, Pt.cells, Pt.slots] at X25 l25 y25 z25 st25 hQ25
    subst l25 y25 z25
    obtain ⟨t25, kb25, rfl, Nq25, Kq25, Vt25, ge25⟩ := hQ25
    have N25 := Fr.app N12 Nq25
    have z26 := Kq25.1
    have K26 := K24.trans Kq25 all0
    have O26 := O24.keep Kq25 all0
    have lt25 := own_lt Vt25.lt
    refine own_go st25 ?_
    have f27 := (A23.keep Kq25)
    have f28 := (F23_value.keep Kq25 nin0)
    have f29 := (F23_coder.keep Kq25 nin0)
    refine own_gs (cur' := T25.setTop (mkF m 35 #[vi c0] [(.int (1 : Int32)), (.ref t25), (.ref b23), (.ref b23)])) ?_ ?_
    · refine XS.iconst X25.here hx rfl (hb hby d21_34) ?_
      exact Steps.refl _
    obtain ⟨_, _, ⟨T30, L30, k30, n30⟩, -, X30, ⟨Lc30, hQ30, l30, y30, z30⟩, st30⟩ := X25.specialBack hx (y := own_y20) rfl hown (mvT hZ (tw_ hw 22 rfl)) (mvT hZ (tw_ hw 23 rfl)) (mvT hZ (tw_ hw 25 rfl)) (by decide) (backOf (W := 1) (own_u_newb1 l Z a0 hW b23 t25 .null (.int (0 : Int32)) T25.heap n0 (by omega) O26 f27 f28 f29 (by omega)) hZ (tw_ hw 25 rfl) (tw_ hw 9 rfl) (by decide) (by decide)) (g := (mkF m 35 #[vi c0] [(.int (1 : Int32)), (.ref t25), (.ref b23), (.ref b23)])) rfl (by rw [hml]; rfl) (Steps.refl _) (a := b23) (argsL := [(.ref t25), (.int (1 : Int32))]) (rest := [(.ref b23)]) (lenOf pd_15 rfl) rfl (own_le rfl) (hb hby d21_35) (fun _ _ => ⟨rfl, rfl, own_le rfl, own_le rfl⟩)
    dsimp only [Pt.U, Pt.locs, Pt.cells, Pt.slots] at X30 l30 y30 z30 st30 hQ30
    subst l30 y30 z30
    obtain ⟨rfl, Nq30, Kq30, Ex30, Fv30, Fc30⟩ := hQ30
    have N30 := Fr.app N25 Nq30
    have z31 := Kq30.1
    have K31 := K26.trans Kq30 (allS (Or.inr (by omega)) all0)
    have O31 := O26.keep Kq30 (allS (by omega) all0)
    refine own_gs st30 ?_
    have f32 := (Vt25.keep Kq30 (ninS (own_ne (a := t25) (b := b23) (by omega)) nin0))
    exact own_rA X30 Bd rfl (v := (.ref b23)) rfl (hb hby d21_38) rfl (⟨_, _, rfl, N30, K31, ⟨_, _, _, _, Ex30, Fv30, Fc30, f32, Or.inr ⟨rfl, rfl, rfl, _, List.mem_singleton.mpr rfl, hce⟩, fun z hz => by rw [List.mem_singleton.mp hz]; exact hb0, Nat.le_of_ble_eq_true rfl⟩, (by omega)⟩) rfl rfl
abbrev own_c22 : ByteArray := jdk_68_method_2_code
def own_abi_Q (Z : State) (b1 : Nat) (v0 c0 : Value) (n : Nat) (h0 : Heap) (n0 : Nat) (v : Option Value) (h : Heap) (L : List Loc) : Prop := ∃ (t : Nat) (k : ClassId), v = none ∧ Fr n0 L ∧ Keep h0 h [b1] ∧ Exa Z h b1 "java/lang/StringBuilder" ∧ Fld Z h b1 "java/lang/AbstractStringBuilder" "value" "[B" (.ref t) ∧ Fld Z h b1 "java/lang/AbstractStringBuilder" "coder" "B" (.int (0 : Int32)) ∧ Fld Z h b1 "java/lang/AbstractStringBuilder" "count" "I" (.int (0 : Int32)) ∧ Fld Z h b1 "java/lang/AbstractStringBuilder" "maybeLatin1" "Z" (.int (0 : Int32)) ∧ Arv Z h t k .byte (Int32.ofNat n) (List.replicate n (.int (0 : Int32))) (.int (0 : Int32)) ∧ Z.vm.findClass "[B" = some k ∧ h0.size ≤ t
theorem pn_java_lang_AbstractStringBuilder : plainName "java/lang/AbstractStringBuilder" = true := by first | (simp [plainName, overriddenIn]; done) | decide +kernel
theorem ef_own_abi (m : MethodId) (x0 : Nat) (x1 : Int32) : entryFrame m #[(.ref x0), (.int x1)] 2 = mkF m 0 #[vr x0, vi x1] [] := by first | (simp [entryFrame, mkF, argsToLocals, Value.category]; done) | rfl
abbrev own_y22 : MethodName := ⟨"java/lang/AbstractStringBuilder", "<init>", "(I)V"⟩
theorem d22_0 : decode own_c22 0 = .ok (.aload_n 0, 1) := by decide +kernel
theorem d22_1 : decode own_c22 1 = .ok (.invokespecial 3, 3) := by decide +kernel
theorem d22_4 : decode own_c22 4 = .ok (.getstatic 18, 3) := by decide +kernel
theorem d22_7 : decode own_c22 7 = .ok (.ifCond .eq 18, 3) := by decide +kernel
theorem d22_10 : decode own_c22 10 = .ok (.aload_n 0, 1) := by decide +kernel
theorem d22_11 : decode own_c22 11 = .ok (.iload_n 1, 1) := by decide +kernel
theorem d22_12 : decode own_c22 12 = .ok (.newarray .byte, 2) := by decide +kernel
theorem d22_14 : decode own_c22 14 = .ok (.putfield 15, 3) := by decide +kernel
theorem d22_17 : decode own_c22 17 = .ok (.aload_n 0, 1) := by decide +kernel
theorem d22_18 : decode own_c22 18 = .ok (.iconst 0, 1) := by decide +kernel
theorem d22_19 : decode own_c22 19 = .ok (.putfield 22, 3) := by decide +kernel
theorem d22_22 : decode own_c22 22 = .ok (.goto 16, 3) := by decide +kernel
theorem d22_38 : decode own_c22 38 = .ok (.return_, 1) := by decide +kernel
set_option maxRecDepth 65536 in
set_option maxHeartbeats 40000000 in
theorem own_abi (l : Launch) (Z : State) (a0 : Array Value) (hW : own_W Z a0) (b1 : Nat) (v0 c0 : Value) (n : Nat) (h0 : Heap) (n0 : Nat) (Z0 : n0 ≤ h0.size) (O0 : Old Z n0 h0) (hn : n ≤ 3) (E1 : Exa Z h0 b1 "java/lang/StringBuilder") (Fv1 : Fld Z h0 b1 "java/lang/AbstractStringBuilder" "value" "[B" v0) (Fc1 : Fld Z h0 b1 "java/lang/AbstractStringBuilder" "coder" "B" c0) (Fn1 : Fld Z h0 b1 "java/lang/AbstractStringBuilder" "count" "I" (.int (0 : Int32))) (Fm1 : Fld Z h0 b1 "java/lang/AbstractStringBuilder" "maybeLatin1" "Z" (.int (0 : Int32))) (g1 : n0 ≤ b1) :
    own_M l own_y22 own_c22 2 none (own_r 1 1 3 16) #[(.ref b1), (.int (Int32.ofNat n))] Z h0 (own_abi_Q Z b1 v0 c0 n h0 n0) := by
  refine own_enter (own := "java/lang/AbstractStringBuilder") rfl (plainFor_of_name pn_java_lang_AbstractStringBuilder) (fun m => ef_own_abi m b1 (Int32.ofNat n)) ?_
  intro p e s m below meth c s₁ Bd hZ hh hx hby hml hown hnm X0 e0
  obtain ⟨hw, ⟨G1, O2, P5⟩, ⟨G3, O4, rG3⟩, Oa, Oh, Ol⟩ := id hW
  have N0 := Fr.nil n0
  have K0 := Keep.refl h0 [b1]
  have lt1 := own_lt E1.lt
  refine own_gs (cur' := s₁.setTop (mkF m 1 #[vr b1, vi (Int32.ofNat n)] [(.ref b1)])) ?_ ?_
  · refine XS.aloadN X0.here hx rfl (hb hby d22_0) rfl rfl ?_
    exact Steps.refl _
  obtain ⟨T11, X11, e11, st11⟩ := initO X0 hx hZ hown (tw_ hw 59 rfl) (tw_ hw 27 rfl) (tw_ hw 28 rfl) e0 (g := (mkF m 1 #[vr b1, vi (Int32.ofNat n)] [(.ref b1)])) rfl (by rw [hml]; rfl) rfl (hb hby d22_1) (by decide) (W := 0) (own_le rfl) (by decide)
  refine own_go st11 ?_
  obtain ⟨T12, X12, e12, st12⟩ := getS2 X11 hx hZ hown (host := "") (Or.inl (tw_ hw 60 rfl)) Via.refl e11 (O2.ext O0.2) (g := (mkF m 4 #[vr b1, vi (Int32.ofNat n)] [])) rfl (hb hby d22_4)
  refine own_go st12 ?_
  refine own_gs (cur' := T12.setTop (mkF m 12 #[vr b1, vi (Int32.ofNat n)] [(.int (Int32.ofNat n)), (.ref b1)])) ?_ ?_
  · refine XS.ifNo X12.here hx rfl (hb hby d22_7) rfl ((if0 _ _).trans (feq (P5 : ¬ (G1 = (0 : Int32)))).1) ?_
    refine XS.aloadN X12.here hx rfl (hb hby d22_10) rfl rfl ?_
    refine XS.iloadN X12.here hx rfl (hb hby d22_11) rfl ?_
    exact Steps.refl _
  obtain ⟨T13, h13, k13, X13, e13, E13, A13, Eb13, st13⟩ := newPE X12 hx hZ (tw_ hw 21 rfl) e12 (g := (mkF m 12 #[vr b1, vi (Int32.ofNat n)] [(.int (Int32.ofNat n)), (.ref b1)])) rfl (hb hby d22_12) rfl (own_in (a := n) (b := 4) (by omega) (by decide)).1 (cap := 3) (by rw [own_nat (by omega)]; omega) (by decide) (by decide) (by decide) (ad := "[B") rfl
  obtain ⟨b13, g13⟩ : ∃ z, z = h0.size := ⟨_, rfl⟩
  rw [← g13] at A13 st13
  have lt13 := own_lt A13.lt
  refine own_go st13 ?_
  have z14 := E13.1
  have K14 := K0.ext E13
  have O14 := O0.ext E13
  have V13 : Arv Z h13 b13 k13 .byte (Int32.ofNat n) [] (.int (0 : Int32)) := Arv.new A13 (own_in (a := n) (b := 4) (by omega) (by decide)).1
  rw [← g13] at Eb13
  have fc13 := own_fcB V13 Eb13
  have f16 := (Fv1.ext E13)
  have f17 := (E1.ext E13)
  obtain ⟨T15, h15, X15, e15, W15, st15⟩ := putF X13 hx hZ hown (host := "") (Or.inl (tw_ hw 61 rfl)) Via.refl e13 f16 f17 (Or.inl (tw_ hw 62 rfl)) (tw_ hw 38 rfl) (ty := (.array .byte)) (by decide) rfl rfl (g := (mkF m 14 #[vr b1, vi (Int32.ofNat n)] [(.ref b13), (.ref b1)])) rfl rfl (hb hby d22_14)
  have F15 := f16.same W15
  refine own_go st15 ?_
  have z18 := W15.size
  have K18 := K14.wr W15 (Or.inl (List.mem_of_getElem? (i := 0) rfl))
  have O18 := O14.wr W15 (by omega)
  have N18 := Fr.snoc X15 N0 (by omega)
  refine own_gs (cur' := T15.setTop (mkF m 19 #[vr b1, vi (Int32.ofNat n)] [(.int (0 : Int32)), (.ref b1)])) ?_ ?_
  · refine XS.aloadN X15.here hx rfl (hb hby d22_17) rfl rfl ?_
    refine XS.iconst X15.here hx rfl (hb hby d22_18) ?_
    exact Steps.refl _
  have f20 := ((Fc1.ext E13).other W15 (Or.inr (slot_ne (Or.inl (tw_ hw 64 rfl)) (Or.inl (tw_ hw 62 rfl)) (by decide) (t := .byte) (t' := (.array .byte)) (by decide) (by decide))))
  have f21 := (f17.wr W15)
  obtain ⟨T19, h19, X19, e19, W19, st19⟩ := putF X15 hx hZ hown (host := "") (Or.inl (tw_ hw 63 rfl)) Via.refl e15 f20 f21 (Or.inl (tw_ hw 64 rfl)) (tw_ hw 38 rfl) (ty := .byte) (by decide) rfl rfl (g := (mkF m 19 #[vr b1, vi (Int32.ofNat n)] [(.int (0 : Int32)), (.ref b1)])) rfl rfl (hb hby d22_19)
  have F19 := f20.same W19
  refine own_go st19 ?_
  have z22 := W19.size
  have K22 := K18.wr W19 (Or.inl (List.mem_of_getElem? (i := 0) rfl))
  have O22 := O18.wr W19 (by omega)
  have N22 := Fr.snoc X19 N18 (by omega)
  have f23 := (f21.wr W19)
  have f24 := (F15.other W19 (Or.inr (slot_ne (Or.inl (tw_ hw 62 rfl)) (Or.inl (tw_ hw 64 rfl)) (by decide) (t := (.array .byte)) (t' := .byte) (by decide) (by decide))))
  have f25 := (((Fn1.ext E13).other W15 (Or.inr (slot_ne (Or.inl (tw_ hw 104 rfl)) (Or.inl (tw_ hw 62 rfl)) (by decide) (t := .int) (t' := (.array .byte)) (by decide) (by decide)))).other W19 (Or.inr (slot_ne (Or.inl (tw_ hw 104 rfl)) (Or.inl (tw_ hw 64 rfl)) (by decide) (t := .int) (t' := .byte) (by decide) (by decide))))
  have f26 := (((Fm1.ext E13).other W15 (Or.inr (slot_ne (Or.inl (tw_ hw 236 rfl)) (Or.inl (tw_ hw 62 rfl)) (by decide) (t := .boolean) (t' := (.array .byte)) (by decide) (by decide)))).other W19 (Or.inr (slot_ne (Or.inl (tw_ hw 236 rfl)) (Or.inl (tw_ hw 64 rfl)) (by decide) (t := .boolean) (t' := .byte) (by decide) (by decide))))
  have f27 := ((V13.other W15 (own_ne (a := b13) (b := b1) (by omega))).other W19 (own_ne (a := b13) (b := b1) (by omega)))
  refine own_gs (cur' := T19.setTop (mkF m 38 #[vr b1, vi (Int32.ofNat n)] [])) ?_ ?_
  · refine XS.goto X19.here hx rfl (pc0 := 22) (pc' := 38) rfl (hb hby d22_22) (by decide) (by decide) ?_
    exact Steps.refl _
  exact own_rV X19 Bd (hb hby d22_38) e19 (⟨_, _, rfl, N22, K22, f23, f24, F19, f25, f26, (f27.pad (pad_rep [] (.int (0 : Int32)) n)), fc13, (by omega)⟩) rfl rfl
abbrev own_c23 : ByteArray := jdk_67_method_2_code
def own_sbi_Q (Z : State) (b1 : Nat) (v0 c0 : Value) (n : Nat) (h0 : Heap) (n0 : Nat) (v : Option Value) (h : Heap) (L : List Loc) : Prop := ∃ (t : Nat) (k : ClassId), v = none ∧ Fr n0 L ∧ Keep h0 h [b1] ∧ Exa Z h b1 "java/lang/StringBuilder" ∧ Fld Z h b1 "java/lang/AbstractStringBuilder" "value" "[B" (.ref t) ∧ Fld Z h b1 "java/lang/AbstractStringBuilder" "coder" "B" (.int (0 : Int32)) ∧ Fld Z h b1 "java/lang/AbstractStringBuilder" "count" "I" (.int (0 : Int32)) ∧ Fld Z h b1 "java/lang/AbstractStringBuilder" "maybeLatin1" "Z" (.int (0 : Int32)) ∧ Arv Z h t k .byte (Int32.ofNat n) (List.replicate n (.int (0 : Int32))) (.int (0 : Int32)) ∧ Z.vm.findClass "[B" = some k ∧ h0.size ≤ t
theorem pn_java_lang_StringBuilder : plainName "java/lang/StringBuilder" = true := by first | (simp [plainName, overriddenIn]; done) | decide +kernel
theorem ef_own_sbi (m : MethodId) (x0 : Nat) (x1 : Int32) : entryFrame m #[(.ref x0), (.int x1)] 2 = mkF m 0 #[vr x0, vi x1] [] := by first | (simp [entryFrame, mkF, argsToLocals, Value.category]; done) | rfl
abbrev own_y23 : MethodName := ⟨"java/lang/StringBuilder", "<init>", "(I)V"⟩
theorem d23_0 : decode own_c23 0 = .ok (.aload_n 0, 1) := by decide +kernel
theorem d23_1 : decode own_c23 1 = .ok (.iload_n 1, 1) := by decide +kernel
theorem d23_2 : decode own_c23 2 = .ok (.invokespecial 1, 3) := by decide +kernel
theorem pd_16 : parseMethodDescriptor "(I)V" = some ⟨[.int], none⟩ := by decide +kernel
theorem d23_5 : decode own_c23 5 = .ok (.return_, 1) := by decide +kernel
set_option maxRecDepth 65536 in
set_option maxHeartbeats 40000000 in
theorem own_sbi (l : Launch) (Z : State) (a0 : Array Value) (hW : own_W Z a0) (b1 : Nat) (v0 c0 : Value) (n : Nat) (h0 : Heap) (n0 : Nat) (Z0 : n0 ≤ h0.size) (O0 : Old Z n0 h0) (hn : n ≤ 3) (E1 : Exa Z h0 b1 "java/lang/StringBuilder") (Fv1 : Fld Z h0 b1 "java/lang/AbstractStringBuilder" "value" "[B" v0) (Fc1 : Fld Z h0 b1 "java/lang/AbstractStringBuilder" "coder" "B" c0) (Fn1 : Fld Z h0 b1 "java/lang/AbstractStringBuilder" "count" "I" (.int (0 : Int32))) (Fm1 : Fld Z h0 b1 "java/lang/AbstractStringBuilder" "maybeLatin1" "Z" (.int (0 : Int32))) (g1 : n0 ≤ b1) :
    own_M l own_y23 own_c23 2 none (own_r 2 1 3 35) #[(.ref b1), (.int (Int32.ofNat n))] Z h0 (own_sbi_Q Z b1 v0 c0 n h0 n0) := by
  refine own_enter (own := "java/lang/StringBuilder") rfl (plainFor_of_name pn_java_lang_StringBuilder) (fun m => ef_own_sbi m b1 (Int32.ofNat n)) ?_
  intro p e s m below meth c s₁ Bd hZ hh hx hby hml hown hnm X0 e0
  obtain ⟨hw, ⟨G1, O2, P5⟩, ⟨G3, O4, rG3⟩, Oa, Oh, Ol⟩ := id hW
  have N0 := Fr.nil n0
  have K0 := Keep.refl h0 [b1]
  have lt1 := own_lt E1.lt
  refine own_gs (cur' := s₁.setTop (mkF m 2 #[vr b1, vi (Int32.ofNat n)] [(.int (Int32.ofNat n)), (.ref b1)])) ?_ ?_
  · refine XS.aloadN X0.here hx rfl (hb hby d23_0) rfl rfl ?_
    refine XS.iloadN X0.here hx rfl (hb hby d23_1) rfl ?_
    exact Steps.refl _
  obtain ⟨_, _, ⟨T11, L11, k11, n11⟩, -, X11, ⟨Lc11, hQ11, l11, y11, z11⟩, st11⟩ := X0.specialBack hx (y := own_y22) rfl hown (mvT hZ (tw_ hw 53 rfl)) (mvT hZ (tw_ hw 54 rfl)) (mvT hZ (tw_ hw 58 rfl)) (by decide) (backOf (W := 0) (own_abi l Z a0 hW b1 v0 c0 n h0 n0 (by omega) O0 hn E1 Fv1 Fc1 Fn1 Fm1 g1) hZ (tw_ hw 58 rfl) (tw_ hw 57 rfl) (by decide) (by decide)) (g := (mkF m 2 #[vr b1, vi (Int32.ofNat n)] [(.int (Int32.ofNat n)), (.ref b1)])) rfl (by rw [hml]; rfl) (Steps.refl _) (a := b1) (argsL := [(.int (Int32.ofNat n))]) (rest := []) (lenOf pd_16 rfl) rfl (own_le rfl) (hb hby d23_2) (fun _ _ => ⟨rfl, e0, own_le rfl, own_le rfl⟩)
  dsimp only [Pt.U, Pt.locs, Pt.cells, Pt.slots] at X11 l11 y11 z11 st11 hQ11
  subst l11 y11 z11
  obtain ⟨t11, k11, rfl, Nq11, Kq11, a11, b11, c11, d11, f11m, V11, fcq, ge11⟩ := hQ11
  have N11 := Fr.app N0 Nq11
  have z12 := Kq11.1
  have K12 := K0.trans Kq11 (allS (Or.inl (List.mem_of_getElem? (i := 0) rfl)) all0)
  have O12 := O0.keep Kq11 (allS (by omega) all0)
  refine own_gs st11 ?_
  exact own_rV X11 Bd (hb hby d23_5) rfl (⟨_, _, rfl, N11, K12, a11, b11, c11, d11, f11m, V11, fcq, (by omega)⟩) rfl rfl
abbrev own_c24 : ByteArray := jdk_68_method_68_code
def own_ais0_Q (Z : State) (b1 : Nat) (h0 : Heap) (n0 : Nat) (v : Option Value) (h : Heap) (L : List Loc) : Prop := v = (some (.int (1 : Int32))) ∧ Fr n0 L ∧ h = h0
theorem ef_own_ais0 (m : MethodId) (x0 : Nat) : entryFrame m #[(.ref x0)] 1 = mkF m 0 #[vr x0] [] := by first | (simp [entryFrame, mkF, argsToLocals, Value.category]; done) | rfl
abbrev own_y24 : MethodName := ⟨"java/lang/AbstractStringBuilder", "isLatin1", "()Z"⟩
theorem d24_0 : decode own_c24 0 = .ok (.getstatic 18, 3) := by decide +kernel
theorem d24_3 : decode own_c24 3 = .ok (.ifCond .eq 14, 3) := by decide +kernel
theorem d24_6 : decode own_c24 6 = .ok (.aload_n 0, 1) := by decide +kernel
theorem d24_7 : decode own_c24 7 = .ok (.getfield 22, 3) := by decide +kernel
theorem d24_10 : decode own_c24 10 = .ok (.ifCond .ne 7, 3) := by decide +kernel
theorem d24_13 : decode own_c24 13 = .ok (.iconst 1, 1) := by decide +kernel
theorem d24_14 : decode own_c24 14 = .ok (.goto 4, 3) := by decide +kernel
theorem d24_18 : decode own_c24 18 = .ok (.ireturn, 1) := by decide +kernel
set_option maxRecDepth 65536 in
set_option maxHeartbeats 40000000 in
theorem own_ais0 (l : Launch) (Z : State) (a0 : Array Value) (hW : own_W Z a0) (b1 : Nat) (h0 : Heap) (n0 : Nat) (Z0 : n0 ≤ h0.size) (O0 : Old Z n0 h0) (Fc1 : Fld Z h0 b1 "java/lang/AbstractStringBuilder" "coder" "B" (.int (0 : Int32))) :
    own_M l own_y24 own_c24 1 (some .boolean) (own_r 0 0 0 0) #[(.ref b1)] Z h0 (own_ais0_Q Z b1 h0 n0) := by
  refine own_enter (own := "java/lang/AbstractStringBuilder") rfl (plainFor_of_name pn_java_lang_AbstractStringBuilder) (fun m => ef_own_ais0 m b1) ?_
  intro p e s m below meth c s₁ Bd hZ hh hx hby hml hown hnm X0 e0
  obtain ⟨hw, ⟨G1, O2, P5⟩, ⟨G3, O4, rG3⟩, Oa, Oh, Ol⟩ := id hW
  have N0 := Fr.nil n0
  have K0 := Keep.refl h0 []
  obtain ⟨T11, X11, e11, st11⟩ := getS2 X0 hx hZ hown (host := "") (Or.inl (tw_ hw 60 rfl)) Via.refl e0 (O2.ext O0.2) (g := (mkF m 0 #[vr b1] [])) rfl (hb hby d24_0)
  refine own_go st11 ?_
  refine own_gs (cur' := T11.setTop (mkF m 7 #[vr b1] [(.ref b1)])) ?_ ?_
  · refine XS.ifNo X11.here hx rfl (hb hby d24_3) rfl ((if0 _ _).trans (feq (P5 : ¬ (G1 = (0 : Int32)))).1) ?_
    refine XS.aloadN X11.here hx rfl (hb hby d24_6) rfl rfl ?_
    exact Steps.refl _
  obtain ⟨T12, X12, e12, st12⟩ := getF X11 hx hZ hown (host := "") (Or.inl (tw_ hw 63 rfl)) Via.refl e11 Fc1 (g := (mkF m 7 #[vr b1] [(.ref b1)])) rfl rfl (hb hby d24_7)
  refine own_go st12 ?_
  refine own_gs (cur' := T12.setTop (mkF m 18 #[vr b1] [(.int (1 : Int32))])) ?_ ?_
  · refine XS.ifNo X12.here hx rfl (hb hby d24_10) rfl ((if0 _ _).trans (teq ((by decide) : (0 : Int32) = (0 : Int32))).2) ?_
    refine XS.iconst X12.here hx rfl (hb hby d24_13) ?_
    refine XS.goto X12.here hx rfl (pc0 := 14) (pc' := 18) rfl (hb hby d24_14) (by decide) (by decide) ?_
    exact Steps.refl _
  exact own_rN X12 Bd (by simp) (v := (1 : Int32)) rfl (hb hby d24_18) e12 (⟨rfl, N0, rfl⟩) rfl rfl
def own_ais1_Q (Z : State) (b1 : Nat) (h0 : Heap) (n0 : Nat) (v : Option Value) (h : Heap) (L : List Loc) : Prop := v = (some (.int (0 : Int32))) ∧ Fr n0 L ∧ h = h0
theorem ef_own_ais1 (m : MethodId) (x0 : Nat) : entryFrame m #[(.ref x0)] 1 = mkF m 0 #[vr x0] [] := by first | (simp [entryFrame, mkF, argsToLocals, Value.category]; done) | rfl
theorem d24_17 : decode own_c24 17 = .ok (.iconst 0, 1) := by decide +kernel
set_option maxRecDepth 65536 in
set_option maxHeartbeats 40000000 in
theorem own_ais1 (l : Launch) (Z : State) (a0 : Array Value) (hW : own_W Z a0) (b1 : Nat) (h0 : Heap) (n0 : Nat) (Z0 : n0 ≤ h0.size) (O0 : Old Z n0 h0) (Fc1 : Fld Z h0 b1 "java/lang/AbstractStringBuilder" "coder" "B" (.int (1 : Int32))) :
    own_M l own_y24 own_c24 1 (some .boolean) (own_r 0 0 0 0) #[(.ref b1)] Z h0 (own_ais1_Q Z b1 h0 n0) := by
  refine own_enter (own := "java/lang/AbstractStringBuilder") rfl (plainFor_of_name pn_java_lang_AbstractStringBuilder) (fun m => ef_own_ais1 m b1) ?_
  intro p e s m below meth c s₁ Bd hZ hh hx hby hml hown hnm X0 e0
  obtain ⟨hw, ⟨G1, O2, P5⟩, ⟨G3, O4, rG3⟩, Oa, Oh, Ol⟩ := id hW
  have N0 := Fr.nil n0
  have K0 := Keep.refl h0 []
  obtain ⟨T11, X11, e11, st11⟩ := getS2 X0 hx hZ hown (host := "") (Or.inl (tw_ hw 60 rfl)) Via.refl e0 (O2.ext O0.2) (g := (mkF m 0 #[vr b1] [])) rfl (hb hby d24_0)
  refine own_go st11 ?_
  refine own_gs (cur' := T11.setTop (mkF m 7 #[vr b1] [(.ref b1)])) ?_ ?_
  · refine XS.ifNo X11.here hx rfl (hb hby d24_3) rfl ((if0 _ _).trans (feq (P5 : ¬ (G1 = (0 : Int32)))).1) ?_
    refine XS.aloadN X11.here hx rfl (hb hby d24_6) rfl rfl ?_
    exact Steps.refl _
  obtain ⟨T12, X12, e12, st12⟩ := getF X11 hx hZ hown (host := "") (Or.inl (tw_ hw 63 rfl)) Via.refl e11 Fc1 (g := (mkF m 7 #[vr b1] [(.ref b1)])) rfl rfl (hb hby d24_7)
  refine own_go st12 ?_
  refine own_gs (cur' := T12.setTop (mkF m 18 #[vr b1] [(.int (0 : Int32))])) ?_ ?_
  · refine XS.ifYes X12.here hx rfl (pc0 := 10) (pc' := 17) rfl (hb hby d24_10) rfl ((if0 _ _).trans (feq ((by decide) : ¬ ((1 : Int32) = (0 : Int32)))).2) (by decide) (by decide) ?_
    refine XS.iconst X12.here hx rfl (hb hby d24_17) ?_
    exact Steps.refl _
  exact own_rN X12 Bd (by simp) (v := (0 : Int32)) rfl (hb hby d24_18) e12 (⟨rfl, N0, rfl⟩) rfl rfl
abbrev own_c25 : ByteArray := jdk_68_method_9_code
def own_eci0_Q (Z : State) (b1 t1 : Nat) (k1 : ClassId) (n i : Nat) (vs : List Value) (h0 : Heap) (n0 : Nat) (v : Option Value) (h : Heap) (L : List Loc) : Prop := v = none ∧ Fr n0 L ∧ h = h0
theorem ef_own_eci0 (m : MethodId) (x0 : Nat) (x1 : Int32) : entryFrame m #[(.ref x0), (.int x1)] 3 = mkF m 0 #[vr x0, vi x1, .unset] [] := by first | (simp [entryFrame, mkF, argsToLocals, Value.category]; done) | rfl
abbrev own_y25 : MethodName := ⟨"java/lang/AbstractStringBuilder", "ensureCapacityInternal", "(I)V"⟩
theorem d25_0 : decode own_c25 0 = .ok (.aload_n 0, 1) := by decide +kernel
theorem d25_1 : decode own_c25 1 = .ok (.getfield 15, 3) := by decide +kernel
theorem d25_4 : decode own_c25 4 = .ok (.arraylength, 1) := by decide +kernel
theorem d25_5 : decode own_c25 5 = .ok (.aload_n 0, 1) := by decide +kernel
theorem d25_6 : decode own_c25 6 = .ok (.getfield 22, 3) := by decide +kernel
theorem d25_9 : decode own_c25 9 = .ok (.ishr, 1) := by decide +kernel
theorem d25_10 : decode own_c25 10 = .ok (.istore_n 2, 1) := by decide +kernel
theorem d25_11 : decode own_c25 11 = .ok (.iload_n 1, 1) := by decide +kernel
theorem d25_12 : decode own_c25 12 = .ok (.iload_n 2, 1) := by decide +kernel
theorem d25_13 : decode own_c25 13 = .ok (.isub, 1) := by decide +kernel
theorem d25_14 : decode own_c25 14 = .ok (.ifCond .le 24, 3) := by decide +kernel
theorem d25_38 : decode own_c25 38 = .ok (.return_, 1) := by decide +kernel
set_option maxRecDepth 65536 in
set_option maxHeartbeats 40000000 in
theorem own_eci0 (l : Launch) (Z : State) (a0 : Array Value) (hW : own_W Z a0) (b1 t1 : Nat) (k1 : ClassId) (n i : Nat) (vs : List Value) (h0 : Heap) (n0 : Nat) (Z0 : n0 ≤ h0.size) (O0 : Old Z n0 h0) (hn : n ≤ 3) (hi : i < n) (E1 : Exa Z h0 b1 "java/lang/StringBuilder") (Fv1 : Fld Z h0 b1 "java/lang/AbstractStringBuilder" "value" "[B" (.ref t1)) (Fc1 : Fld Z h0 b1 "java/lang/AbstractStringBuilder" "coder" "B" (.int (0 : Int32))) (Fn1 : Fld Z h0 b1 "java/lang/AbstractStringBuilder" "count" "I" (.int (Int32.ofNat i))) (Fm1 : Fld Z h0 b1 "java/lang/AbstractStringBuilder" "maybeLatin1" "Z" (.int (0 : Int32))) (V1 : Arv Z h0 t1 k1 .byte (Int32.ofNat n) vs (.int (0 : Int32))) :
    own_M l own_y25 own_c25 3 none (own_r 0 0 0 0) #[(.ref b1), (.int (Int32.ofNat (i + 1)))] Z h0 (own_eci0_Q Z b1 t1 k1 n i vs h0 n0) := by
  refine own_enter (own := "java/lang/AbstractStringBuilder") rfl (plainFor_of_name pn_java_lang_AbstractStringBuilder) (fun m => ef_own_eci0 m b1 (Int32.ofNat (i + 1))) ?_
  intro p e s m below meth c s₁ Bd hZ hh hx hby hml hown hnm X0 e0
  obtain ⟨hw, ⟨G1, O2, P5⟩, ⟨G3, O4, rG3⟩, Oa, Oh, Ol⟩ := id hW
  have N0 := Fr.nil n0
  have K0 := Keep.refl h0 []
  have lt1 := own_lt E1.lt
  have lt2 := own_lt V1.lt
  refine own_gs (cur' := s₁.setTop (mkF m 1 #[vr b1, vi (Int32.ofNat (i + 1)), uu] [(.ref b1)])) ?_ ?_
  · refine XS.aloadN X0.here hx rfl (hb hby d25_0) rfl rfl ?_
    exact Steps.refl _
  obtain ⟨T11, X11, e11, st11⟩ := getF X0 hx hZ hown (host := "") (Or.inl (tw_ hw 61 rfl)) Via.refl e0 Fv1 (g := (mkF m 1 #[vr b1, vi (Int32.ofNat (i + 1)), uu] [(.ref b1)])) rfl rfl (hb hby d25_1)
  refine own_go st11 ?_
  obtain ⟨cl12, Ar12, q12, S12, M12, Hs12, G12⟩ := id V1
  refine own_go (X11.arraylength hx (by rw [e11]; exact Ar12.1) (State.isArrayOf_alike hZ.alike Ar12.2.1) (g := (mkF m 4 #[vr b1, vi (Int32.ofNat (i + 1)), uu] [(.ref t1)])) rfl rfl (hb hby d25_4)) ?_
  rw [len_of S12 M12]
  show own_Fin p e below (T11.setTop (mkF m 5 #[vr b1, vi (Int32.ofNat (i + 1)), uu] [(.int (Int32.ofNat n))])) _
  refine own_gs (cur' := T11.setTop (mkF m 6 #[vr b1, vi (Int32.ofNat (i + 1)), uu] [(.ref b1), (.int (Int32.ofNat n))])) ?_ ?_
  · refine XS.aloadN X11.here hx rfl (hb hby d25_5) rfl rfl ?_
    exact Steps.refl _
  obtain ⟨T13, X13, e13, st13⟩ := getF X11 hx hZ hown (host := "") (Or.inl (tw_ hw 63 rfl)) Via.refl e11 Fc1 (g := (mkF m 6 #[vr b1, vi (Int32.ofNat (i + 1)), uu] [(.ref b1), (.int (Int32.ofNat n))])) rfl rfl (hb hby d25_6)
  refine own_go st13 ?_
  refine own_gs (cur' := T13.setTop (mkF m 10 #[vr b1, vi (Int32.ofNat (i + 1)), uu] [(.int ((Int32.ofNat n) >>> ((0 : Int32) &&& 31)))])) ?_ ?_
  · refine XS.ishr X13.here hx rfl (hb hby d25_9) rfl ?_
    exact Steps.refl _
  rw [StrChars.shr0]
  show own_Fin p e below (T13.setTop (mkF m 10 #[vr b1, vi (Int32.ofNat (i + 1)), uu] [(.int (Int32.ofNat n))])) _
  refine own_gs (cur' := T13.setTop (mkF m 38 #[vr b1, vi (Int32.ofNat (i + 1)), vi (Int32.ofNat n)] [])) ?_ ?_
  · refine XS.istoreN X13.here hx rfl (hb hby d25_10) rfl (l' := #[vr b1, vi (Int32.ofNat (i + 1)), vi (Int32.ofNat n)]) rfl ?_
    refine XS.iloadN X13.here hx rfl (hb hby d25_11) rfl ?_
    refine XS.iloadN X13.here hx rfl (hb hby d25_12) rfl ?_
    refine XS.isub X13.here hx rfl (hb hby d25_13) rfl ?_
    refine XS.ifYes X13.here hx rfl (pc0 := 14) (pc' := 38) rfl (hb hby d25_14) rfl ((if0 _ _).trans (flt ((own_subn hi (by omega)) : ¬ ((0 : Int32) < ((Int32.ofNat (i + 1)) - (Int32.ofNat n))))).2.2.2) (by decide) (by decide) ?_
    exact Steps.refl _
  exact own_rV X13 Bd (hb hby d25_38) e13 (⟨rfl, N0, rfl⟩) rfl rfl
def own_eci1_Q (Z : State) (b1 t1 : Nat) (k1 : ClassId) (n i : Nat) (vs : List Value) (h0 : Heap) (n0 : Nat) (v : Option Value) (h : Heap) (L : List Loc) : Prop := v = none ∧ Fr n0 L ∧ h = h0
theorem ef_own_eci1 (m : MethodId) (x0 : Nat) (x1 : Int32) : entryFrame m #[(.ref x0), (.int x1)] 3 = mkF m 0 #[vr x0, vi x1, .unset] [] := by first | (simp [entryFrame, mkF, argsToLocals, Value.category]; done) | rfl
set_option maxRecDepth 65536 in
set_option maxHeartbeats 40000000 in
theorem own_eci1 (l : Launch) (Z : State) (a0 : Array Value) (hW : own_W Z a0) (b1 t1 : Nat) (k1 : ClassId) (n i : Nat) (vs : List Value) (h0 : Heap) (n0 : Nat) (Z0 : n0 ≤ h0.size) (O0 : Old Z n0 h0) (hn : n ≤ 3) (hi : i < n) (E1 : Exa Z h0 b1 "java/lang/StringBuilder") (Fv1 : Fld Z h0 b1 "java/lang/AbstractStringBuilder" "value" "[B" (.ref t1)) (Fc1 : Fld Z h0 b1 "java/lang/AbstractStringBuilder" "coder" "B" (.int (1 : Int32))) (Fn1 : Fld Z h0 b1 "java/lang/AbstractStringBuilder" "count" "I" (.int (Int32.ofNat i))) (Fm1 : Fld Z h0 b1 "java/lang/AbstractStringBuilder" "maybeLatin1" "Z" (.int (0 : Int32))) (V1 : Arv Z h0 t1 k1 .byte (Int32.ofNat (2 * n)) vs (.int (0 : Int32))) :
    own_M l own_y25 own_c25 3 none (own_r 0 0 0 0) #[(.ref b1), (.int (Int32.ofNat (i + 1)))] Z h0 (own_eci1_Q Z b1 t1 k1 n i vs h0 n0) := by
  refine own_enter (own := "java/lang/AbstractStringBuilder") rfl (plainFor_of_name pn_java_lang_AbstractStringBuilder) (fun m => ef_own_eci1 m b1 (Int32.ofNat (i + 1))) ?_
  intro p e s m below meth c s₁ Bd hZ hh hx hby hml hown hnm X0 e0
  obtain ⟨hw, ⟨G1, O2, P5⟩, ⟨G3, O4, rG3⟩, Oa, Oh, Ol⟩ := id hW
  have N0 := Fr.nil n0
  have K0 := Keep.refl h0 []
  have lt1 := own_lt E1.lt
  have lt2 := own_lt V1.lt
  refine own_gs (cur' := s₁.setTop (mkF m 1 #[vr b1, vi (Int32.ofNat (i + 1)), uu] [(.ref b1)])) ?_ ?_
  · refine XS.aloadN X0.here hx rfl (hb hby d25_0) rfl rfl ?_
    exact Steps.refl _
  obtain ⟨T11, X11, e11, st11⟩ := getF X0 hx hZ hown (host := "") (Or.inl (tw_ hw 61 rfl)) Via.refl e0 Fv1 (g := (mkF m 1 #[vr b1, vi (Int32.ofNat (i + 1)), uu] [(.ref b1)])) rfl rfl (hb hby d25_1)
  refine own_go st11 ?_
  obtain ⟨cl12, Ar12, q12, S12, M12, Hs12, G12⟩ := id V1
  refine own_go (X11.arraylength hx (by rw [e11]; exact Ar12.1) (State.isArrayOf_alike hZ.alike Ar12.2.1) (g := (mkF m 4 #[vr b1, vi (Int32.ofNat (i + 1)), uu] [(.ref t1)])) rfl rfl (hb hby d25_4)) ?_
  rw [len_of S12 M12]
  show own_Fin p e below (T11.setTop (mkF m 5 #[vr b1, vi (Int32.ofNat (i + 1)), uu] [(.int (Int32.ofNat (2 * n)))])) _
  refine own_gs (cur' := T11.setTop (mkF m 6 #[vr b1, vi (Int32.ofNat (i + 1)), uu] [(.ref b1), (.int (Int32.ofNat (2 * n)))])) ?_ ?_
  · refine XS.aloadN X11.here hx rfl (hb hby d25_5) rfl rfl ?_
    exact Steps.refl _
  obtain ⟨T13, X13, e13, st13⟩ := getF X11 hx hZ hown (host := "") (Or.inl (tw_ hw 63 rfl)) Via.refl e11 Fc1 (g := (mkF m 6 #[vr b1, vi (Int32.ofNat (i + 1)), uu] [(.ref b1), (.int (Int32.ofNat (2 * n)))])) rfl rfl (hb hby d25_6)
  refine own_go st13 ?_
  refine own_gs (cur' := T13.setTop (mkF m 10 #[vr b1, vi (Int32.ofNat (i + 1)), uu] [(.int ((Int32.ofNat (2 * n)) >>> ((1 : Int32) &&& 31)))])) ?_ ?_
  · refine XS.ishr X13.here hx rfl (hb hby d25_9) rfl ?_
    exact Steps.refl _
  rw [own_shr1 (by omega)]
  show own_Fin p e below (T13.setTop (mkF m 10 #[vr b1, vi (Int32.ofNat (i + 1)), uu] [(.int (Int32.ofNat n))])) _
  refine own_gs (cur' := T13.setTop (mkF m 38 #[vr b1, vi (Int32.ofNat (i + 1)), vi (Int32.ofNat n)] [])) ?_ ?_
  · refine XS.istoreN X13.here hx rfl (hb hby d25_10) rfl (l' := #[vr b1, vi (Int32.ofNat (i + 1)), vi (Int32.ofNat n)]) rfl ?_
    refine XS.iloadN X13.here hx rfl (hb hby d25_11) rfl ?_
    refine XS.iloadN X13.here hx rfl (hb hby d25_12) rfl ?_
    refine XS.isub X13.here hx rfl (hb hby d25_13) rfl ?_
    refine XS.ifYes X13.here hx rfl (pc0 := 14) (pc' := 38) rfl (hb hby d25_14) rfl ((if0 _ _).trans (flt ((own_subn hi (by omega)) : ¬ ((0 : Int32) < ((Int32.ofNat (i + 1)) - (Int32.ofNat n))))).2.2.2) (by decide) (by decide) ?_
    exact Steps.refl _
  exact own_rV X13 Bd (hb hby d25_38) e13 (⟨rfl, N0, rfl⟩) rfl rfl
def own_ce0_Q (Z : State) (c0 : Int32) (h0 : Heap) (n0 : Nat) (v : Option Value) (h : Heap) (L : List Loc) : Prop := v = (some (.int (0 : Int32))) ∧ Fr n0 L ∧ h = h0
theorem ef_own_ce0 (m : MethodId) (x0 : Int32) : entryFrame m #[(.int x0)] 1 = mkF m 0 #[vi x0] [] := by first | (simp [entryFrame, mkF, argsToLocals, Value.category]; done) | rfl
set_option maxRecDepth 65536 in
set_option maxHeartbeats 40000000 in
theorem own_ce0 (l : Launch) (Z : State) (a0 : Array Value) (hW : own_W Z a0) (c0 : Int32) (h0 : Heap) (n0 : Nat) (Z0 : n0 ≤ h0.size) (O0 : Old Z n0 h0) (hce : (255 : Int32) < c0) :
    own_M l own_y17 own_c17 1 (some .boolean) (own_r 0 0 0 0) #[(.int c0)] Z h0 (own_ce0_Q Z c0 h0 n0) := by
  refine own_enter (own := "java/lang/StringLatin1") rfl (plainFor_of_name pn_java_lang_StringLatin1) (fun m => ef_own_ce0 m c0) ?_
  intro p e s m below meth c s₁ Bd hZ hh hx hby hml hown hnm X0 e0
  obtain ⟨hw, ⟨G1, O2, P5⟩, ⟨G3, O4, rG3⟩, Oa, Oh, Ol⟩ := id hW
  have N0 := Fr.nil n0
  have K0 := Keep.refl h0 []
  refine own_gs (cur' := s₁.setTop (mkF m 12 #[vi c0] [(.int (0 : Int32))])) ?_ ?_
  · refine XS.iloadN X0.here hx rfl (hb hby d17_0) rfl ?_
    refine XS.sipush X0.here hx rfl (hb hby d17_1) ?_
    refine XS.icmpYes X0.here hx rfl (pc0 := 4) (pc' := 11) rfl (hb hby d17_4) rfl (tlt (hce : (255 : Int32) < c0)).2.2.1 (by decide) (by decide) ?_
    refine XS.iconst X0.here hx rfl (hb hby d17_11) ?_
    exact Steps.refl _
  exact own_rN X0 Bd (by simp) (v := (0 : Int32)) rfl (hb hby d17_12) e0 (⟨rfl, N0, rfl⟩) rfl rfl
def own_ce1_Q (Z : State) (c0 : Int32) (h0 : Heap) (n0 : Nat) (v : Option Value) (h : Heap) (L : List Loc) : Prop := v = (some (.int (1 : Int32))) ∧ Fr n0 L ∧ h = h0
theorem ef_own_ce1 (m : MethodId) (x0 : Int32) : entryFrame m #[(.int x0)] 1 = mkF m 0 #[vi x0] [] := by first | (simp [entryFrame, mkF, argsToLocals, Value.category]; done) | rfl
set_option maxRecDepth 65536 in
set_option maxHeartbeats 40000000 in
theorem own_ce1 (l : Launch) (Z : State) (a0 : Array Value) (hW : own_W Z a0) (c0 : Int32) (h0 : Heap) (n0 : Nat) (Z0 : n0 ≤ h0.size) (O0 : Old Z n0 h0) (hce : ¬ (255 : Int32) < c0) :
    own_M l own_y17 own_c17 1 (some .boolean) (own_r 0 0 0 0) #[(.int c0)] Z h0 (own_ce1_Q Z c0 h0 n0) := by
  refine own_enter (own := "java/lang/StringLatin1") rfl (plainFor_of_name pn_java_lang_StringLatin1) (fun m => ef_own_ce1 m c0) ?_
  intro p e s m below meth c s₁ Bd hZ hh hx hby hml hown hnm X0 e0
  obtain ⟨hw, ⟨G1, O2, P5⟩, ⟨G3, O4, rG3⟩, Oa, Oh, Ol⟩ := id hW
  have N0 := Fr.nil n0
  have K0 := Keep.refl h0 []
  refine own_gs (cur' := s₁.setTop (mkF m 12 #[vi c0] [(.int (1 : Int32))])) ?_ ?_
  · refine XS.iloadN X0.here hx rfl (hb hby d17_0) rfl ?_
    refine XS.sipush X0.here hx rfl (hb hby d17_1) ?_
    refine XS.icmpNo X0.here hx rfl (hb hby d17_4) rfl (flt (hce : ¬ ((255 : Int32) < c0))).2.2.1 ?_
    refine XS.iconst X0.here hx rfl (hb hby d17_7) ?_
    refine XS.goto X0.here hx rfl (pc0 := 8) (pc' := 12) rfl (hb hby d17_8) (by decide) (by decide) ?_
    exact Steps.refl _
  exact own_rN X0 Bd (by simp) (v := (1 : Int32)) rfl (hb hby d17_12) e0 (⟨rfl, N0, rfl⟩) rfl rfl
def own_nblg_Q (Z : State) (n : Nat) (h0 : Heap) (n0 : Nat) (v : Option Value) (h : Heap) (L : List Loc) : Prop := v = (some (.int (Int32.ofNat (2 * n)))) ∧ Fr n0 L ∧ h = h0
theorem ef_own_nblg (m : MethodId) (x0 : Int32) : entryFrame m #[(.int x0)] 1 = mkF m 0 #[vi x0] [] := by first | (simp [entryFrame, mkF, argsToLocals, Value.category]; done) | rfl
set_option maxRecDepth 65536 in
set_option maxHeartbeats 40000000 in
theorem own_nblg (l : Launch) (Z : State) (a0 : Array Value) (hW : own_W Z a0) (n : Nat) (h0 : Heap) (n0 : Nat) (Z0 : n0 ≤ h0.size) (O0 : Old Z n0 h0) (hn : n ≤ 3) :
    own_M l own_y11 own_c11 1 (some .int) (own_r 0 0 0 0) #[(.int (Int32.ofNat n))] Z h0 (own_nblg_Q Z n h0 n0) := by
  refine own_enter (own := "java/lang/StringUTF16") rfl (plainFor_of_name pn_java_lang_StringUTF16) (fun m => ef_own_nblg m (Int32.ofNat n)) ?_
  intro p e s m below meth c s₁ Bd hZ hh hx hby hml hown hnm X0 e0
  obtain ⟨hw, ⟨G1, O2, P5⟩, ⟨G3, O4, rG3⟩, Oa, Oh, Ol⟩ := id hW
  have N0 := Fr.nil n0
  have K0 := Keep.refl h0 []
  refine own_gs (cur' := s₁.setTop (mkF m 58 #[vi (Int32.ofNat n)] [(.int ((Int32.ofNat n) <<< ((1 : Int32) &&& 31)))])) ?_ ?_
  · refine XS.iloadN X0.here hx rfl (hb hby d11_0) rfl ?_
    refine XS.ifYes X0.here hx rfl (pc0 := 1) (pc' := 12) rfl (hb hby d11_1) rfl ((if0 _ _).trans (flt ((own_in (a := n) (b := 4) (by omega) (by decide)).1 : ¬ ((Int32.ofNat n) < (0 : Int32)))).2.1) (by decide) (by decide) ?_
    refine XS.iloadN X0.here hx rfl (hb hby d11_12) rfl ?_
    refine X0.ldcInt hx hown (mvT hZ (tw_ hw 191 rfl)) (g := (mkF m 13 #[vi (Int32.ofNat n)] [(.int (Int32.ofNat n))])) rfl (hb hby d11_13) _ ?_
    refine XS.icmpYes X0.here hx rfl (pc0 := 15) (pc' := 55) rfl (hb hby d11_15) rfl (tlt ((own_ltM (by omega)) : (Int32.ofNat n) < (1073741823 : Int32))).1 (by decide) (by decide) ?_
    refine XS.iloadN X0.here hx rfl (hb hby d11_55) rfl ?_
    refine XS.iconst X0.here hx rfl (hb hby d11_56) ?_
    refine XS.ishl X0.here hx rfl (hb hby d11_57) rfl ?_
    exact Steps.refl _
  rw [own_shl1 (by omega)]
  show own_Fin p e below (s₁.setTop (mkF m 58 #[vi (Int32.ofNat n)] [(.int (Int32.ofNat (2 * n)))])) _
  exact own_rI X0 Bd (hb hby d11_58) e0 (⟨rfl, N0, rfl⟩) rfl rfl
def own_nbfg_Q (Z : State) (n : Nat) (h0 : Heap) (n0 : Nat) (v : Option Value) (h : Heap) (L : List Loc) : Prop := ∃ (t : Nat) (k : ClassId), v = some (.ref t) ∧ Fr n0 L ∧ Keep h0 h [] ∧ Arv Z h t k .byte (Int32.ofNat (2 * n)) (List.replicate (2 * n) (.int (0 : Int32))) (.int (0 : Int32)) ∧ Z.vm.findClass "[B" = some k ∧ h0.size ≤ t
theorem ef_own_nbfg (m : MethodId) (x0 : Int32) : entryFrame m #[(.int x0)] 1 = mkF m 0 #[vi x0] [] := by first | (simp [entryFrame, mkF, argsToLocals, Value.category]; done) | rfl
set_option maxRecDepth 65536 in
set_option maxHeartbeats 40000000 in
theorem own_nbfg (l : Launch) (Z : State) (a0 : Array Value) (hW : own_W Z a0) (n : Nat) (h0 : Heap) (n0 : Nat) (Z0 : n0 ≤ h0.size) (O0 : Old Z n0 h0) (hn : n ≤ 3) :
    own_M l own_y12 own_c12 1 (some (.array .byte)) (own_r 1 1 6 18) #[(.int (Int32.ofNat n))] Z h0 (own_nbfg_Q Z n h0 n0) := by
  refine own_enter (own := "java/lang/StringUTF16") rfl (plainFor_of_name pn_java_lang_StringUTF16) (fun m => ef_own_nbfg m (Int32.ofNat n)) ?_
  intro p e s m below meth c s₁ Bd hZ hh hx hby hml hown hnm X0 e0
  obtain ⟨hw, ⟨G1, O2, P5⟩, ⟨G3, O4, rG3⟩, Oa, Oh, Ol⟩ := id hW
  have N0 := Fr.nil n0
  have K0 := Keep.refl h0 []
  refine own_gs (cur' := s₁.setTop (mkF m 1 #[vi (Int32.ofNat n)] [(.int (Int32.ofNat n))])) ?_ ?_
  · refine XS.iloadN X0.here hx rfl (hb hby d12_0) rfl ?_
    exact Steps.refl _
  obtain ⟨_, _, ⟨T11, L11, k11, n11⟩, -, X11, ⟨Lc11, hQ11, l11, y11, z11⟩, st11⟩ := Jvm.LawKit.callS X0 hx (y := own_y11) hown (mvT hZ (tw_ hw 188 rfl)) (mvT hZ (tw_ hw 189 rfl)) (mvT hZ (tw_ hw 170 rfl)) (mvT hZ (tw_ hw 190 rfl)) (by decide) (backOf (W := 0) (own_nblg l Z a0 hW n h0 n0 (by omega) O0 hn) hZ (tw_ hw 190 rfl) (tw_ hw 170 rfl) (by decide) (by decide)) (g := (mkF m 1 #[vi (Int32.ofNat n)] [(.int (Int32.ofNat n))])) rfl (by rw [hml]; rfl) (argsL := [(.int (Int32.ofNat n))]) (rest := []) (lenOf pd_7 rfl) rfl (own_le rfl) (hb hby d12_1) (fun _ _ => ⟨rfl, e0, own_le rfl, own_le rfl⟩)
  dsimp only [Pt.U, Pt.locs, Pt.cells, Pt.slots] at X11 l11 y11 z11 st11 hQ11
  subst l11 y11 z11
  obtain ⟨rfl, Nq11, eh11⟩ := hQ11
  have N11 := Fr.app N0 Nq11
  refine own_go st11 ?_
  obtain ⟨T12, h12, k12, X12, e12, E12, A12, Eb12, st12⟩ := newPE X11 hx hZ (tw_ hw 21 rfl) eh11 (g := (mkF m 4 #[vi (Int32.ofNat n)] [(.int (Int32.ofNat (2 * n)))])) rfl (hb hby d12_4) rfl (own_in (a := 2 * n) (b := 7) (by omega) (by decide)).1 (cap := 6) (by rw [own_nat (by omega)]; omega) (by decide) (by decide) (by decide) (ad := "[B") rfl
  obtain ⟨b12, g12⟩ : ∃ z, z = h0.size := ⟨_, rfl⟩
  rw [← g12] at A12 st12
  have lt12 := own_lt A12.lt
  refine own_go st12 ?_
  have z13 := E12.1
  have K13 := K0.ext E12
  have O13 := O0.ext E12
  have V12 : Arv Z h12 b12 k12 .byte (Int32.ofNat (2 * n)) [] (.int (0 : Int32)) := Arv.new A12 (own_in (a := 2 * n) (b := 7) (by omega) (by decide)).1
  rw [← g12] at Eb12
  have fc12 := own_fcB V12 Eb12
  exact own_rA X12 Bd rfl (v := (.ref b12)) rfl (hb hby d12_6) e12 (⟨_, _, rfl, N11, K13, (V12.pad (pad_rep [] (.int (0 : Int32)) (2 * n))), fc12, (by omega)⟩) rfl rfl
abbrev own_c26 : ByteArray := jdk_52_method_71_code
def own_psb_Q (Z : State) (t1 : Nat) (k1 : ClassId) (n i : Nat) (vs : List Value) (c0 : Int32) (h0 : Heap) (n0 : Nat) (v : Option Value) (h : Heap) (L : List Loc) : Prop := v = none ∧ Fr n0 L ∧ Keep h0 h [t1] ∧ Arv Z h t1 k1 .byte (Int32.ofNat (2 * n)) ((vs.set (2 * i) (.int (StrChars.lo8 c0))).set (2 * i + 1) (.int (StrChars.hi8 c0))) (.int (0 : Int32))
theorem ef_own_psb (m : MethodId) (x0 : Nat) (x1 : Int32) (x2 : Int32) : entryFrame m #[(.ref x0), (.int x1), (.int x2)] 3 = mkF m 0 #[vr x0, vi x1, vi x2] [] := by first | (simp [entryFrame, mkF, argsToLocals, Value.category]; done) | rfl
abbrev own_y26 : MethodName := ⟨"java/lang/StringUTF16", "putCharSB", "([BII)V"⟩
theorem d26_0 : decode own_c26 0 = .ok (.iload_n 1, 1) := by decide +kernel
theorem d26_1 : decode own_c26 1 = .ok (.aload_n 0, 1) := by decide +kernel
theorem d26_2 : decode own_c26 2 = .ok (.invokestatic 67, 3) := by decide +kernel
theorem d26_5 : decode own_c26 5 = .ok (.aload_n 0, 1) := by decide +kernel
theorem d26_6 : decode own_c26 6 = .ok (.iload_n 1, 1) := by decide +kernel
theorem d26_7 : decode own_c26 7 = .ok (.iload_n 2, 1) := by decide +kernel
theorem d26_8 : decode own_c26 8 = .ok (.invokestatic 111, 3) := by decide +kernel
theorem d26_11 : decode own_c26 11 = .ok (.return_, 1) := by decide +kernel
set_option maxRecDepth 65536 in
set_option maxHeartbeats 40000000 in
theorem own_psb (l : Launch) (Z : State) (a0 : Array Value) (hW : own_W Z a0) (t1 : Nat) (k1 : ClassId) (n i : Nat) (vs : List Value) (c0 : Int32) (h0 : Heap) (n0 : Nat) (Z0 : n0 ≤ h0.size) (O0 : Old Z n0 h0) (hn : n ≤ 3) (hi : i < n) (hl : vs.length = 2 * n) (g2 : n0 ≤ t1) (V1 : Arv Z h0 t1 k1 .byte (Int32.ofNat (2 * n)) vs (.int (0 : Int32))) :
    own_M l own_y26 own_c26 3 none (own_r 3 0 0 46) #[(.ref t1), (.int (Int32.ofNat i)), (.int c0)] Z h0 (own_psb_Q Z t1 k1 n i vs c0 h0 n0) := by
  refine own_enter (own := "java/lang/StringUTF16") rfl (plainFor_of_name pn_java_lang_StringUTF16) (fun m => ef_own_psb m t1 (Int32.ofNat i) c0) ?_
  intro p e s m below meth c s₁ Bd hZ hh hx hby hml hown hnm X0 e0
  obtain ⟨hw, ⟨G1, O2, P5⟩, ⟨G3, O4, rG3⟩, Oa, Oh, Ol⟩ := id hW
  have N0 := Fr.nil n0
  have K0 := Keep.refl h0 [t1]
  have lt1 := own_lt V1.lt
  refine own_gs (cur' := s₁.setTop (mkF m 2 #[vr t1, vi (Int32.ofNat i), vi c0] [(.ref t1), (.int (Int32.ofNat i))])) ?_ ?_
  · refine XS.iloadN X0.here hx rfl (hb hby d26_0) rfl ?_
    refine XS.aloadN X0.here hx rfl (hb hby d26_1) rfl rfl ?_
    exact Steps.refl _
  obtain ⟨_, _, ⟨T11, L11, k11, n11⟩, -, X11, ⟨Lc11, hQ11, l11, y11, z11⟩, st11⟩ := Jvm.LawKit.callS X0 hx (y := own_y5) hown (mvT hZ (tw_ hw 204 rfl)) (mvT hZ (tw_ hw 205 rfl)) (mvT hZ (tw_ hw 170 rfl)) (mvT hZ (tw_ hw 206 rfl)) (by decide) (backOf (W := 0) (own_u_ci l Z a0 hW t1 k1 n i vs h0 n0 (by omega) O0 (by omega) hi V1) hZ (tw_ hw 206 rfl) (tw_ hw 170 rfl) (by decide) (by decide)) (g := (mkF m 2 #[vr t1, vi (Int32.ofNat i), vi c0] [(.ref t1), (.int (Int32.ofNat i))])) rfl (by rw [hml]; rfl) (argsL := [(.int (Int32.ofNat i)), (.ref t1)]) (rest := []) (lenOf pd_4 rfl) rfl (own_le rfl) (hb hby d26_2) (fun _ _ => ⟨rfl, e0, own_le rfl, own_le rfl⟩)
  dsimp only [Pt.U, Pt.locs, Pt.cells, Pt.slots] at X11 l11 y11 z11 st11 hQ11
  subst l11 y11 z11
  obtain ⟨rfl, Nq11, eh11⟩ := hQ11
  have N11 := Fr.app N0 Nq11
  refine own_go st11 ?_
  refine own_gs (cur' := T11.setTop (mkF m 8 #[vr t1, vi (Int32.ofNat i), vi c0] [(.int c0), (.int (Int32.ofNat i)), (.ref t1)])) ?_ ?_
  · refine XS.aloadN X11.here hx rfl (hb hby d26_5) rfl rfl ?_
    refine XS.iloadN X11.here hx rfl (hb hby d26_6) rfl ?_
    refine XS.iloadN X11.here hx rfl (hb hby d26_7) rfl ?_
    exact Steps.refl _
  obtain ⟨_, _, ⟨T12, L12, k12, n12⟩, -, X12, ⟨Lc12, hQ12, l12, y12, z12⟩, st12⟩ := Jvm.LawKit.callS X11 hx (y := own_y10) hown (mvT hZ (tw_ hw 192 rfl)) (mvT hZ (tw_ hw 193 rfl)) (mvT hZ (tw_ hw 170 rfl)) (mvT hZ (tw_ hw 194 rfl)) (by decide) (backOf (W := 0) (own_u_putc l Z a0 hW t1 k1 n i vs c0 h0 n0 (by omega) O0 (by omega) hi hl g2 V1) hZ (tw_ hw 194 rfl) (tw_ hw 170 rfl) (by decide) (by decide)) (g := (mkF m 8 #[vr t1, vi (Int32.ofNat i), vi c0] [(.int c0), (.int (Int32.ofNat i)), (.ref t1)])) rfl (by rw [hml]; rfl) (argsL := [(.ref t1), (.int (Int32.ofNat i)), (.int c0)]) (rest := []) (lenOf pd_9 rfl) rfl (own_le rfl) (hb hby d26_8) (fun _ _ => ⟨rfl, eh11, own_le rfl, own_le rfl⟩)
  dsimp only [Pt.U, Pt.locs, Pt.cells, Pt.slots] at X12 l12 y12 z12 st12 hQ12
  subst l12 y12 z12
  obtain ⟨rfl, Nq12, Kq12, Vt12⟩ := hQ12
  have N12 := Fr.app N11 Nq12
  have z13 := Kq12.1
  have K13 := K0.trans Kq12 (allS (Or.inl (List.mem_of_getElem? (i := 0) rfl)) all0)
  have O13 := O0.keep Kq12 (allS (by omega) all0)
  refine own_go st12 ?_
  exact own_rV X12 Bd (hb hby d26_11) rfl (⟨rfl, N12, K13, Vt12⟩) rfl rfl
abbrev own_c27 : ByteArray := jdk_41_method_13_code
def own_cfi0_Q (Z : State) (n i : Nat) (h0 : Heap) (n0 : Nat) (v : Option Value) (h : Heap) (L : List Loc) : Prop := v = (some (.int (0 : Int32))) ∧ Fr n0 L ∧ h = h0
theorem ef_own_cfi0 (m : MethodId) (x0 : Int32) (x1 : Int32) (x2 : Int32) : entryFrame m #[(.int x0), (.int x1), (.int x2), .null] 4 = mkF m 0 #[vi x0, vi x1, vi x2, vn] [] := by first | (simp [entryFrame, mkF, argsToLocals, Value.category]; done) | rfl
abbrev own_y27 : MethodName := ⟨"jdk/internal/util/Preconditions", "checkFromIndexSize", "(IIILjava/util/function/BiFunction;)I"⟩
theorem d27_0 : decode own_c27 0 = .ok (.iload_n 2, 1) := by decide +kernel
theorem d27_1 : decode own_c27 1 = .ok (.iload_n 0, 1) := by decide +kernel
theorem d27_2 : decode own_c27 2 = .ok (.ior, 1) := by decide +kernel
theorem d27_3 : decode own_c27 3 = .ok (.iload_n 1, 1) := by decide +kernel
theorem d27_4 : decode own_c27 4 = .ok (.ior, 1) := by decide +kernel
theorem d27_5 : decode own_c27 5 = .ok (.ifCond .lt 10, 3) := by decide +kernel
theorem d27_8 : decode own_c27 8 = .ok (.iload_n 1, 1) := by decide +kernel
theorem d27_9 : decode own_c27 9 = .ok (.iload_n 2, 1) := by decide +kernel
theorem d27_10 : decode own_c27 10 = .ok (.iload_n 0, 1) := by decide +kernel
theorem d27_11 : decode own_c27 11 = .ok (.isub, 1) := by decide +kernel
theorem d27_12 : decode own_c27 12 = .ok (.if_icmp .le 11, 3) := by decide +kernel
theorem d27_23 : decode own_c27 23 = .ok (.iload_n 0, 1) := by decide +kernel
theorem d27_24 : decode own_c27 24 = .ok (.ireturn, 1) := by decide +kernel
set_option maxRecDepth 65536 in
set_option maxHeartbeats 40000000 in
theorem own_cfi0 (l : Launch) (Z : State) (a0 : Array Value) (hW : own_W Z a0) (n i : Nat) (h0 : Heap) (n0 : Nat) (Z0 : n0 ≤ h0.size) (O0 : Old Z n0 h0) (hn : n ≤ 3) (hi : i ≤ n) :
    own_M l own_y27 own_c27 4 (some .int) (own_r 0 0 0 0) #[(.int (0 : Int32)), (.int (Int32.ofNat i)), (.int (Int32.ofNat n)), .null] Z h0 (own_cfi0_Q Z n i h0 n0) := by
  refine own_enter (own := "jdk/internal/util/Preconditions") rfl (plainFor_of_name pn_jdk_internal_util_Preconditions) (fun m => ef_own_cfi0 m (0 : Int32) (Int32.ofNat i) (Int32.ofNat n)) ?_
  intro p e s m below meth c s₁ Bd hZ hh hx hby hml hown hnm X0 e0
  obtain ⟨hw, ⟨G1, O2, P5⟩, ⟨G3, O4, rG3⟩, Oa, Oh, Ol⟩ := id hW
  have N0 := Fr.nil n0
  have K0 := Keep.refl h0 []
  refine own_gs (cur' := s₁.setTop (mkF m 24 #[vi (0 : Int32), vi (Int32.ofNat i), vi (Int32.ofNat n), vn] [(.int (0 : Int32))])) ?_ ?_
  · refine XS.iloadN X0.here hx rfl (hb hby d27_0) rfl ?_
    refine XS.iloadN X0.here hx rfl (hb hby d27_1) rfl ?_
    refine XS.ior X0.here hx rfl (hb hby d27_2) rfl ?_
    refine XS.iloadN X0.here hx rfl (hb hby d27_3) rfl ?_
    refine XS.ior X0.here hx rfl (hb hby d27_4) rfl ?_
    refine XS.ifNo X0.here hx rfl (hb hby d27_5) rfl ((if0 _ _).trans (flt ((own_cfi hn hi).1 : ¬ ((((Int32.ofNat n) ||| (0 : Int32)) ||| (Int32.ofNat i)) < (0 : Int32)))).1) ?_
    refine XS.iloadN X0.here hx rfl (hb hby d27_8) rfl ?_
    refine XS.iloadN X0.here hx rfl (hb hby d27_9) rfl ?_
    show Steps p.tables e below (s₁.setTop (mkF m 10 #[vi (0 : Int32), vi (Int32.ofNat i), vi (Int32.ofNat n), vn] [(.int (Int32.ofNat n)), (.int (Int32.ofNat i))])) _
    refine XS.iloadN X0.here hx rfl (hb hby d27_10) rfl ?_
    refine XS.isub X0.here hx rfl (hb hby d27_11) rfl ?_
    refine XS.icmpYes X0.here hx rfl (pc0 := 12) (pc' := 23) rfl (hb hby d27_12) rfl (flt ((own_cfi hn hi).2 : ¬ (((Int32.ofNat n) - (0 : Int32)) < (Int32.ofNat i)))).2.2.2 (by decide) (by decide) ?_
    refine XS.iloadN X0.here hx rfl (hb hby d27_23) rfl ?_
    exact Steps.refl _
  exact own_rI X0 Bd (hb hby d27_24) e0 (⟨rfl, N0, rfl⟩) rfl rfl
def own_cfi1_Q (Z : State) (n i : Nat) (g3 : Nat) (h0 : Heap) (n0 : Nat) (v : Option Value) (h : Heap) (L : List Loc) : Prop := v = (some (.int (0 : Int32))) ∧ Fr n0 L ∧ h = h0
theorem ef_own_cfi1 (m : MethodId) (x0 : Int32) (x1 : Int32) (x2 : Int32) (x3 : Nat) : entryFrame m #[(.int x0), (.int x1), (.int x2), (.ref x3)] 4 = mkF m 0 #[vi x0, vi x1, vi x2, vr x3] [] := by first | (simp [entryFrame, mkF, argsToLocals, Value.category]; done) | rfl
set_option maxRecDepth 65536 in
set_option maxHeartbeats 40000000 in
theorem own_cfi1 (l : Launch) (Z : State) (a0 : Array Value) (hW : own_W Z a0) (n i : Nat) (g3 : Nat) (h0 : Heap) (n0 : Nat) (Z0 : n0 ≤ h0.size) (O0 : Old Z n0 h0) (hn : n ≤ 3) (hi : i ≤ n) :
    own_M l own_y27 own_c27 4 (some .int) (own_r 0 0 0 0) #[(.int (0 : Int32)), (.int (Int32.ofNat i)), (.int (Int32.ofNat n)), (.ref g3)] Z h0 (own_cfi1_Q Z n i g3 h0 n0) := by
  refine own_enter (own := "jdk/internal/util/Preconditions") rfl (plainFor_of_name pn_jdk_internal_util_Preconditions) (fun m => ef_own_cfi1 m (0 : Int32) (Int32.ofNat i) (Int32.ofNat n) g3) ?_
  intro p e s m below meth c s₁ Bd hZ hh hx hby hml hown hnm X0 e0
  obtain ⟨hw, ⟨G1, O2, P5⟩, ⟨G3, O4, rG3⟩, Oa, Oh, Ol⟩ := id hW
  have N0 := Fr.nil n0
  have K0 := Keep.refl h0 []
  refine own_gs (cur' := s₁.setTop (mkF m 24 #[vi (0 : Int32), vi (Int32.ofNat i), vi (Int32.ofNat n), vr g3] [(.int (0 : Int32))])) ?_ ?_
  · refine XS.iloadN X0.here hx rfl (hb hby d27_0) rfl ?_
    refine XS.iloadN X0.here hx rfl (hb hby d27_1) rfl ?_
    refine XS.ior X0.here hx rfl (hb hby d27_2) rfl ?_
    refine XS.iloadN X0.here hx rfl (hb hby d27_3) rfl ?_
    refine XS.ior X0.here hx rfl (hb hby d27_4) rfl ?_
    refine XS.ifNo X0.here hx rfl (hb hby d27_5) rfl ((if0 _ _).trans (flt ((own_cfi hn hi).1 : ¬ ((((Int32.ofNat n) ||| (0 : Int32)) ||| (Int32.ofNat i)) < (0 : Int32)))).1) ?_
    refine XS.iloadN X0.here hx rfl (hb hby d27_8) rfl ?_
    refine XS.iloadN X0.here hx rfl (hb hby d27_9) rfl ?_
    show Steps p.tables e below (s₁.setTop (mkF m 10 #[vi (0 : Int32), vi (Int32.ofNat i), vi (Int32.ofNat n), vr g3] [(.int (Int32.ofNat n)), (.int (Int32.ofNat i))])) _
    refine XS.iloadN X0.here hx rfl (hb hby d27_10) rfl ?_
    refine XS.isub X0.here hx rfl (hb hby d27_11) rfl ?_
    refine XS.icmpYes X0.here hx rfl (pc0 := 12) (pc' := 23) rfl (hb hby d27_12) rfl (flt ((own_cfi hn hi).2 : ¬ (((Int32.ofNat n) - (0 : Int32)) < (Int32.ofNat i)))).2.2.2 (by decide) (by decide) ?_
    refine XS.iloadN X0.here hx rfl (hb hby d27_23) rfl ?_
    exact Steps.refl _
  exact own_rI X0 Bd (hb hby d27_24) e0 (⟨rfl, N0, rfl⟩) rfl rfl
abbrev own_c28 : ByteArray := jdk_42_method_157_code
def own_scbo_Q (Z : State) (n i : Nat) (h0 : Heap) (n0 : Nat) (v : Option Value) (h : Heap) (L : List Loc) : Prop := v = (some (.int (0 : Int32))) ∧ Fr n0 L ∧ h = h0
theorem ef_own_scbo (m : MethodId) (x0 : Int32) (x1 : Int32) (x2 : Int32) : entryFrame m #[(.int x0), (.int x1), (.int x2)] 3 = mkF m 0 #[vi x0, vi x1, vi x2] [] := by first | (simp [entryFrame, mkF, argsToLocals, Value.category]; done) | rfl
abbrev own_y28 : MethodName := ⟨"java/lang/String", "checkBoundsOffCount", "(III)I"⟩
theorem d28_0 : decode own_c28 0 = .ok (.iload_n 0, 1) := by decide +kernel
theorem d28_1 : decode own_c28 1 = .ok (.iload_n 1, 1) := by decide +kernel
theorem d28_2 : decode own_c28 2 = .ok (.iload_n 2, 1) := by decide +kernel
theorem d28_3 : decode own_c28 3 = .ok (.getstatic 1053, 3) := by decide +kernel
theorem d28_6 : decode own_c28 6 = .ok (.invokestatic 1065, 3) := by decide +kernel
theorem pd_17 : parseMethodDescriptor "(IIILjava/util/function/BiFunction;)I" = some ⟨[.int, .int, .int, (.object "java/util/function/BiFunction")], some .int⟩ := by decide +kernel
theorem d28_9 : decode own_c28 9 = .ok (.ireturn, 1) := by decide +kernel
set_option maxRecDepth 65536 in
set_option maxHeartbeats 40000000 in
theorem own_scbo (l : Launch) (Z : State) (a0 : Array Value) (hW : own_W Z a0) (n i : Nat) (h0 : Heap) (n0 : Nat) (Z0 : n0 ≤ h0.size) (O0 : Old Z n0 h0) (hn : n ≤ 3) (hi : i ≤ n) :
    own_M l own_y28 own_c28 3 (some .int) (own_r 1 0 0 21) #[(.int (0 : Int32)), (.int (Int32.ofNat i)), (.int (Int32.ofNat n))] Z h0 (own_scbo_Q Z n i h0 n0) := by
  refine own_enter (own := "java/lang/String") rfl (plainFor_of_name pn_java_lang_String) (fun m => ef_own_scbo m (0 : Int32) (Int32.ofNat i) (Int32.ofNat n)) ?_
  intro p e s m below meth c s₁ Bd hZ hh hx hby hml hown hnm X0 e0
  obtain ⟨hw, ⟨G1, O2, P5⟩, ⟨G3, O4, rG3⟩, Oa, Oh, Ol⟩ := id hW
  have N0 := Fr.nil n0
  have K0 := Keep.refl h0 []
  refine own_gs (cur' := s₁.setTop (mkF m 3 #[vi (0 : Int32), vi (Int32.ofNat i), vi (Int32.ofNat n)] [(.int (Int32.ofNat n)), (.int (Int32.ofNat i)), (.int (0 : Int32))])) ?_ ?_
  · refine XS.iloadN X0.here hx rfl (hb hby d28_0) rfl ?_
    refine XS.iloadN X0.here hx rfl (hb hby d28_1) rfl ?_
    refine XS.iloadN X0.here hx rfl (hb hby d28_2) rfl ?_
    exact Steps.refl _
  obtain ⟨T11, X11, e11, st11⟩ := getS2 X0 hx hZ hown (host := "") (Or.inl (tw_ hw 81 rfl)) Via.refl e0 (O4.ext O0.2) (g := (mkF m 3 #[vi (0 : Int32), vi (Int32.ofNat i), vi (Int32.ofNat n)] [(.int (Int32.ofNat n)), (.int (Int32.ofNat i)), (.int (0 : Int32))])) rfl (hb hby d28_3)
  refine own_go st11 ?_
  rcases ref_cases rG3 with rfl | ⟨g3, rfl⟩
  · show own_Fin p e below (T11.setTop (mkF m 6 #[vi (0 : Int32), vi (Int32.ofNat i), vi (Int32.ofNat n)] [.null, (.int (Int32.ofNat n)), (.int (Int32.ofNat i)), (.int (0 : Int32))])) _
    obtain ⟨_, _, ⟨T12, L12, k12, n12⟩, -, X12, ⟨Lc12, hQ12, l12, y12, z12⟩, st12⟩ := Jvm.LawKit.callS X11 hx (y := own_y27) hown (mvT hZ (tw_ hw 229 rfl)) (mvT hZ (tw_ hw 230 rfl)) (mvT hZ (tw_ hw 82 rfl)) (mvT hZ (tw_ hw 231 rfl)) (by decide) (backOf (W := 0) (own_cfi0 l Z a0 hW n i h0 n0 (by omega) O0 hn hi) hZ (tw_ hw 231 rfl) (tw_ hw 82 rfl) (by decide) (by decide)) (g := (mkF m 6 #[vi (0 : Int32), vi (Int32.ofNat i), vi (Int32.ofNat n)] [.null, (.int (Int32.ofNat n)), (.int (Int32.ofNat i)), (.int (0 : Int32))])) rfl (by rw [hml]; rfl) (argsL := [(.int (0 : Int32)), (.int (Int32.ofNat i)), (.int (Int32.ofNat n)), .null]) (rest := []) (lenOf pd_17 rfl) rfl (own_le rfl) (hb hby d28_6) (fun _ _ => ⟨rfl, e11, own_le rfl, own_le rfl⟩)
    dsimp only [Pt.U, Pt.locs, Pt.cells, Pt.slots] at X12 l12 y12 z12 st12 hQ12
    subst l12 y12 z12
    obtain ⟨rfl, Nq12, eh12⟩ := hQ12
    have N12 := Fr.app N0 Nq12
    refine own_go st12 ?_
    exact own_rI X12 Bd (hb hby d28_9) eh12 (⟨rfl, N12, rfl⟩) rfl rfl
  · show own_Fin p e below (T11.setTop (mkF m 6 #[vi (0 : Int32), vi (Int32.ofNat i), vi (Int32.ofNat n)] [(.ref g3), (.int (Int32.ofNat n)), (.int (Int32.ofNat i)), (.int (0 : Int32))])) _
    obtain ⟨_, _, ⟨T13, L13, k13, n13⟩, -, X13, ⟨Lc13, hQ13, l13, y13, z13⟩, st13⟩ := Jvm.LawKit.callS X11 hx (y := own_y27) hown (mvT hZ (tw_ hw 229 rfl)) (mvT hZ (tw_ hw 230 rfl)) (mvT hZ (tw_ hw 82 rfl)) (mvT hZ (tw_ hw 231 rfl)) (by decide) (backOf (W := 0) (own_cfi1 l Z a0 hW n i g3 h0 n0 (by omega) O0 hn hi) hZ (tw_ hw 231 rfl) (tw_ hw 82 rfl) (by decide) (by decide)) (g := (mkF m 6 #[vi (0 : Int32), vi (Int32.ofNat i), vi (Int32.ofNat n)] [(.ref g3), (.int (Int32.ofNat n)), (.int (Int32.ofNat i)), (.int (0 : Int32))])) rfl (by rw [hml]; rfl) (argsL := [(.int (0 : Int32)), (.int (Int32.ofNat i)), (.int (Int32.ofNat n)), (.ref g3)]) (rest := []) (lenOf pd_17 rfl) rfl (own_le rfl) (hb hby d28_6) (fun _ _ => ⟨rfl, e11, own_le rfl, own_le rfl⟩)
    dsimp only [Pt.U, Pt.locs, Pt.cells, Pt.slots] at X13 l13 y13 z13 st13 hQ13
    subst l13 y13 z13
    obtain ⟨rfl, Nq13, eh13⟩ := hQ13
    have N13 := Fr.app N0 Nq13
    refine own_go st13 ?_
    exact own_rI X13 Bd (hb hby d28_9) eh13 (⟨rfl, N13, rfl⟩) rfl rfl
abbrev own_c29 : ByteArray := jdk_52_method_94_code
def own_cbo_Q (Z : State) (t1 : Nat) (k1 : ClassId) (n i : Nat) (vs : List Value) (h0 : Heap) (n0 : Nat) (v : Option Value) (h : Heap) (L : List Loc) : Prop := v = none ∧ Fr n0 L ∧ h = h0
theorem ef_own_cbo (m : MethodId) (x0 : Int32) (x1 : Int32) (x2 : Nat) : entryFrame m #[(.int x0), (.int x1), (.ref x2)] 3 = mkF m 0 #[vi x0, vi x1, vr x2] [] := by first | (simp [entryFrame, mkF, argsToLocals, Value.category]; done) | rfl
abbrev own_y29 : MethodName := ⟨"java/lang/StringUTF16", "checkBoundsOffCount", "(II[B)V"⟩
theorem d29_0 : decode own_c29 0 = .ok (.iload_n 0, 1) := by decide +kernel
theorem d29_1 : decode own_c29 1 = .ok (.iload_n 1, 1) := by decide +kernel
theorem d29_2 : decode own_c29 2 = .ok (.aload_n 2, 1) := by decide +kernel
theorem d29_3 : decode own_c29 3 = .ok (.invokestatic 48, 3) := by decide +kernel
theorem d29_6 : decode own_c29 6 = .ok (.invokestatic 419, 3) := by decide +kernel
theorem pd_18 : parseMethodDescriptor "(III)I" = some ⟨[.int, .int, .int], some .int⟩ := by decide +kernel
theorem d29_9 : decode own_c29 9 = .ok (.pop, 1) := by decide +kernel
theorem d29_10 : decode own_c29 10 = .ok (.return_, 1) := by decide +kernel
set_option maxRecDepth 65536 in
set_option maxHeartbeats 40000000 in
theorem own_cbo (l : Launch) (Z : State) (a0 : Array Value) (hW : own_W Z a0) (t1 : Nat) (k1 : ClassId) (n i : Nat) (vs : List Value) (h0 : Heap) (n0 : Nat) (Z0 : n0 ≤ h0.size) (O0 : Old Z n0 h0) (hn : n ≤ 3) (hi : i ≤ n) (V1 : Arv Z h0 t1 k1 .byte (Int32.ofNat (2 * n)) vs (.int (0 : Int32))) :
    own_M l own_y29 own_c29 3 none (own_r 2 0 0 41) #[(.int (0 : Int32)), (.int (Int32.ofNat i)), (.ref t1)] Z h0 (own_cbo_Q Z t1 k1 n i vs h0 n0) := by
  refine own_enter (own := "java/lang/StringUTF16") rfl (plainFor_of_name pn_java_lang_StringUTF16) (fun m => ef_own_cbo m (0 : Int32) (Int32.ofNat i) t1) ?_
  intro p e s m below meth c s₁ Bd hZ hh hx hby hml hown hnm X0 e0
  obtain ⟨hw, ⟨G1, O2, P5⟩, ⟨G3, O4, rG3⟩, Oa, Oh, Ol⟩ := id hW
  have N0 := Fr.nil n0
  have K0 := Keep.refl h0 []
  have lt1 := own_lt V1.lt
  refine own_gs (cur' := s₁.setTop (mkF m 3 #[vi (0 : Int32), vi (Int32.ofNat i), vr t1] [(.ref t1), (.int (Int32.ofNat i)), (.int (0 : Int32))])) ?_ ?_
  · refine XS.iloadN X0.here hx rfl (hb hby d29_0) rfl ?_
    refine XS.iloadN X0.here hx rfl (hb hby d29_1) rfl ?_
    refine XS.aloadN X0.here hx rfl (hb hby d29_2) rfl rfl ?_
    exact Steps.refl _
  obtain ⟨_, _, ⟨T11, L11, k11, n11⟩, -, X11, ⟨Lc11, hQ11, l11, y11, z11⟩, st11⟩ := Jvm.LawKit.callS X0 hx (y := own_y2) hown (mvT hZ (tw_ hw 207 rfl)) (mvT hZ (tw_ hw 208 rfl)) (mvT hZ (tw_ hw 170 rfl)) (mvT hZ (tw_ hw 209 rfl)) (by decide) (backOf (W := 2) (own_u_len l Z a0 hW t1 k1 n vs h0 n0 (by omega) O0 (by omega) V1) hZ (tw_ hw 209 rfl) (tw_ hw 170 rfl) (by decide) (by decide)) (g := (mkF m 3 #[vi (0 : Int32), vi (Int32.ofNat i), vr t1] [(.ref t1), (.int (Int32.ofNat i)), (.int (0 : Int32))])) rfl (by rw [hml]; rfl) (argsL := [(.ref t1)]) (rest := [(.int (Int32.ofNat i)), (.int (0 : Int32))]) (lenOf pd_2 rfl) rfl (own_le rfl) (hb hby d29_3) (fun _ _ => ⟨rfl, e0, own_le rfl, own_le rfl⟩)
  dsimp only [Pt.U, Pt.locs, Pt.cells, Pt.slots] at X11 l11 y11 z11 st11 hQ11
  subst l11 y11 z11
  obtain ⟨rfl, Nq11, eh11⟩ := hQ11
  have N11 := Fr.app N0 Nq11
  refine own_go st11 ?_
  obtain ⟨_, _, ⟨T12, L12, k12, n12⟩, -, X12, ⟨Lc12, hQ12, l12, y12, z12⟩, st12⟩ := Jvm.LawKit.callS X11 hx (y := own_y28) hown (mvT hZ (tw_ hw 226 rfl)) (mvT hZ (tw_ hw 227 rfl)) (mvT hZ (tw_ hw 9 rfl)) (mvT hZ (tw_ hw 228 rfl)) (by decide) (backOf (W := 0) (own_scbo l Z a0 hW n i h0 n0 (by omega) O0 hn hi) hZ (tw_ hw 228 rfl) (tw_ hw 9 rfl) (by decide) (by decide)) (g := (mkF m 6 #[vi (0 : Int32), vi (Int32.ofNat i), vr t1] [(.int (Int32.ofNat n)), (.int (Int32.ofNat i)), (.int (0 : Int32))])) rfl (by rw [hml]; rfl) (argsL := [(.int (0 : Int32)), (.int (Int32.ofNat i)), (.int (Int32.ofNat n))]) (rest := []) (lenOf pd_18 rfl) rfl (own_le rfl) (hb hby d29_6) (fun _ _ => ⟨rfl, eh11, own_le rfl, own_le rfl⟩)
  dsimp only [Pt.U, Pt.locs, Pt.cells, Pt.slots] at X12 l12 y12 z12 st12 hQ12
  subst l12 y12 z12
  obtain ⟨rfl, Nq12, eh12⟩ := hQ12
  have N12 := Fr.app N11 Nq12
  refine own_go st12 ?_
  refine own_gs (cur' := T12.setTop (mkF m 10 #[vi (0 : Int32), vi (Int32.ofNat i), vr t1] [])) ?_ ?_
  · refine XS.pop X12.here hx rfl (hb hby d29_9) rfl rfl ?_
    exact Steps.refl _
  exact own_rV X12 Bd (hb hby d29_10) eh12 (⟨rfl, N12, rfl⟩) rfl rfl
abbrev own_c30 : ByteArray := jdk_52_method_86_code
def own_uinf0_Q (Z : State) (t1 t2 : Nat) (k1 k2 : ClassId) (n : Nat) (vs : List Value)  (h0 : Heap) (n0 : Nat) (v : Option Value) (h : Heap) (L : List Loc) : Prop := v = none ∧ Fr n0 L ∧ Keep h0 h [t2] ∧ Arv Z h t2 k2 .byte (Int32.ofNat (2 * n)) (own_puts (List.replicate (2 * n) (.int (0 : Int32))) 0 []) (.int (0 : Int32))
theorem ef_own_uinf0 (m : MethodId) (x0 : Nat) (x1 : Int32) (x2 : Nat) (x3 : Int32) (x4 : Int32) : entryFrame m #[(.ref x0), (.int x1), (.ref x2), (.int x3), (.int x4)] 6 = mkF m 0 #[vr x0, vi x1, vr x2, vi x3, vi x4, .unset] [] := by first | (simp [entryFrame, mkF, argsToLocals, Value.category]; done) | rfl
abbrev own_y30 : MethodName := ⟨"java/lang/StringUTF16", "inflate", "([BI[BII)V"⟩
theorem d30_0 : decode own_c30 0 = .ok (.iload_n 3, 1) := by decide +kernel
theorem d30_1 : decode own_c30 1 = .ok (.iload 4, 2) := by decide +kernel
theorem d30_3 : decode own_c30 3 = .ok (.aload_n 2, 1) := by decide +kernel
theorem d30_4 : decode own_c30 4 = .ok (.invokestatic 173, 3) := by decide +kernel
theorem pd_19 : parseMethodDescriptor "(II[B)V" = some ⟨[.int, .int, (.array .byte)], none⟩ := by decide +kernel
theorem d30_7 : decode own_c30 7 = .ok (.iconst 0, 1) := by decide +kernel
theorem d30_8 : decode own_c30 8 = .ok (.istore 5, 2) := by decide +kernel
theorem d30_10 : decode own_c30 10 = .ok (.iload 5, 2) := by decide +kernel
theorem d30_12 : decode own_c30 12 = .ok (.iload 4, 2) := by decide +kernel
theorem d30_14 : decode own_c30 14 = .ok (.if_icmp .ge 27, 3) := by decide +kernel
theorem d30_41 : decode own_c30 41 = .ok (.return_, 1) := by decide +kernel
set_option maxRecDepth 65536 in
set_option maxHeartbeats 40000000 in
theorem own_uinf0 (l : Launch) (Z : State) (a0 : Array Value) (hW : own_W Z a0) (t1 t2 : Nat) (k1 k2 : ClassId) (n : Nat) (vs : List Value)  (h0 : Heap) (n0 : Nat) (Z0 : n0 ≤ h0.size) (O0 : Old Z n0 h0) (hn : n ≤ 3) (hi : 0 < n) (V1 : Arv Z h0 t1 k1 .byte (Int32.ofNat n) vs (.int (0 : Int32))) (V2 : Arv Z h0 t2 k2 .byte (Int32.ofNat (2 * n)) (List.replicate (2 * n) (.int (0 : Int32))) (.int (0 : Int32))) (g2 : n0 ≤ t2) (hne : t1 ≠ t2)  :
    own_M l own_y30 own_c30 6 none (own_r 3 0 0 61) #[(.ref t1), (.int (0 : Int32)), (.ref t2), (.int (0 : Int32)), (.int (0 : Int32))] Z h0 (own_uinf0_Q Z t1 t2 k1 k2 n vs h0 n0) := by
  refine own_enter (own := "java/lang/StringUTF16") rfl (plainFor_of_name pn_java_lang_StringUTF16) (fun m => ef_own_uinf0 m t1 (0 : Int32) t2 (0 : Int32) (0 : Int32)) ?_
  intro p e s m below meth c s₁ Bd hZ hh hx hby hml hown hnm X0 e0
  obtain ⟨hw, ⟨G1, O2, P5⟩, ⟨G3, O4, rG3⟩, Oa, Oh, Ol⟩ := id hW
  have N0 := Fr.nil n0
  have K0 := Keep.refl h0 [t2]
  have lt1 := own_lt V1.lt
  have lt2 := own_lt V2.lt
  refine own_gs (cur' := s₁.setTop (mkF m 4 #[vr t1, vi (0 : Int32), vr t2, vi (0 : Int32), vi (0 : Int32), uu] [(.ref t2), (.int (0 : Int32)), (.int (0 : Int32))])) ?_ ?_
  · refine XS.iloadN X0.here hx rfl (hb hby d30_0) rfl ?_
    refine XS.iload X0.here hx rfl (hb hby d30_1) rfl ?_
    refine XS.aloadN X0.here hx rfl (hb hby d30_3) rfl rfl ?_
    exact Steps.refl _
  obtain ⟨_, _, ⟨T11, L11, k11, n11⟩, -, X11, ⟨Lc11, hQ11, l11, y11, z11⟩, st11⟩ := Jvm.LawKit.callS X0 hx (y := own_y29) hown (mvT hZ (tw_ hw 223 rfl)) (mvT hZ (tw_ hw 224 rfl)) (mvT hZ (tw_ hw 170 rfl)) (mvT hZ (tw_ hw 225 rfl)) (by decide) (backOf (W := 0) (own_cbo l Z a0 hW t2 k2 n 0 (List.replicate (2 * n) (.int (0 : Int32))) h0 n0 (by omega) O0 hn (by omega) V2) hZ (tw_ hw 225 rfl) (tw_ hw 170 rfl) (by decide) (by decide)) (g := (mkF m 4 #[vr t1, vi (0 : Int32), vr t2, vi (0 : Int32), vi (0 : Int32), uu] [(.ref t2), (.int (0 : Int32)), (.int (0 : Int32))])) rfl (by rw [hml]; rfl) (argsL := [(.int (0 : Int32)), (.int (0 : Int32)), (.ref t2)]) (rest := []) (lenOf pd_19 rfl) rfl (own_le rfl) (hb hby d30_4) (fun _ _ => ⟨rfl, e0, own_le rfl, own_le rfl⟩)
  dsimp only [Pt.U, Pt.locs, Pt.cells, Pt.slots] at X11 l11 y11 z11 st11 hQ11
  subst l11 y11 z11
  obtain ⟨rfl, Nq11, eh11⟩ := hQ11
  have N11 := Fr.app N0 Nq11
  refine own_go st11 ?_
  refine own_gs (cur' := T11.setTop (mkF m 41 #[vr t1, vi (0 : Int32), vr t2, vi (0 : Int32), vi (0 : Int32), vi (0 : Int32)] [])) ?_ ?_
  · refine XS.iconst X11.here hx rfl (hb hby d30_7) ?_
    refine XS.istore X11.here hx rfl (hb hby d30_8) rfl (l' := #[vr t1, vi (0 : Int32), vr t2, vi (0 : Int32), vi (0 : Int32), vi (0 : Int32)]) rfl ?_
    refine XS.iload X11.here hx rfl (hb hby d30_10) rfl ?_
    refine XS.iload X11.here hx rfl (hb hby d30_12) rfl ?_
    refine XS.icmpYes X11.here hx rfl (pc0 := 14) (pc' := 41) rfl (hb hby d30_14) rfl (flt ((by decide) : ¬ ((0 : Int32) < (0 : Int32)))).2.1 (by decide) (by decide) ?_
    exact Steps.refl _
  exact own_rV X11 Bd (hb hby d30_41) eh11 (⟨rfl, N11, K0, V2⟩) rfl rfl
abbrev own_c31 : ByteArray := jdk_43_method_50_code
def own_linf0_Q (Z : State) (t1 t2 : Nat) (k1 k2 : ClassId) (n : Nat) (vs : List Value)  (h0 : Heap) (n0 : Nat) (v : Option Value) (h : Heap) (L : List Loc) : Prop := v = none ∧ Fr n0 L ∧ Keep h0 h [t2] ∧ Arv Z h t2 k2 .byte (Int32.ofNat (2 * n)) (own_puts (List.replicate (2 * n) (.int (0 : Int32))) 0 []) (.int (0 : Int32))
theorem ef_own_linf0 (m : MethodId) (x0 : Nat) (x1 : Int32) (x2 : Nat) (x3 : Int32) (x4 : Int32) : entryFrame m #[(.ref x0), (.int x1), (.ref x2), (.int x3), (.int x4)] 5 = mkF m 0 #[vr x0, vi x1, vr x2, vi x3, vi x4] [] := by first | (simp [entryFrame, mkF, argsToLocals, Value.category]; done) | rfl
abbrev own_y31 : MethodName := ⟨"java/lang/StringLatin1", "inflate", "([BI[BII)V"⟩
theorem d31_0 : decode own_c31 0 = .ok (.aload_n 0, 1) := by decide +kernel
theorem d31_1 : decode own_c31 1 = .ok (.iload_n 1, 1) := by decide +kernel
theorem d31_2 : decode own_c31 2 = .ok (.aload_n 2, 1) := by decide +kernel
theorem d31_3 : decode own_c31 3 = .ok (.iload_n 3, 1) := by decide +kernel
theorem d31_4 : decode own_c31 4 = .ok (.iload 4, 2) := by decide +kernel
theorem d31_6 : decode own_c31 6 = .ok (.invokestatic 240, 3) := by decide +kernel
theorem pd_20 : parseMethodDescriptor "([BI[BII)V" = some ⟨[(.array .byte), .int, (.array .byte), .int, .int], none⟩ := by decide +kernel
theorem d31_9 : decode own_c31 9 = .ok (.return_, 1) := by decide +kernel
set_option maxRecDepth 65536 in
set_option maxHeartbeats 40000000 in
theorem own_linf0 (l : Launch) (Z : State) (a0 : Array Value) (hW : own_W Z a0) (t1 t2 : Nat) (k1 k2 : ClassId) (n : Nat) (vs : List Value)  (h0 : Heap) (n0 : Nat) (Z0 : n0 ≤ h0.size) (O0 : Old Z n0 h0) (hn : n ≤ 3) (hi : 0 < n) (V1 : Arv Z h0 t1 k1 .byte (Int32.ofNat n) vs (.int (0 : Int32))) (V2 : Arv Z h0 t2 k2 .byte (Int32.ofNat (2 * n)) (List.replicate (2 * n) (.int (0 : Int32))) (.int (0 : Int32))) (g2 : n0 ≤ t2) (hne : t1 ≠ t2)  :
    own_M l own_y31 own_c31 5 none (own_r 4 0 0 84) #[(.ref t1), (.int (0 : Int32)), (.ref t2), (.int (0 : Int32)), (.int (0 : Int32))] Z h0 (own_linf0_Q Z t1 t2 k1 k2 n vs h0 n0) := by
  refine own_enter (own := "java/lang/StringLatin1") rfl (plainFor_of_name pn_java_lang_StringLatin1) (fun m => ef_own_linf0 m t1 (0 : Int32) t2 (0 : Int32) (0 : Int32)) ?_
  intro p e s m below meth c s₁ Bd hZ hh hx hby hml hown hnm X0 e0
  obtain ⟨hw, ⟨G1, O2, P5⟩, ⟨G3, O4, rG3⟩, Oa, Oh, Ol⟩ := id hW
  have N0 := Fr.nil n0
  have K0 := Keep.refl h0 [t2]
  have lt1 := own_lt V1.lt
  have lt2 := own_lt V2.lt
  refine own_gs (cur' := s₁.setTop (mkF m 6 #[vr t1, vi (0 : Int32), vr t2, vi (0 : Int32), vi (0 : Int32)] [(.int (0 : Int32)), (.int (0 : Int32)), (.ref t2), (.int (0 : Int32)), (.ref t1)])) ?_ ?_
  · refine XS.aloadN X0.here hx rfl (hb hby d31_0) rfl rfl ?_
    refine XS.iloadN X0.here hx rfl (hb hby d31_1) rfl ?_
    refine XS.aloadN X0.here hx rfl (hb hby d31_2) rfl rfl ?_
    refine XS.iloadN X0.here hx rfl (hb hby d31_3) rfl ?_
    refine XS.iload X0.here hx rfl (hb hby d31_4) rfl ?_
    exact Steps.refl _
  obtain ⟨_, _, ⟨T11, L11, k11, n11⟩, -, X11, ⟨Lc11, hQ11, l11, y11, z11⟩, st11⟩ := Jvm.LawKit.callS X0 hx (y := own_y30) hown (mvT hZ (tw_ hw 220 rfl)) (mvT hZ (tw_ hw 221 rfl)) (mvT hZ (tw_ hw 170 rfl)) (mvT hZ (tw_ hw 222 rfl)) (by decide) (backOf (W := 0) (own_uinf0 l Z a0 hW t1 t2 k1 k2 n vs  h0 n0 (by omega) O0 hn hi V1 V2 g2 hne ) hZ (tw_ hw 222 rfl) (tw_ hw 170 rfl) (by decide) (by decide)) (g := (mkF m 6 #[vr t1, vi (0 : Int32), vr t2, vi (0 : Int32), vi (0 : Int32)] [(.int (0 : Int32)), (.int (0 : Int32)), (.ref t2), (.int (0 : Int32)), (.ref t1)])) rfl (by rw [hml]; rfl) (argsL := [(.ref t1), (.int (0 : Int32)), (.ref t2), (.int (0 : Int32)), (.int (0 : Int32))]) (rest := []) (lenOf pd_20 rfl) rfl (own_le rfl) (hb hby d31_6) (fun _ _ => ⟨rfl, e0, own_le rfl, own_le rfl⟩)
  dsimp only [Pt.U, Pt.locs, Pt.cells, Pt.slots] at X11 l11 y11 z11 st11 hQ11
  subst l11 y11 z11
  obtain ⟨rfl, Nq11, Kq11, Vt11⟩ := hQ11
  have N11 := Fr.app N0 Nq11
  have z12 := Kq11.1
  have K12 := K0.trans Kq11 (allS (Or.inl (List.mem_of_getElem? (i := 0) rfl)) all0)
  have O12 := O0.keep Kq11 (allS (by omega) all0)
  refine own_go st11 ?_
  exact own_rV X11 Bd (hb hby d31_9) rfl (⟨rfl, N11, K12, Vt11⟩) rfl rfl
abbrev own_c32 : ByteArray := jdk_68_method_11_code
def own_inf0_Q (Z : State) (b1 t1 : Nat) (k1 : ClassId) (n : Nat) (vs : List Value)  (h0 : Heap) (n0 : Nat) (v : Option Value) (h : Heap) (L : List Loc) : Prop := ∃ (t : Nat) (k : ClassId), v = none ∧ Fr n0 L ∧ Keep h0 h [b1] ∧ Exa Z h b1 "java/lang/StringBuilder" ∧ Fld Z h b1 "java/lang/AbstractStringBuilder" "value" "[B" (.ref t) ∧ Fld Z h b1 "java/lang/AbstractStringBuilder" "coder" "B" (.int (1 : Int32)) ∧ Fld Z h b1 "java/lang/AbstractStringBuilder" "count" "I" (.int (0 : Int32)) ∧ Fld Z h b1 "java/lang/AbstractStringBuilder" "maybeLatin1" "Z" (.int (0 : Int32)) ∧ Arv Z h t k .byte (Int32.ofNat (2 * n)) (own_puts (List.replicate (2 * n) (.int (0 : Int32))) 0 []) (.int (0 : Int32)) ∧ Z.vm.findClass "[B" = some k ∧ h0.size ≤ t
theorem ef_own_inf0 (m : MethodId) (x0 : Nat) : entryFrame m #[(.ref x0)] 2 = mkF m 0 #[vr x0, .unset] [] := by first | (simp [entryFrame, mkF, argsToLocals, Value.category]; done) | rfl
abbrev own_y32 : MethodName := ⟨"java/lang/AbstractStringBuilder", "inflate", "()V"⟩
theorem d32_0 : decode own_c32 0 = .ok (.aload_n 0, 1) := by decide +kernel
theorem d32_1 : decode own_c32 1 = .ok (.invokevirtual 83, 3) := by decide +kernel
theorem d32_4 : decode own_c32 4 = .ok (.ifCond .ne 4, 3) := by decide +kernel
theorem d32_8 : decode own_c32 8 = .ok (.aload_n 0, 1) := by decide +kernel
theorem d32_9 : decode own_c32 9 = .ok (.getfield 15, 3) := by decide +kernel
theorem d32_12 : decode own_c32 12 = .ok (.arraylength, 1) := by decide +kernel
theorem d32_13 : decode own_c32 13 = .ok (.invokestatic 26, 3) := by decide +kernel
theorem d32_16 : decode own_c32 16 = .ok (.astore_n 1, 1) := by decide +kernel
theorem d32_17 : decode own_c32 17 = .ok (.aload_n 0, 1) := by decide +kernel
theorem d32_18 : decode own_c32 18 = .ok (.getfield 15, 3) := by decide +kernel
theorem d32_21 : decode own_c32 21 = .ok (.iconst 0, 1) := by decide +kernel
theorem d32_22 : decode own_c32 22 = .ok (.aload_n 1, 1) := by decide +kernel
theorem d32_23 : decode own_c32 23 = .ok (.iconst 0, 1) := by decide +kernel
theorem d32_24 : decode own_c32 24 = .ok (.aload_n 0, 1) := by decide +kernel
theorem d32_25 : decode own_c32 25 = .ok (.getfield 79, 3) := by decide +kernel
theorem d32_28 : decode own_c32 28 = .ok (.invokestatic 125, 3) := by decide +kernel
theorem d32_31 : decode own_c32 31 = .ok (.aload_n 0, 1) := by decide +kernel
theorem d32_32 : decode own_c32 32 = .ok (.aload_n 1, 1) := by decide +kernel
theorem d32_33 : decode own_c32 33 = .ok (.putfield 15, 3) := by decide +kernel
theorem d32_36 : decode own_c32 36 = .ok (.aload_n 0, 1) := by decide +kernel
theorem d32_37 : decode own_c32 37 = .ok (.iconst 1, 1) := by decide +kernel
theorem d32_38 : decode own_c32 38 = .ok (.putfield 22, 3) := by decide +kernel
theorem d32_41 : decode own_c32 41 = .ok (.return_, 1) := by decide +kernel
set_option maxRecDepth 65536 in
set_option maxHeartbeats 40000000 in
theorem own_inf0 (l : Launch) (Z : State) (a0 : Array Value) (hW : own_W Z a0) (b1 t1 : Nat) (k1 : ClassId) (n : Nat) (vs : List Value)  (h0 : Heap) (n0 : Nat) (Z0 : n0 ≤ h0.size) (O0 : Old Z n0 h0) (hn : n ≤ 3) (hi : 0 < n) (E1 : Exa Z h0 b1 "java/lang/StringBuilder") (Fv1 : Fld Z h0 b1 "java/lang/AbstractStringBuilder" "value" "[B" (.ref t1)) (Fc1 : Fld Z h0 b1 "java/lang/AbstractStringBuilder" "coder" "B" (.int (0 : Int32))) (Fn1 : Fld Z h0 b1 "java/lang/AbstractStringBuilder" "count" "I" (.int (0 : Int32))) (Fm1 : Fld Z h0 b1 "java/lang/AbstractStringBuilder" "maybeLatin1" "Z" (.int (0 : Int32))) (V1 : Arv Z h0 t1 k1 .byte (Int32.ofNat n) vs (.int (0 : Int32))) (g1 : n0 ≤ b1) (hbt : b1 ≠ t1)  :
    own_M l own_y32 own_c32 2 none (own_r 5 1 6 106) #[(.ref b1)] Z h0 (own_inf0_Q Z b1 t1 k1 n vs h0 n0) := by
  refine own_enter (own := "java/lang/AbstractStringBuilder") rfl (plainFor_of_name pn_java_lang_AbstractStringBuilder) (fun m => ef_own_inf0 m b1) ?_
  intro p e s m below meth c s₁ Bd hZ hh hx hby hml hown hnm X0 e0
  obtain ⟨hw, ⟨G1, O2, P5⟩, ⟨G3, O4, rG3⟩, Oa, Oh, Ol⟩ := id hW
  have N0 := Fr.nil n0
  have K0 := Keep.refl h0 [b1]
  have lt1 := own_lt E1.lt
  have lt2 := own_lt V1.lt
  refine own_gs (cur' := s₁.setTop (mkF m 1 #[vr b1, uu] [(.ref b1)])) ?_ ?_
  · refine XS.aloadN X0.here hx rfl (hb hby d32_0) rfl rfl ?_
    exact Steps.refl _
  obtain ⟨cq11, kq11, q11a, q11b, q11c⟩ := isOf hZ e0 E1
  obtain ⟨_, _, ⟨T11, L11, k11, n11⟩, -, X11, ⟨Lc11, hQ11, l11, y11, z11⟩, st11⟩ := X0.virtualBack hx (y := own_y24) (z := own_y24) hown (mvT hZ (tw_ hw 110 rfl)) (mvT hZ (tw_ hw 111 rfl)) (notFace_of_selects (args := #[]) (mvT hZ (tw_ hw 113 rfl))) (mvT hZ (tw_ hw 113 rfl)) (mvT hZ (tw_ hw 112 rfl)) (by decide) (backOf (W := 0) (own_ais0 l Z a0 hW b1 h0 n0 (by omega) O0 Fc1) hZ (tw_ hw 114 rfl) (tw_ hw 57 rfl) (by decide) (by decide)) q11a q11c (g := (mkF m 1 #[vr b1, uu] [(.ref b1)])) rfl (by rw [hml]; rfl) (Steps.refl _) (argsL := []) (rest := []) (lenOf pd_6 rfl) rfl (own_le rfl) (hb hby d32_1) (fun _ _ => ⟨rfl, e0, own_le rfl, own_le rfl⟩)
  dsimp only [Pt.U, Pt.locs, Pt.cells, Pt.slots] at X11 l11 y11 z11 st11 hQ11
  subst l11 y11 z11
  obtain ⟨rfl, Nq11, eh11⟩ := hQ11
  have N11 := Fr.app N0 Nq11
  refine own_gs st11 ?_
  refine own_gs (cur' := T11.setTop (mkF m 9 #[vr b1, uu] [(.ref b1)])) ?_ ?_
  · refine XS.ifYes X11.here hx rfl (pc0 := 4) (pc' := 8) rfl (hb hby d32_4) rfl ((if0 _ _).trans (feq ((by decide) : ¬ ((1 : Int32) = (0 : Int32)))).2) (by decide) (by decide) ?_
    refine XS.aloadN X11.here hx rfl (hb hby d32_8) rfl rfl ?_
    exact Steps.refl _
  obtain ⟨T12, X12, e12, st12⟩ := getF X11 hx hZ hown (host := "") (Or.inl (tw_ hw 61 rfl)) Via.refl eh11 Fv1 (g := (mkF m 9 #[vr b1, uu] [(.ref b1)])) rfl rfl (hb hby d32_9)
  refine own_go st12 ?_
  obtain ⟨cl13, Ar13, q13, S13, M13, Hs13, G13⟩ := id V1
  refine own_go (X12.arraylength hx (by rw [e12]; exact Ar13.1) (State.isArrayOf_alike hZ.alike Ar13.2.1) (g := (mkF m 12 #[vr b1, uu] [(.ref t1)])) rfl rfl (hb hby d32_12)) ?_
  rw [len_of S13 M13]
  show own_Fin p e below (T12.setTop (mkF m 13 #[vr b1, uu] [(.int (Int32.ofNat n))])) _
  obtain ⟨_, _, ⟨T14, L14, k14, n14⟩, -, X14, ⟨Lc14, hQ14, l14, y14, z14⟩, st14⟩ := Jvm.LawKit.callS X12 hx (y := own_y12) hown (mvT hZ (tw_ hw 216 rfl)) (mvT hZ (tw_ hw 186 rfl)) (mvT hZ (tw_ hw 170 rfl)) (mvT hZ (tw_ hw 187 rfl)) (by decide) (backOf (W := 0) (own_nbfg l Z a0 hW n h0 n0 (by omega) O0 hn) hZ (tw_ hw 187 rfl) (tw_ hw 170 rfl) (by decide) (by decide)) (g := (mkF m 13 #[vr b1, uu] [(.int (Int32.ofNat n))])) rfl (by rw [hml]; rfl) (argsL := [(.int (Int32.ofNat n))]) (rest := []) (lenOf pd_8 rfl) rfl (own_le rfl) (hb hby d32_13) (fun _ _ => ⟨rfl, e12, own_le rfl, own_le rfl⟩)
  dsimp only [Pt.U, Pt.locs, Pt.cells, Pt.slots] at X14 l14 y14 z14 st14 hQ14
  subst l14 y14 z14
  obtain ⟨t14, kb14, rfl, Nq14, Kq14, Vt14, fc14, ge14⟩ := hQ14
  have N14 := Fr.app N11 Nq14
  have z15 := Kq14.1
  have K15 := K0.trans Kq14 all0
  have O15 := O0.keep Kq14 all0
  have lt14 := own_lt Vt14.lt
  refine own_go st14 ?_
  refine own_gs (cur' := T14.setTop (mkF m 18 #[vr b1, vr t14] [(.ref b1)])) ?_ ?_
  · refine XS.astoreN X14.here hx rfl (hb hby d32_16) rfl rfl (l' := #[vr b1, vr t14]) rfl ?_
    refine XS.aloadN X14.here hx rfl (hb hby d32_17) rfl rfl ?_
    exact Steps.refl _
  have f17 := (Fv1.keep Kq14 nin0)
  obtain ⟨T16, X16, e16, st16⟩ := getF X14 hx hZ hown (host := "") (Or.inl (tw_ hw 61 rfl)) Via.refl rfl f17 (g := (mkF m 18 #[vr b1, vr t14] [(.ref b1)])) rfl rfl (hb hby d32_18)
  refine own_go st16 ?_
  refine own_gs (cur' := T16.setTop (mkF m 25 #[vr b1, vr t14] [(.ref b1), (.int (0 : Int32)), (.ref t14), (.int (0 : Int32)), (.ref t1)])) ?_ ?_
  · refine XS.iconst X16.here hx rfl (hb hby d32_21) ?_
    refine XS.aloadN X16.here hx rfl (hb hby d32_22) rfl rfl ?_
    refine XS.iconst X16.here hx rfl (hb hby d32_23) ?_
    refine XS.aloadN X16.here hx rfl (hb hby d32_24) rfl rfl ?_
    exact Steps.refl _
  have f19 := (Fn1.keep Kq14 nin0)
  obtain ⟨T18, X18, e18, st18⟩ := getF X16 hx hZ hown (host := "") (Or.inl (tw_ hw 103 rfl)) Via.refl e16 f19 (g := (mkF m 25 #[vr b1, vr t14] [(.ref b1), (.int (0 : Int32)), (.ref t14), (.int (0 : Int32)), (.ref t1)])) rfl rfl (hb hby d32_25)
  refine own_go st18 ?_
  have f20 := (V1.keep Kq14 nin0)
  obtain ⟨_, _, ⟨T21, L21, k21, n21⟩, -, X21, ⟨Lc21, hQ21, l21, y21, z21⟩, st21⟩ := Jvm.LawKit.callS X18 hx (y := own_y31) hown (mvT hZ (tw_ hw 217 rfl)) (mvT hZ (tw_ hw 218 rfl)) (mvT hZ (tw_ hw 14 rfl)) (mvT hZ (tw_ hw 219 rfl)) (by decide) (backOf (W := 0) (own_linf0 l Z a0 hW t1 t14 k1 kb14 n vs  T14.heap n0 (by omega) O15 hn hi f20 Vt14 (by omega) (by omega) ) hZ (tw_ hw 219 rfl) (tw_ hw 14 rfl) (by decide) (by decide)) (g := (mkF m 28 #[vr b1, vr t14] [(.int (0 : Int32)), (.int (0 : Int32)), (.ref t14), (.int (0 : Int32)), (.ref t1)])) rfl (by rw [hml]; rfl) (argsL := [(.ref t1), (.int (0 : Int32)), (.ref t14), (.int (0 : Int32)), (.int (0 : Int32))]) (rest := []) (lenOf pd_20 rfl) rfl (own_le rfl) (hb hby d32_28) (fun _ _ => ⟨rfl, e18, own_le rfl, own_le rfl⟩)
  dsimp only [Pt.U, Pt.locs, Pt.cells, Pt.slots] at X21 l21 y21 z21 st21 hQ21
  subst l21 y21 z21
  obtain ⟨rfl, Nq21, Kq21, Vt21⟩ := hQ21
  have N21 := Fr.app N14 Nq21
  have z22 := Kq21.1
  have K22 := K15.trans Kq21 (allS (Or.inr (by omega)) all0)
  have O22 := O15.keep Kq21 (allS (by omega) all0)
  refine own_go st21 ?_
  refine own_gs (cur' := T21.setTop (mkF m 33 #[vr b1, vr t14] [(.ref t14), (.ref b1)])) ?_ ?_
  · refine XS.aloadN X21.here hx rfl (hb hby d32_31) rfl rfl ?_
    refine XS.aloadN X21.here hx rfl (hb hby d32_32) rfl rfl ?_
    exact Steps.refl _
  have f24 := (f17.keep Kq21 (ninS (own_ne (a := b1) (b := t14) (by omega)) nin0))
  have f25 := ((E1.keep Kq14).keep Kq21)
  obtain ⟨T23, h23, X23, e23, W23, st23⟩ := putF X21 hx hZ hown (host := "") (Or.inl (tw_ hw 61 rfl)) Via.refl rfl f24 f25 (Or.inl (tw_ hw 62 rfl)) (tw_ hw 38 rfl) (ty := (.array .byte)) (by decide) rfl rfl (g := (mkF m 33 #[vr b1, vr t14] [(.ref t14), (.ref b1)])) rfl rfl (hb hby d32_33)
  have F23 := f24.same W23
  refine own_go st23 ?_
  have z26 := W23.size
  have K26 := K22.wr W23 (Or.inl (List.mem_of_getElem? (i := 0) rfl))
  have O26 := O22.wr W23 (by omega)
  have N26 := Fr.snoc X23 N21 (by omega)
  refine own_gs (cur' := T23.setTop (mkF m 38 #[vr b1, vr t14] [(.int (1 : Int32)), (.ref b1)])) ?_ ?_
  · refine XS.aloadN X23.here hx rfl (hb hby d32_36) rfl rfl ?_
    refine XS.iconst X23.here hx rfl (hb hby d32_37) ?_
    exact Steps.refl _
  have f28 := (((Fc1.keep Kq14 nin0).keep Kq21 (ninS (own_ne (a := b1) (b := t14) (by omega)) nin0)).other W23 (Or.inr (slot_ne (Or.inl (tw_ hw 64 rfl)) (Or.inl (tw_ hw 62 rfl)) (by decide) (t := .byte) (t' := (.array .byte)) (by decide) (by decide))))
  have f29 := (f25.wr W23)
  obtain ⟨T27, h27, X27, e27, W27, st27⟩ := putF X23 hx hZ hown (host := "") (Or.inl (tw_ hw 63 rfl)) Via.refl e23 f28 f29 (Or.inl (tw_ hw 64 rfl)) (tw_ hw 38 rfl) (ty := .byte) (by decide) rfl rfl (g := (mkF m 38 #[vr b1, vr t14] [(.int (1 : Int32)), (.ref b1)])) rfl rfl (hb hby d32_38)
  have F27 := f28.same W27
  refine own_go st27 ?_
  have z30 := W27.size
  have K30 := K26.wr W27 (Or.inl (List.mem_of_getElem? (i := 0) rfl))
  have O30 := O26.wr W27 (by omega)
  have N30 := Fr.snoc X27 N26 (by omega)
  have f31 := (f29.wr W27)
  have f32 := (F23.other W27 (Or.inr (slot_ne (Or.inl (tw_ hw 62 rfl)) (Or.inl (tw_ hw 64 rfl)) (by decide) (t := (.array .byte)) (t' := .byte) (by decide) (by decide))))
  have f33 := (((f19.keep Kq21 (ninS (own_ne (a := b1) (b := t14) (by omega)) nin0)).other W23 (Or.inr (slot_ne (Or.inl (tw_ hw 104 rfl)) (Or.inl (tw_ hw 62 rfl)) (by decide) (t := .int) (t' := (.array .byte)) (by decide) (by decide)))).other W27 (Or.inr (slot_ne (Or.inl (tw_ hw 104 rfl)) (Or.inl (tw_ hw 64 rfl)) (by decide) (t := .int) (t' := .byte) (by decide) (by decide))))
  have f34 := ((((Fm1.keep Kq14 nin0).keep Kq21 (ninS (own_ne (a := b1) (b := t14) (by omega)) nin0)).other W23 (Or.inr (slot_ne (Or.inl (tw_ hw 236 rfl)) (Or.inl (tw_ hw 62 rfl)) (by decide) (t := .boolean) (t' := (.array .byte)) (by decide) (by decide)))).other W27 (Or.inr (slot_ne (Or.inl (tw_ hw 236 rfl)) (Or.inl (tw_ hw 64 rfl)) (by decide) (t := .boolean) (t' := .byte) (by decide) (by decide))))
  have f35 := ((Vt21.other W23 (own_ne (a := t14) (b := b1) (by omega))).other W27 (own_ne (a := t14) (b := b1) (by omega)))
  exact own_rV X27 Bd (hb hby d32_41) e27 (⟨_, _, rfl, N30, K30, f31, f32, F27, f33, f34, f35, fc14, (by omega)⟩) rfl rfl
abbrev own_c33 : ByteArray := jdk_68_method_31_code
def own_aapi0_Q (Z : State) (b1 t1 : Nat) (k1 : ClassId) (n : Nat) (vs : List Value)  (c0 : Int32) (h0 : Heap) (n0 : Nat) (v : Option Value) (h : Heap) (L : List Loc) : Prop := ∃ (t : Nat) (k : ClassId), v = some (.ref b1) ∧ Fr n0 L ∧ Keep h0 h [b1] ∧ Exa Z h b1 "java/lang/StringBuilder" ∧ Fld Z h b1 "java/lang/AbstractStringBuilder" "value" "[B" (.ref t) ∧ Fld Z h b1 "java/lang/AbstractStringBuilder" "coder" "B" (.int (1 : Int32)) ∧ Fld Z h b1 "java/lang/AbstractStringBuilder" "count" "I" (.int (1 : Int32)) ∧ Fld Z h b1 "java/lang/AbstractStringBuilder" "maybeLatin1" "Z" (.int (0 : Int32)) ∧ Arv Z h t k .byte (Int32.ofNat (2 * n)) (own_puts (List.replicate (2 * n) (.int (0 : Int32))) 0 [c0]) (.int (0 : Int32)) ∧ Z.vm.findClass "[B" = some k ∧ h0.size ≤ t
theorem ef_own_aapi0 (m : MethodId) (x0 : Nat) (x1 : Int32) : entryFrame m #[(.ref x0), (.int x1)] 2 = mkF m 0 #[vr x0, vi x1] [] := by first | (simp [entryFrame, mkF, argsToLocals, Value.category]; done) | rfl
abbrev own_y33 : MethodName := ⟨"java/lang/AbstractStringBuilder", "append", "(C)Ljava/lang/AbstractStringBuilder;"⟩
theorem d33_0 : decode own_c33 0 = .ok (.aload_n 0, 1) := by decide +kernel
theorem d33_1 : decode own_c33 1 = .ok (.aload_n 0, 1) := by decide +kernel
theorem d33_2 : decode own_c33 2 = .ok (.getfield 79, 3) := by decide +kernel
theorem d33_5 : decode own_c33 5 = .ok (.iconst 1, 1) := by decide +kernel
theorem d33_6 : decode own_c33 6 = .ok (.iadd, 1) := by decide +kernel
theorem d33_7 : decode own_c33 7 = .ok (.invokevirtual 100, 3) := by decide +kernel
theorem d33_10 : decode own_c33 10 = .ok (.aload_n 0, 1) := by decide +kernel
theorem d33_11 : decode own_c33 11 = .ok (.invokevirtual 83, 3) := by decide +kernel
theorem d33_14 : decode own_c33 14 = .ok (.ifCond .eq 31, 3) := by decide +kernel
theorem d33_17 : decode own_c33 17 = .ok (.iload_n 1, 1) := by decide +kernel
theorem d33_18 : decode own_c33 18 = .ok (.invokestatic 191, 3) := by decide +kernel
theorem d33_21 : decode own_c33 21 = .ok (.ifCond .eq 24, 3) := by decide +kernel
theorem d33_45 : decode own_c33 45 = .ok (.aload_n 0, 1) := by decide +kernel
theorem d33_46 : decode own_c33 46 = .ok (.invokevirtual 83, 3) := by decide +kernel
theorem d33_49 : decode own_c33 49 = .ok (.ifCond .eq 7, 3) := by decide +kernel
theorem d33_52 : decode own_c33 52 = .ok (.aload_n 0, 1) := by decide +kernel
theorem d33_53 : decode own_c33 53 = .ok (.invokevirtual 195, 3) := by decide +kernel
theorem pd_21 : parseMethodDescriptor "()V" = some ⟨[], none⟩ := by decide +kernel
theorem d33_56 : decode own_c33 56 = .ok (.aload_n 0, 1) := by decide +kernel
theorem d33_57 : decode own_c33 57 = .ok (.getfield 15, 3) := by decide +kernel
theorem d33_60 : decode own_c33 60 = .ok (.aload_n 0, 1) := by decide +kernel
theorem d33_61 : decode own_c33 61 = .ok (.dup, 1) := by decide +kernel
theorem d33_62 : decode own_c33 62 = .ok (.getfield 79, 3) := by decide +kernel
theorem d33_65 : decode own_c33 65 = .ok (.dup_x1, 1) := by decide +kernel
theorem d33_66 : decode own_c33 66 = .ok (.iconst 1, 1) := by decide +kernel
theorem d33_67 : decode own_c33 67 = .ok (.iadd, 1) := by decide +kernel
theorem d33_68 : decode own_c33 68 = .ok (.putfield 79, 3) := by decide +kernel
theorem d33_71 : decode own_c33 71 = .ok (.iload_n 1, 1) := by decide +kernel
theorem d33_72 : decode own_c33 72 = .ok (.invokestatic 197, 3) := by decide +kernel
theorem d33_75 : decode own_c33 75 = .ok (.aload_n 0, 1) := by decide +kernel
theorem d33_76 : decode own_c33 76 = .ok (.areturn, 1) := by decide +kernel
set_option maxRecDepth 65536 in
set_option maxHeartbeats 40000000 in
theorem own_aapi0 (l : Launch) (Z : State) (a0 : Array Value) (hW : own_W Z a0) (b1 t1 : Nat) (k1 : ClassId) (n : Nat) (vs : List Value)  (c0 : Int32) (h0 : Heap) (n0 : Nat) (Z0 : n0 ≤ h0.size) (O0 : Old Z n0 h0) (hn : n ≤ 3) (hi : 0 < n) (E1 : Exa Z h0 b1 "java/lang/StringBuilder") (Fv1 : Fld Z h0 b1 "java/lang/AbstractStringBuilder" "value" "[B" (.ref t1)) (Fc1 : Fld Z h0 b1 "java/lang/AbstractStringBuilder" "coder" "B" (.int (0 : Int32))) (Fn1 : Fld Z h0 b1 "java/lang/AbstractStringBuilder" "count" "I" (.int (0 : Int32))) (Fm1 : Fld Z h0 b1 "java/lang/AbstractStringBuilder" "maybeLatin1" "Z" (.int (0 : Int32))) (V1 : Arv Z h0 t1 k1 .byte (Int32.ofNat n) vs (.int (0 : Int32))) (g1 : n0 ≤ b1) (hbt : b1 ≠ t1)  (hce : (255 : Int32) < c0) :
    own_M l own_y33 own_c33 2 (some (.object "java/lang/AbstractStringBuilder")) (own_r 6 1 6 125) #[(.ref b1), (.int c0)] Z h0 (own_aapi0_Q Z b1 t1 k1 n vs c0 h0 n0) := by
  refine own_enter (own := "java/lang/AbstractStringBuilder") rfl (plainFor_of_name pn_java_lang_AbstractStringBuilder) (fun m => ef_own_aapi0 m b1 c0) ?_
  intro p e s m below meth c s₁ Bd hZ hh hx hby hml hown hnm X0 e0
  obtain ⟨hw, ⟨G1, O2, P5⟩, ⟨G3, O4, rG3⟩, Oa, Oh, Ol⟩ := id hW
  have N0 := Fr.nil n0
  have K0 := Keep.refl h0 [b1]
  have lt1 := own_lt E1.lt
  have lt2 := own_lt V1.lt
  refine own_gs (cur' := s₁.setTop (mkF m 2 #[vr b1, vi c0] [(.ref b1), (.ref b1)])) ?_ ?_
  · refine XS.aloadN X0.here hx rfl (hb hby d33_0) rfl rfl ?_
    refine XS.aloadN X0.here hx rfl (hb hby d33_1) rfl rfl ?_
    exact Steps.refl _
  obtain ⟨T11, X11, e11, st11⟩ := getF X0 hx hZ hown (host := "") (Or.inl (tw_ hw 103 rfl)) Via.refl e0 Fn1 (g := (mkF m 2 #[vr b1, vi c0] [(.ref b1), (.ref b1)])) rfl rfl (hb hby d33_2)
  refine own_go st11 ?_
  refine own_gs (cur' := T11.setTop (mkF m 7 #[vr b1, vi c0] [(.int (1 : Int32)), (.ref b1)])) ?_ ?_
  · refine XS.iconst X11.here hx rfl (hb hby d33_5) ?_
    refine XS.iadd X11.here hx rfl (hb hby d33_6) rfl ?_
    exact Steps.refl _
  obtain ⟨cq12, q12, q12'⟩ := own_cell E1
  obtain ⟨_, _, ⟨T12, L12, k12, n12⟩, -, X12, ⟨Lc12, hQ12, l12, y12, z12⟩, st12⟩ := X11.privateBack hx (y := own_y25) hown (mvT hZ (tw_ hw 105 rfl)) (mvT hZ (tw_ hw 106 rfl)) (mvT hZ (own_selP (own_nf (notFace_of_selects (tw_ hw 108 rfl)) (tw_ hw 106 rfl) rfl) (tw_ hw 106 rfl) (tw_ hw 107 rfl) (by decide))) (Cond.privateMethod_at (mvP hZ (tw_ hw 107 rfl) (args := #[]))) (mvT hZ (tw_ hw 109 rfl)) (by decide) (backOf (W := 0) (own_eci0 l Z a0 hW b1 t1 k1 n 0 vs h0 n0 (by omega) O0 hn hi E1 Fv1 Fc1 Fn1 Fm1 V1) hZ (tw_ hw 109 rfl) (tw_ hw 57 rfl) (by decide) (by decide)) (g := (mkF m 7 #[vr b1, vi c0] [(.int (1 : Int32)), (.ref b1)])) rfl (by rw [hml]; rfl) (Steps.refl _) (a := b1) (by rw [e11]; exact q12) q12' (argsL := [(.int (1 : Int32))]) (rest := []) (lenOf pd_16 rfl) rfl (own_le rfl) (hb hby d33_7) (fun _ _ => ⟨rfl, e11, own_le rfl, own_le rfl⟩)
  dsimp only [Pt.U, Pt.locs, Pt.cells, Pt.slots] at X12 l12 y12 z12 st12 hQ12
  subst l12 y12 z12
  obtain ⟨rfl, Nq12, eh12⟩ := hQ12
  have N12 := Fr.app N0 Nq12
  refine own_gs st12 ?_
  refine own_gs (cur' := T12.setTop (mkF m 11 #[vr b1, vi c0] [(.ref b1)])) ?_ ?_
  · refine XS.aloadN X12.here hx rfl (hb hby d33_10) rfl rfl ?_
    exact Steps.refl _
  obtain ⟨cq13, kq13, q13a, q13b, q13c⟩ := isOf hZ eh12 E1
  obtain ⟨_, _, ⟨T13, L13, k13, n13⟩, -, X13, ⟨Lc13, hQ13, l13, y13, z13⟩, st13⟩ := X12.virtualBack hx (y := own_y24) (z := own_y24) hown (mvT hZ (tw_ hw 110 rfl)) (mvT hZ (tw_ hw 111 rfl)) (notFace_of_selects (args := #[]) (mvT hZ (tw_ hw 113 rfl))) (mvT hZ (tw_ hw 113 rfl)) (mvT hZ (tw_ hw 112 rfl)) (by decide) (backOf (W := 0) (own_ais0 l Z a0 hW b1 h0 n0 (by omega) O0 Fc1) hZ (tw_ hw 114 rfl) (tw_ hw 57 rfl) (by decide) (by decide)) q13a q13c (g := (mkF m 11 #[vr b1, vi c0] [(.ref b1)])) rfl (by rw [hml]; rfl) (Steps.refl _) (argsL := []) (rest := []) (lenOf pd_6 rfl) rfl (own_le rfl) (hb hby d33_11) (fun _ _ => ⟨rfl, eh12, own_le rfl, own_le rfl⟩)
  dsimp only [Pt.U, Pt.locs, Pt.cells, Pt.slots] at X13 l13 y13 z13 st13 hQ13
  subst l13 y13 z13
  obtain ⟨rfl, Nq13, eh13⟩ := hQ13
  have N13 := Fr.app N12 Nq13
  refine own_gs st13 ?_
  refine own_gs (cur' := T13.setTop (mkF m 18 #[vr b1, vi c0] [(.int c0)])) ?_ ?_
  · refine XS.ifNo X13.here hx rfl (hb hby d33_14) rfl ((if0 _ _).trans (feq ((by decide) : ¬ ((1 : Int32) = (0 : Int32)))).1) ?_
    refine XS.iloadN X13.here hx rfl (hb hby d33_17) rfl ?_
    exact Steps.refl _
  obtain ⟨_, _, ⟨T14, L14, k14, n14⟩, -, X14, ⟨Lc14, hQ14, l14, y14, z14⟩, st14⟩ := Jvm.LawKit.callS X13 hx (y := own_y17) hown (mvT hZ (tw_ hw 115 rfl)) (mvT hZ (tw_ hw 13 rfl)) (mvT hZ (tw_ hw 14 rfl)) (mvT hZ (tw_ hw 15 rfl)) (by decide) (backOf (W := 0) (own_ce0 l Z a0 hW c0 h0 n0 (by omega) O0 hce) hZ (tw_ hw 15 rfl) (tw_ hw 14 rfl) (by decide) (by decide)) (g := (mkF m 18 #[vr b1, vi c0] [(.int c0)])) rfl (by rw [hml]; rfl) (argsL := [(.int c0)]) (rest := []) (lenOf pd_13 rfl) rfl (own_le rfl) (hb hby d33_18) (fun _ _ => ⟨rfl, eh13, own_le rfl, own_le rfl⟩)
  dsimp only [Pt.U, Pt.locs, Pt.cells, Pt.slots] at X14 l14 y14 z14 st14 hQ14
  subst l14 y14 z14
  obtain ⟨rfl, Nq14, eh14⟩ := hQ14
  have N14 := Fr.app N13 Nq14
  refine own_go st14 ?_
  refine own_gs (cur' := T14.setTop (mkF m 46 #[vr b1, vi c0] [(.ref b1)])) ?_ ?_
  · refine XS.ifYes X14.here hx rfl (pc0 := 21) (pc' := 45) rfl (hb hby d33_21) rfl ((if0 _ _).trans (teq ((by decide) : (0 : Int32) = (0 : Int32))).1) (by decide) (by decide) ?_
    refine XS.aloadN X14.here hx rfl (hb hby d33_45) rfl rfl ?_
    exact Steps.refl _
  obtain ⟨cq15, kq15, q15a, q15b, q15c⟩ := isOf hZ eh14 E1
  obtain ⟨_, _, ⟨T15, L15, k15, n15⟩, -, X15, ⟨Lc15, hQ15, l15, y15, z15⟩, st15⟩ := X14.virtualBack hx (y := own_y24) (z := own_y24) hown (mvT hZ (tw_ hw 110 rfl)) (mvT hZ (tw_ hw 111 rfl)) (notFace_of_selects (args := #[]) (mvT hZ (tw_ hw 113 rfl))) (mvT hZ (tw_ hw 113 rfl)) (mvT hZ (tw_ hw 112 rfl)) (by decide) (backOf (W := 0) (own_ais0 l Z a0 hW b1 h0 n0 (by omega) O0 Fc1) hZ (tw_ hw 114 rfl) (tw_ hw 57 rfl) (by decide) (by decide)) q15a q15c (g := (mkF m 46 #[vr b1, vi c0] [(.ref b1)])) rfl (by rw [hml]; rfl) (Steps.refl _) (argsL := []) (rest := []) (lenOf pd_6 rfl) rfl (own_le rfl) (hb hby d33_46) (fun _ _ => ⟨rfl, eh14, own_le rfl, own_le rfl⟩)
  dsimp only [Pt.U, Pt.locs, Pt.cells, Pt.slots] at X15 l15 y15 z15 st15 hQ15
  subst l15 y15 z15
  obtain ⟨rfl, Nq15, eh15⟩ := hQ15
  have N15 := Fr.app N14 Nq15
  refine own_gs st15 ?_
  refine own_gs (cur' := T15.setTop (mkF m 53 #[vr b1, vi c0] [(.ref b1)])) ?_ ?_
  · refine XS.ifNo X15.here hx rfl (hb hby d33_49) rfl ((if0 _ _).trans (feq ((by decide) : ¬ ((1 : Int32) = (0 : Int32)))).1) ?_
    refine XS.aloadN X15.here hx rfl (hb hby d33_52) rfl rfl ?_
    exact Steps.refl _
  obtain ⟨cq16, q16, q16'⟩ := own_cell E1
  obtain ⟨_, _, ⟨T16, L16, k16, n16⟩, -, X16, ⟨Lc16, hQ16, l16, y16, z16⟩, st16⟩ := X15.privateBack hx (y := own_y32) hown (mvT hZ (tw_ hw 211 rfl)) (mvT hZ (tw_ hw 212 rfl)) (mvT hZ (own_selP (own_nf (notFace_of_selects (tw_ hw 108 rfl)) (tw_ hw 106 rfl) rfl) (tw_ hw 212 rfl) (tw_ hw 213 rfl) (by decide))) (Cond.privateMethod_at (mvP hZ (tw_ hw 213 rfl) (args := #[]))) (mvT hZ (tw_ hw 215 rfl)) (by decide) (backOf (W := 0) (own_inf0 l Z a0 hW b1 t1 k1 n vs  h0 n0 (by omega) O0 hn hi E1 Fv1 Fc1 Fn1 Fm1 V1 g1 hbt ) hZ (tw_ hw 215 rfl) (tw_ hw 57 rfl) (by decide) (by decide)) (g := (mkF m 53 #[vr b1, vi c0] [(.ref b1)])) rfl (by rw [hml]; rfl) (Steps.refl _) (a := b1) (by rw [eh15]; exact q16) q16' (argsL := []) (rest := []) (lenOf pd_21 rfl) rfl (own_le rfl) (hb hby d33_53) (fun _ _ => ⟨rfl, eh15, own_le rfl, own_le rfl⟩)
  dsimp only [Pt.U, Pt.locs, Pt.cells, Pt.slots] at X16 l16 y16 z16 st16 hQ16
  subst l16 y16 z16
  obtain ⟨t16, kb16, rfl, Nq16, Kq16, a16, b16, c16, d16, f16m, V16, fc16, ge16⟩ := hQ16
  have N16 := Fr.app N15 Nq16
  have z17 := Kq16.1
  have K17 := K0.trans Kq16 (allS (Or.inl (List.mem_of_getElem? (i := 0) rfl)) all0)
  have O17 := O0.keep Kq16 (allS (by omega) all0)
  have lt16 := own_lt V16.lt
  have ltb16 := own_lt a16.lt
  refine own_gs st16 ?_
  refine own_gs (cur' := T16.setTop (mkF m 57 #[vr b1, vi c0] [(.ref b1)])) ?_ ?_
  · refine XS.aloadN X16.here hx rfl (hb hby d33_56) rfl rfl ?_
    exact Steps.refl _
  obtain ⟨T18, X18, e18, st18⟩ := getF X16 hx hZ hown (host := "") (Or.inl (tw_ hw 61 rfl)) Via.refl rfl b16 (g := (mkF m 57 #[vr b1, vi c0] [(.ref b1)])) rfl rfl (hb hby d33_57)
  refine own_go st18 ?_
  refine own_gs (cur' := T18.setTop (mkF m 62 #[vr b1, vi c0] [(.ref b1), (.ref b1), (.ref t16)])) ?_ ?_
  · refine XS.aloadN X18.here hx rfl (hb hby d33_60) rfl rfl ?_
    refine XS.dup X18.here hx rfl (hb hby d33_61) rfl rfl ?_
    exact Steps.refl _
  obtain ⟨T19, X19, e19, st19⟩ := getF X18 hx hZ hown (host := "") (Or.inl (tw_ hw 103 rfl)) Via.refl e18 d16 (g := (mkF m 62 #[vr b1, vi c0] [(.ref b1), (.ref b1), (.ref t16)])) rfl rfl (hb hby d33_62)
  refine own_go st19 ?_
  refine own_gs (cur' := T19.setTop (mkF m 68 #[vr b1, vi c0] [(.int (1 : Int32)), (.ref b1), (.int (0 : Int32)), (.ref t16)])) ?_ ?_
  · refine XS.dupX1 X19.here hx rfl (hb hby d33_65) rfl rfl rfl ?_
    refine XS.iconst X19.here hx rfl (hb hby d33_66) ?_
    refine XS.iadd X19.here hx rfl (hb hby d33_67) rfl ?_
    exact Steps.refl _
  obtain ⟨T20, h20, X20, e20, W20, st20⟩ := putF X19 hx hZ hown (host := "") (Or.inl (tw_ hw 103 rfl)) Via.refl e19 d16 a16 (Or.inl (tw_ hw 104 rfl)) (tw_ hw 38 rfl) (ty := .int) (by decide) rfl rfl (g := (mkF m 68 #[vr b1, vi c0] [(.int (1 : Int32)), (.ref b1), (.int (0 : Int32)), (.ref t16)])) rfl rfl (hb hby d33_68)
  have F20 := d16.same W20
  refine own_go st20 ?_
  have z21 := W20.size
  have K21 := K17.wr W20 (Or.inl (List.mem_of_getElem? (i := 0) rfl))
  have O21 := O17.wr W20 (by omega)
  have N21 := Fr.snoc X20 N16 (by omega)
  have f22 := (V16.other W20 (own_ne (a := t16) (b := b1) (by omega)))
  refine own_gs (cur' := T20.setTop (mkF m 72 #[vr b1, vi c0] [(.int c0), (.int (0 : Int32)), (.ref t16)])) ?_ ?_
  · refine XS.iloadN X20.here hx rfl (hb hby d33_71) rfl ?_
    exact Steps.refl _
  obtain ⟨_, _, ⟨T23, L23, k23, n23⟩, -, X23, ⟨Lc23, hQ23, l23, y23, z23⟩, st23⟩ := Jvm.LawKit.callS X20 hx (y := own_y26) hown (mvT hZ (tw_ hw 232 rfl)) (mvT hZ (tw_ hw 233 rfl)) (mvT hZ (tw_ hw 170 rfl)) (mvT hZ (tw_ hw 234 rfl)) (by decide) (backOf (W := 0) (own_psb l Z a0 hW t16 kb16 n 0 (own_puts (List.replicate (2 * n) (.int (0 : Int32))) 0 []) c0 h20 n0 (by omega) O21 hn hi (by simp only [own_puts, List.length_set, List.length_replicate]) (by omega) f22) hZ (tw_ hw 234 rfl) (tw_ hw 170 rfl) (by decide) (by decide)) (g := (mkF m 72 #[vr b1, vi c0] [(.int c0), (.int (0 : Int32)), (.ref t16)])) rfl (by rw [hml]; rfl) (argsL := [(.ref t16), (.int (0 : Int32)), (.int c0)]) (rest := []) (lenOf pd_9 rfl) rfl (own_le rfl) (hb hby d33_72) (fun _ _ => ⟨rfl, e20, own_le rfl, own_le rfl⟩)
  dsimp only [Pt.U, Pt.locs, Pt.cells, Pt.slots] at X23 l23 y23 z23 st23 hQ23
  subst l23 y23 z23
  obtain ⟨rfl, Nq23, Kq23, Vt23⟩ := hQ23
  have N23 := Fr.app N21 Nq23
  have z24 := Kq23.1
  have K24 := K21.trans Kq23 (allS (Or.inr (by omega)) all0)
  have O24 := O21.keep Kq23 (allS (by omega) all0)
  refine own_go st23 ?_
  have f25 := ((a16.wr W20).keep Kq23)
  have f26 := ((b16.other W20 (Or.inr (slot_ne (Or.inl (tw_ hw 62 rfl)) (Or.inl (tw_ hw 104 rfl)) (by decide) (t := (.array .byte)) (t' := .int) (by decide) (by decide)))).keep Kq23 (ninS (own_ne (a := b1) (b := t16) (by omega)) nin0))
  have f27 := ((c16.other W20 (Or.inr (slot_ne (Or.inl (tw_ hw 64 rfl)) (Or.inl (tw_ hw 104 rfl)) (by decide) (t := .byte) (t' := .int) (by decide) (by decide)))).keep Kq23 (ninS (own_ne (a := b1) (b := t16) (by omega)) nin0))
  have f28 := (F20.keep Kq23 (ninS (own_ne (a := b1) (b := t16) (by omega)) nin0))
  have f29 := ((f16m.other W20 (Or.inr (slot_ne (Or.inl (tw_ hw 236 rfl)) (Or.inl (tw_ hw 104 rfl)) (by decide) (t := .boolean) (t' := .int) (by decide) (by decide)))).keep Kq23 (ninS (own_ne (a := b1) (b := t16) (by omega)) nin0))
  refine own_gs (cur' := T23.setTop (mkF m 76 #[vr b1, vi c0] [(.ref b1)])) ?_ ?_
  · refine XS.aloadN X23.here hx rfl (hb hby d33_75) rfl rfl ?_
    exact Steps.refl _
  exact own_rA X23 Bd rfl (v := (.ref b1)) rfl (hb hby d33_76) rfl (⟨_, _, rfl, N23, K24, f25, f26, f27, f28, f29, Vt23, fc16, (by omega)⟩) rfl rfl
abbrev own_c34 : ByteArray := jdk_67_method_14_code
def own_sapi0_Q (Z : State) (b1 t1 : Nat) (k1 : ClassId) (n : Nat) (vs : List Value)  (c0 : Int32) (h0 : Heap) (n0 : Nat) (v : Option Value) (h : Heap) (L : List Loc) : Prop := ∃ (t : Nat) (k : ClassId), v = some (.ref b1) ∧ Fr n0 L ∧ Keep h0 h [b1] ∧ Exa Z h b1 "java/lang/StringBuilder" ∧ Fld Z h b1 "java/lang/AbstractStringBuilder" "value" "[B" (.ref t) ∧ Fld Z h b1 "java/lang/AbstractStringBuilder" "coder" "B" (.int (1 : Int32)) ∧ Fld Z h b1 "java/lang/AbstractStringBuilder" "count" "I" (.int (1 : Int32)) ∧ Fld Z h b1 "java/lang/AbstractStringBuilder" "maybeLatin1" "Z" (.int (0 : Int32)) ∧ Arv Z h t k .byte (Int32.ofNat (2 * n)) (own_puts (List.replicate (2 * n) (.int (0 : Int32))) 0 [c0]) (.int (0 : Int32)) ∧ Z.vm.findClass "[B" = some k ∧ h0.size ≤ t
theorem ef_own_sapi0 (m : MethodId) (x0 : Nat) (x1 : Int32) : entryFrame m #[(.ref x0), (.int x1)] 2 = mkF m 0 #[vr x0, vi x1] [] := by first | (simp [entryFrame, mkF, argsToLocals, Value.category]; done) | rfl
abbrev own_y34 : MethodName := ⟨"java/lang/StringBuilder", "append", "(C)Ljava/lang/StringBuilder;"⟩
theorem d34_0 : decode own_c34 0 = .ok (.aload_n 0, 1) := by decide +kernel
theorem d34_1 : decode own_c34 1 = .ok (.iload_n 1, 1) := by decide +kernel
theorem d34_2 : decode own_c34 2 = .ok (.invokespecial 50, 3) := by decide +kernel
theorem pd_22 : parseMethodDescriptor "(C)Ljava/lang/AbstractStringBuilder;" = some ⟨[.char], some (.object "java/lang/AbstractStringBuilder")⟩ := by decide +kernel
theorem d34_5 : decode own_c34 5 = .ok (.pop, 1) := by decide +kernel
theorem d34_6 : decode own_c34 6 = .ok (.aload_n 0, 1) := by decide +kernel
theorem d34_7 : decode own_c34 7 = .ok (.areturn, 1) := by decide +kernel
set_option maxRecDepth 65536 in
set_option maxHeartbeats 40000000 in
theorem own_sapi0 (l : Launch) (Z : State) (a0 : Array Value) (hW : own_W Z a0) (b1 t1 : Nat) (k1 : ClassId) (n : Nat) (vs : List Value)  (c0 : Int32) (h0 : Heap) (n0 : Nat) (Z0 : n0 ≤ h0.size) (O0 : Old Z n0 h0) (hn : n ≤ 3) (hi : 0 < n) (E1 : Exa Z h0 b1 "java/lang/StringBuilder") (Fv1 : Fld Z h0 b1 "java/lang/AbstractStringBuilder" "value" "[B" (.ref t1)) (Fc1 : Fld Z h0 b1 "java/lang/AbstractStringBuilder" "coder" "B" (.int (0 : Int32))) (Fn1 : Fld Z h0 b1 "java/lang/AbstractStringBuilder" "count" "I" (.int (0 : Int32))) (Fm1 : Fld Z h0 b1 "java/lang/AbstractStringBuilder" "maybeLatin1" "Z" (.int (0 : Int32))) (V1 : Arv Z h0 t1 k1 .byte (Int32.ofNat n) vs (.int (0 : Int32))) (g1 : n0 ≤ b1) (hbt : b1 ≠ t1)  (hce : (255 : Int32) < c0) :
    own_M l own_y34 own_c34 2 (some (.object "java/lang/StringBuilder")) (own_r 7 1 6 144) #[(.ref b1), (.int c0)] Z h0 (own_sapi0_Q Z b1 t1 k1 n vs c0 h0 n0) := by
  refine own_enter (own := "java/lang/StringBuilder") rfl (plainFor_of_name pn_java_lang_StringBuilder) (fun m => ef_own_sapi0 m b1 c0) ?_
  intro p e s m below meth c s₁ Bd hZ hh hx hby hml hown hnm X0 e0
  obtain ⟨hw, ⟨G1, O2, P5⟩, ⟨G3, O4, rG3⟩, Oa, Oh, Ol⟩ := id hW
  have N0 := Fr.nil n0
  have K0 := Keep.refl h0 [b1]
  have lt1 := own_lt E1.lt
  have lt2 := own_lt V1.lt
  refine own_gs (cur' := s₁.setTop (mkF m 2 #[vr b1, vi c0] [(.int c0), (.ref b1)])) ?_ ?_
  · refine XS.aloadN X0.here hx rfl (hb hby d34_0) rfl rfl ?_
    refine XS.iloadN X0.here hx rfl (hb hby d34_1) rfl ?_
    exact Steps.refl _
  obtain ⟨_, _, ⟨T11, L11, k11, n11⟩, -, X11, ⟨Lc11, hQ11, l11, y11, z11⟩, st11⟩ := superBack X0 hx hZ (y := own_y33) hown (tw_ hw 98 rfl) (own_sameM (own_nf (notFace_of_selects (tw_ hw 108 rfl)) (tw_ hw 106 rfl) rfl) (tw_ hw 99 rfl) (by decide)) (tw_ hw 99 rfl) (tw_ hw 100 rfl) (by decide) (backOf (W := 0) (own_aapi0 l Z a0 hW b1 t1 k1 n vs  c0 h0 n0 (by omega) O0 hn hi E1 Fv1 Fc1 Fn1 Fm1 V1 g1 hbt  hce) hZ (tw_ hw 102 rfl) (tw_ hw 57 rfl) (by decide) (by decide)) e0 (Ins.self E1) (g := (mkF m 2 #[vr b1, vi c0] [(.int c0), (.ref b1)])) rfl (by rw [hml]; rfl) (tw_ hw 102 rfl) (argsL := [(.int c0)]) (rest := []) (lenOf pd_22 rfl) rfl (own_le rfl) (hb hby d34_2) (fun _ _ => ⟨rfl, e0, own_le rfl, own_le rfl⟩)
  dsimp only [Pt.U, Pt.locs, Pt.cells, Pt.slots] at X11 l11 y11 z11 st11 hQ11
  subst l11 y11 z11
  obtain ⟨t11, kb11, rfl, Nq11, Kq11, a11, b11, c11, d11, f11m, V11, fc11, ge11⟩ := hQ11
  have N11 := Fr.app N0 Nq11
  have z12 := Kq11.1
  have K12 := K0.trans Kq11 (allS (Or.inl (List.mem_of_getElem? (i := 0) rfl)) all0)
  have O12 := O0.keep Kq11 (allS (by omega) all0)
  refine own_gs st11 ?_
  refine own_gs (cur' := T11.setTop (mkF m 7 #[vr b1, vi c0] [(.ref b1)])) ?_ ?_
  · refine XS.pop X11.here hx rfl (hb hby d34_5) rfl rfl ?_
    refine XS.aloadN X11.here hx rfl (hb hby d34_6) rfl rfl ?_
    exact Steps.refl _
  exact own_rA X11 Bd rfl (v := (.ref b1)) rfl (hb hby d34_7) rfl (⟨_, _, rfl, N11, K12, a11, b11, c11, d11, f11m, V11, fc11, (by omega)⟩) rfl rfl
def own_uinf1_Q (Z : State) (t1 t2 : Nat) (k1 k2 : ClassId) (n : Nat) (vs : List Value) (d0 : Int32) (h0 : Heap) (n0 : Nat) (v : Option Value) (h : Heap) (L : List Loc) : Prop := v = none ∧ Fr n0 L ∧ Keep h0 h [t2] ∧ Arv Z h t2 k2 .byte (Int32.ofNat (2 * n)) (own_puts (List.replicate (2 * n) (.int (0 : Int32))) 0 [d0]) (.int (0 : Int32))
theorem ef_own_uinf1 (m : MethodId) (x0 : Nat) (x1 : Int32) (x2 : Nat) (x3 : Int32) (x4 : Int32) : entryFrame m #[(.ref x0), (.int x1), (.ref x2), (.int x3), (.int x4)] 6 = mkF m 0 #[vr x0, vi x1, vr x2, vi x3, vi x4, .unset] [] := by first | (simp [entryFrame, mkF, argsToLocals, Value.category]; done) | rfl
theorem d30_17 : decode own_c30 17 = .ok (.aload_n 2, 1) := by decide +kernel
theorem d30_18 : decode own_c30 18 = .ok (.iload_n 3, 1) := by decide +kernel
theorem d30_19 : decode own_c30 19 = .ok (.iinc 3 1, 3) := by decide +kernel
theorem d30_22 : decode own_c30 22 = .ok (.aload_n 0, 1) := by decide +kernel
theorem d30_23 : decode own_c30 23 = .ok (.iload_n 1, 1) := by decide +kernel
theorem d30_24 : decode own_c30 24 = .ok (.iinc 1 1, 3) := by decide +kernel
theorem d30_27 : decode own_c30 27 = .ok (.baload, 1) := by decide +kernel
theorem d30_28 : decode own_c30 28 = .ok (.sipush 255, 3) := by decide +kernel
theorem d30_31 : decode own_c30 31 = .ok (.iand, 1) := by decide +kernel
theorem d30_32 : decode own_c30 32 = .ok (.invokestatic 111, 3) := by decide +kernel
theorem d30_35 : decode own_c30 35 = .ok (.iinc 5 1, 3) := by decide +kernel
theorem d30_38 : decode own_c30 38 = .ok (.goto (-28), 3) := by decide +kernel
set_option maxRecDepth 65536 in
set_option maxHeartbeats 40000000 in
theorem own_uinf1 (l : Launch) (Z : State) (a0 : Array Value) (hW : own_W Z a0) (t1 t2 : Nat) (k1 k2 : ClassId) (n : Nat) (vs : List Value) (d0 : Int32) (h0 : Heap) (n0 : Nat) (Z0 : n0 ≤ h0.size) (O0 : Old Z n0 h0) (hn : n ≤ 3) (hi : 1 < n) (V1 : Arv Z h0 t1 k1 .byte (Int32.ofNat n) vs (.int (0 : Int32))) (V2 : Arv Z h0 t2 k2 .byte (Int32.ofNat (2 * n)) (List.replicate (2 * n) (.int (0 : Int32))) (.int (0 : Int32))) (g2 : n0 ≤ t2) (hne : t1 ≠ t2) (hv0 : vs.getD 0 (.int (0 : Int32)) = .int (StrChars.lo8 d0)) (hd0 : ¬ d0 < 0 ∧ ¬ (255 : Int32) < d0) :
    own_M l own_y30 own_c30 6 none (own_r 3 0 0 61) #[(.ref t1), (.int (0 : Int32)), (.ref t2), (.int (0 : Int32)), (.int (1 : Int32))] Z h0 (own_uinf1_Q Z t1 t2 k1 k2 n vs d0 h0 n0) := by
  refine own_enter (own := "java/lang/StringUTF16") rfl (plainFor_of_name pn_java_lang_StringUTF16) (fun m => ef_own_uinf1 m t1 (0 : Int32) t2 (0 : Int32) (1 : Int32)) ?_
  intro p e s m below meth c s₁ Bd hZ hh hx hby hml hown hnm X0 e0
  obtain ⟨hw, ⟨G1, O2, P5⟩, ⟨G3, O4, rG3⟩, Oa, Oh, Ol⟩ := id hW
  have N0 := Fr.nil n0
  have K0 := Keep.refl h0 [t2]
  have lt1 := own_lt V1.lt
  have lt2 := own_lt V2.lt
  refine own_gs (cur' := s₁.setTop (mkF m 4 #[vr t1, vi (0 : Int32), vr t2, vi (0 : Int32), vi (1 : Int32), uu] [(.ref t2), (.int (1 : Int32)), (.int (0 : Int32))])) ?_ ?_
  · refine XS.iloadN X0.here hx rfl (hb hby d30_0) rfl ?_
    refine XS.iload X0.here hx rfl (hb hby d30_1) rfl ?_
    refine XS.aloadN X0.here hx rfl (hb hby d30_3) rfl rfl ?_
    exact Steps.refl _
  obtain ⟨_, _, ⟨T11, L11, k11, n11⟩, -, X11, ⟨Lc11, hQ11, l11, y11, z11⟩, st11⟩ := Jvm.LawKit.callS X0 hx (y := own_y29) hown (mvT hZ (tw_ hw 223 rfl)) (mvT hZ (tw_ hw 224 rfl)) (mvT hZ (tw_ hw 170 rfl)) (mvT hZ (tw_ hw 225 rfl)) (by decide) (backOf (W := 0) (own_cbo l Z a0 hW t2 k2 n 1 (List.replicate (2 * n) (.int (0 : Int32))) h0 n0 (by omega) O0 hn (by omega) V2) hZ (tw_ hw 225 rfl) (tw_ hw 170 rfl) (by decide) (by decide)) (g := (mkF m 4 #[vr t1, vi (0 : Int32), vr t2, vi (0 : Int32), vi (1 : Int32), uu] [(.ref t2), (.int (1 : Int32)), (.int (0 : Int32))])) rfl (by rw [hml]; rfl) (argsL := [(.int (0 : Int32)), (.int (1 : Int32)), (.ref t2)]) (rest := []) (lenOf pd_19 rfl) rfl (own_le rfl) (hb hby d30_4) (fun _ _ => ⟨rfl, e0, own_le rfl, own_le rfl⟩)
  dsimp only [Pt.U, Pt.locs, Pt.cells, Pt.slots] at X11 l11 y11 z11 st11 hQ11
  subst l11 y11 z11
  obtain ⟨rfl, Nq11, eh11⟩ := hQ11
  have N11 := Fr.app N0 Nq11
  refine own_go st11 ?_
  refine own_gs (cur' := T11.setTop (mkF m 27 #[vr t1, vi (1 : Int32), vr t2, vi (1 : Int32), vi (1 : Int32), vi (0 : Int32)] [(.int (0 : Int32)), (.ref t1), (.int (0 : Int32)), (.ref t2)])) ?_ ?_
  · refine XS.iconst X11.here hx rfl (hb hby d30_7) ?_
    refine XS.istore X11.here hx rfl (hb hby d30_8) rfl (l' := #[vr t1, vi (0 : Int32), vr t2, vi (0 : Int32), vi (1 : Int32), vi (0 : Int32)]) rfl ?_
    refine XS.iload X11.here hx rfl (hb hby d30_10) rfl ?_
    refine XS.iload X11.here hx rfl (hb hby d30_12) rfl ?_
    refine XS.icmpNo X11.here hx rfl (hb hby d30_14) rfl (tlt ((by decide) : (0 : Int32) < (1 : Int32))).2.1 ?_
    refine XS.aloadN X11.here hx rfl (hb hby d30_17) rfl rfl ?_
    refine XS.iloadN X11.here hx rfl (hb hby d30_18) rfl ?_
    refine XS.iinc X11.here hx rfl (hb hby d30_19) rfl (l' := #[vr t1, vi (0 : Int32), vr t2, vi (1 : Int32), vi (1 : Int32), vi (0 : Int32)]) rfl ?_
    show Steps p.tables e below (T11.setTop (mkF m 22 #[vr t1, vi (0 : Int32), vr t2, vi (1 : Int32), vi (1 : Int32), vi (0 : Int32)] [(.int (0 : Int32)), (.ref t2)])) _
    refine XS.aloadN X11.here hx rfl (hb hby d30_22) rfl rfl ?_
    refine XS.iloadN X11.here hx rfl (hb hby d30_23) rfl ?_
    refine XS.iinc X11.here hx rfl (hb hby d30_24) rfl (l' := #[vr t1, vi (1 : Int32), vr t2, vi (1 : Int32), vi (1 : Int32), vi (0 : Int32)]) rfl ?_
    exact Steps.refl _
  obtain ⟨cl12, Ar12, q12, S12, M12, Hs12, G12⟩ := id V1
  have hin12 : ¬ ((0 : Int32) < 0 ∨ cl12.slots.size ≤ ((0 : Int32)).toNatClampNeg) := inb_of S12 (own_in (a := 0) (b := n) (by omega) (by omega))
  have hat12 : cl12.slots[((0 : Int32)).toNatClampNeg]? = some (.int (StrChars.lo8 d0)) := Has.at Hs12 hin12 hv0
  refine own_go (X11.baloadBytes hx (j := (0 : Int32)) (v := (.int (StrChars.lo8 d0))) (by rw [eh11]; exact Ar12.1) (State.isArrayOf_alike hZ.alike Ar12.2.1) Ar12.2.2 hin12 hat12 (g := (mkF m 27 #[vr t1, vi (1 : Int32), vr t2, vi (1 : Int32), vi (1 : Int32), vi (0 : Int32)] [(.int (0 : Int32)), (.ref t1), (.int (0 : Int32)), (.ref t2)])) rfl rfl (hb hby d30_27)) ?_
  show own_Fin p e below (T11.setTop (mkF m 28 #[vr t1, vi (1 : Int32), vr t2, vi (1 : Int32), vi (1 : Int32), vi (0 : Int32)] [(.int (StrChars.lo8 d0)), (.int (0 : Int32)), (.ref t2)])) _
  refine own_gs (cur' := T11.setTop (mkF m 32 #[vr t1, vi (1 : Int32), vr t2, vi (1 : Int32), vi (1 : Int32), vi (0 : Int32)] [(.int ((StrChars.lo8 d0) &&& (255 : Int32))), (.int (0 : Int32)), (.ref t2)])) ?_ ?_
  · refine XS.sipush X11.here hx rfl (hb hby d30_28) ?_
    refine XS.iand X11.here hx rfl (hb hby d30_31) rfl ?_
    exact Steps.refl _
  rw [StrChars.lo8_mask hd0.1 hd0.2]
  show own_Fin p e below (T11.setTop (mkF m 32 #[vr t1, vi (1 : Int32), vr t2, vi (1 : Int32), vi (1 : Int32), vi (0 : Int32)] [(.int d0), (.int (0 : Int32)), (.ref t2)])) _
  obtain ⟨_, _, ⟨T13, L13, k13, n13⟩, -, X13, ⟨Lc13, hQ13, l13, y13, z13⟩, st13⟩ := Jvm.LawKit.callS X11 hx (y := own_y10) hown (mvT hZ (tw_ hw 192 rfl)) (mvT hZ (tw_ hw 193 rfl)) (mvT hZ (tw_ hw 170 rfl)) (mvT hZ (tw_ hw 194 rfl)) (by decide) (backOf (W := 0) (own_u_putc l Z a0 hW t2 k2 n 0 (List.replicate (2 * n) (.int (0 : Int32))) d0 h0 n0 (by omega) O0 (by omega) (by omega) (by simp only [List.length_set, List.length_replicate]) g2 V2) hZ (tw_ hw 194 rfl) (tw_ hw 170 rfl) (by decide) (by decide)) (g := (mkF m 32 #[vr t1, vi (1 : Int32), vr t2, vi (1 : Int32), vi (1 : Int32), vi (0 : Int32)] [(.int d0), (.int (0 : Int32)), (.ref t2)])) rfl (by rw [hml]; rfl) (argsL := [(.ref t2), (.int (0 : Int32)), (.int d0)]) (rest := []) (lenOf pd_9 rfl) rfl (own_le rfl) (hb hby d30_32) (fun _ _ => ⟨rfl, eh11, own_le rfl, own_le rfl⟩)
  dsimp only [Pt.U, Pt.locs, Pt.cells, Pt.slots] at X13 l13 y13 z13 st13 hQ13
  subst l13 y13 z13
  obtain ⟨rfl, Nq13, Kq13, Vt13⟩ := hQ13
  have N13 := Fr.app N11 Nq13
  have z14 := Kq13.1
  have K14 := K0.trans Kq13 (allS (Or.inl (List.mem_of_getElem? (i := 0) rfl)) all0)
  have O14 := O0.keep Kq13 (allS (by omega) all0)
  refine own_go st13 ?_
  refine own_gs (cur' := T13.setTop (mkF m 41 #[vr t1, vi (1 : Int32), vr t2, vi (1 : Int32), vi (1 : Int32), vi (1 : Int32)] [])) ?_ ?_
  · refine XS.iinc X13.here hx rfl (hb hby d30_35) rfl (l' := #[vr t1, vi (1 : Int32), vr t2, vi (1 : Int32), vi (1 : Int32), vi (1 : Int32)]) rfl ?_
    refine XS.goto X13.here hx rfl (pc0 := 38) (pc' := 10) rfl (hb hby d30_38) (by decide) (by decide) ?_
    refine XS.iload X13.here hx rfl (hb hby d30_10) rfl ?_
    refine XS.iload X13.here hx rfl (hb hby d30_12) rfl ?_
    refine XS.icmpYes X13.here hx rfl (pc0 := 14) (pc' := 41) rfl (hb hby d30_14) rfl (flt ((by decide) : ¬ ((1 : Int32) < (1 : Int32)))).2.1 (by decide) (by decide) ?_
    exact Steps.refl _
  exact own_rV X13 Bd (hb hby d30_41) rfl (⟨rfl, N13, K14, Vt13⟩) rfl rfl
def own_linf1_Q (Z : State) (t1 t2 : Nat) (k1 k2 : ClassId) (n : Nat) (vs : List Value) (d0 : Int32) (h0 : Heap) (n0 : Nat) (v : Option Value) (h : Heap) (L : List Loc) : Prop := v = none ∧ Fr n0 L ∧ Keep h0 h [t2] ∧ Arv Z h t2 k2 .byte (Int32.ofNat (2 * n)) (own_puts (List.replicate (2 * n) (.int (0 : Int32))) 0 [d0]) (.int (0 : Int32))
theorem ef_own_linf1 (m : MethodId) (x0 : Nat) (x1 : Int32) (x2 : Nat) (x3 : Int32) (x4 : Int32) : entryFrame m #[(.ref x0), (.int x1), (.ref x2), (.int x3), (.int x4)] 5 = mkF m 0 #[vr x0, vi x1, vr x2, vi x3, vi x4] [] := by first | (simp [entryFrame, mkF, argsToLocals, Value.category]; done) | rfl
set_option maxRecDepth 65536 in
set_option maxHeartbeats 40000000 in
theorem own_linf1 (l : Launch) (Z : State) (a0 : Array Value) (hW : own_W Z a0) (t1 t2 : Nat) (k1 k2 : ClassId) (n : Nat) (vs : List Value) (d0 : Int32) (h0 : Heap) (n0 : Nat) (Z0 : n0 ≤ h0.size) (O0 : Old Z n0 h0) (hn : n ≤ 3) (hi : 1 < n) (V1 : Arv Z h0 t1 k1 .byte (Int32.ofNat n) vs (.int (0 : Int32))) (V2 : Arv Z h0 t2 k2 .byte (Int32.ofNat (2 * n)) (List.replicate (2 * n) (.int (0 : Int32))) (.int (0 : Int32))) (g2 : n0 ≤ t2) (hne : t1 ≠ t2) (hv0 : vs.getD 0 (.int (0 : Int32)) = .int (StrChars.lo8 d0)) (hd0 : ¬ d0 < 0 ∧ ¬ (255 : Int32) < d0) :
    own_M l own_y31 own_c31 5 none (own_r 4 0 0 84) #[(.ref t1), (.int (0 : Int32)), (.ref t2), (.int (0 : Int32)), (.int (1 : Int32))] Z h0 (own_linf1_Q Z t1 t2 k1 k2 n vs d0 h0 n0) := by
  refine own_enter (own := "java/lang/StringLatin1") rfl (plainFor_of_name pn_java_lang_StringLatin1) (fun m => ef_own_linf1 m t1 (0 : Int32) t2 (0 : Int32) (1 : Int32)) ?_
  intro p e s m below meth c s₁ Bd hZ hh hx hby hml hown hnm X0 e0
  obtain ⟨hw, ⟨G1, O2, P5⟩, ⟨G3, O4, rG3⟩, Oa, Oh, Ol⟩ := id hW
  have N0 := Fr.nil n0
  have K0 := Keep.refl h0 [t2]
  have lt1 := own_lt V1.lt
  have lt2 := own_lt V2.lt
  refine own_gs (cur' := s₁.setTop (mkF m 6 #[vr t1, vi (0 : Int32), vr t2, vi (0 : Int32), vi (1 : Int32)] [(.int (1 : Int32)), (.int (0 : Int32)), (.ref t2), (.int (0 : Int32)), (.ref t1)])) ?_ ?_
  · refine XS.aloadN X0.here hx rfl (hb hby d31_0) rfl rfl ?_
    refine XS.iloadN X0.here hx rfl (hb hby d31_1) rfl ?_
    refine XS.aloadN X0.here hx rfl (hb hby d31_2) rfl rfl ?_
    refine XS.iloadN X0.here hx rfl (hb hby d31_3) rfl ?_
    refine XS.iload X0.here hx rfl (hb hby d31_4) rfl ?_
    exact Steps.refl _
  obtain ⟨_, _, ⟨T11, L11, k11, n11⟩, -, X11, ⟨Lc11, hQ11, l11, y11, z11⟩, st11⟩ := Jvm.LawKit.callS X0 hx (y := own_y30) hown (mvT hZ (tw_ hw 220 rfl)) (mvT hZ (tw_ hw 221 rfl)) (mvT hZ (tw_ hw 170 rfl)) (mvT hZ (tw_ hw 222 rfl)) (by decide) (backOf (W := 0) (own_uinf1 l Z a0 hW t1 t2 k1 k2 n vs d0 h0 n0 (by omega) O0 hn hi V1 V2 g2 hne hv0 hd0) hZ (tw_ hw 222 rfl) (tw_ hw 170 rfl) (by decide) (by decide)) (g := (mkF m 6 #[vr t1, vi (0 : Int32), vr t2, vi (0 : Int32), vi (1 : Int32)] [(.int (1 : Int32)), (.int (0 : Int32)), (.ref t2), (.int (0 : Int32)), (.ref t1)])) rfl (by rw [hml]; rfl) (argsL := [(.ref t1), (.int (0 : Int32)), (.ref t2), (.int (0 : Int32)), (.int (1 : Int32))]) (rest := []) (lenOf pd_20 rfl) rfl (own_le rfl) (hb hby d31_6) (fun _ _ => ⟨rfl, e0, own_le rfl, own_le rfl⟩)
  dsimp only [Pt.U, Pt.locs, Pt.cells, Pt.slots] at X11 l11 y11 z11 st11 hQ11
  subst l11 y11 z11
  obtain ⟨rfl, Nq11, Kq11, Vt11⟩ := hQ11
  have N11 := Fr.app N0 Nq11
  have z12 := Kq11.1
  have K12 := K0.trans Kq11 (allS (Or.inl (List.mem_of_getElem? (i := 0) rfl)) all0)
  have O12 := O0.keep Kq11 (allS (by omega) all0)
  refine own_go st11 ?_
  exact own_rV X11 Bd (hb hby d31_9) rfl (⟨rfl, N11, K12, Vt11⟩) rfl rfl
def own_inf1_Q (Z : State) (b1 t1 : Nat) (k1 : ClassId) (n : Nat) (vs : List Value) (d0 : Int32) (h0 : Heap) (n0 : Nat) (v : Option Value) (h : Heap) (L : List Loc) : Prop := ∃ (t : Nat) (k : ClassId), v = none ∧ Fr n0 L ∧ Keep h0 h [b1] ∧ Exa Z h b1 "java/lang/StringBuilder" ∧ Fld Z h b1 "java/lang/AbstractStringBuilder" "value" "[B" (.ref t) ∧ Fld Z h b1 "java/lang/AbstractStringBuilder" "coder" "B" (.int (1 : Int32)) ∧ Fld Z h b1 "java/lang/AbstractStringBuilder" "count" "I" (.int (1 : Int32)) ∧ Fld Z h b1 "java/lang/AbstractStringBuilder" "maybeLatin1" "Z" (.int (0 : Int32)) ∧ Arv Z h t k .byte (Int32.ofNat (2 * n)) (own_puts (List.replicate (2 * n) (.int (0 : Int32))) 0 [d0]) (.int (0 : Int32)) ∧ Z.vm.findClass "[B" = some k ∧ h0.size ≤ t
theorem ef_own_inf1 (m : MethodId) (x0 : Nat) : entryFrame m #[(.ref x0)] 2 = mkF m 0 #[vr x0, .unset] [] := by first | (simp [entryFrame, mkF, argsToLocals, Value.category]; done) | rfl
set_option maxRecDepth 65536 in
set_option maxHeartbeats 40000000 in
theorem own_inf1 (l : Launch) (Z : State) (a0 : Array Value) (hW : own_W Z a0) (b1 t1 : Nat) (k1 : ClassId) (n : Nat) (vs : List Value) (d0 : Int32) (h0 : Heap) (n0 : Nat) (Z0 : n0 ≤ h0.size) (O0 : Old Z n0 h0) (hn : n ≤ 3) (hi : 1 < n) (E1 : Exa Z h0 b1 "java/lang/StringBuilder") (Fv1 : Fld Z h0 b1 "java/lang/AbstractStringBuilder" "value" "[B" (.ref t1)) (Fc1 : Fld Z h0 b1 "java/lang/AbstractStringBuilder" "coder" "B" (.int (0 : Int32))) (Fn1 : Fld Z h0 b1 "java/lang/AbstractStringBuilder" "count" "I" (.int (1 : Int32))) (Fm1 : Fld Z h0 b1 "java/lang/AbstractStringBuilder" "maybeLatin1" "Z" (.int (0 : Int32))) (V1 : Arv Z h0 t1 k1 .byte (Int32.ofNat n) vs (.int (0 : Int32))) (g1 : n0 ≤ b1) (hbt : b1 ≠ t1) (hv0 : vs.getD 0 (.int (0 : Int32)) = .int (StrChars.lo8 d0)) (hd0 : ¬ d0 < 0 ∧ ¬ (255 : Int32) < d0) :
    own_M l own_y32 own_c32 2 none (own_r 5 1 6 106) #[(.ref b1)] Z h0 (own_inf1_Q Z b1 t1 k1 n vs d0 h0 n0) := by
  refine own_enter (own := "java/lang/AbstractStringBuilder") rfl (plainFor_of_name pn_java_lang_AbstractStringBuilder) (fun m => ef_own_inf1 m b1) ?_
  intro p e s m below meth c s₁ Bd hZ hh hx hby hml hown hnm X0 e0
  obtain ⟨hw, ⟨G1, O2, P5⟩, ⟨G3, O4, rG3⟩, Oa, Oh, Ol⟩ := id hW
  have N0 := Fr.nil n0
  have K0 := Keep.refl h0 [b1]
  have lt1 := own_lt E1.lt
  have lt2 := own_lt V1.lt
  refine own_gs (cur' := s₁.setTop (mkF m 1 #[vr b1, uu] [(.ref b1)])) ?_ ?_
  · refine XS.aloadN X0.here hx rfl (hb hby d32_0) rfl rfl ?_
    exact Steps.refl _
  obtain ⟨cq11, kq11, q11a, q11b, q11c⟩ := isOf hZ e0 E1
  obtain ⟨_, _, ⟨T11, L11, k11, n11⟩, -, X11, ⟨Lc11, hQ11, l11, y11, z11⟩, st11⟩ := X0.virtualBack hx (y := own_y24) (z := own_y24) hown (mvT hZ (tw_ hw 110 rfl)) (mvT hZ (tw_ hw 111 rfl)) (notFace_of_selects (args := #[]) (mvT hZ (tw_ hw 113 rfl))) (mvT hZ (tw_ hw 113 rfl)) (mvT hZ (tw_ hw 112 rfl)) (by decide) (backOf (W := 0) (own_ais0 l Z a0 hW b1 h0 n0 (by omega) O0 Fc1) hZ (tw_ hw 114 rfl) (tw_ hw 57 rfl) (by decide) (by decide)) q11a q11c (g := (mkF m 1 #[vr b1, uu] [(.ref b1)])) rfl (by rw [hml]; rfl) (Steps.refl _) (argsL := []) (rest := []) (lenOf pd_6 rfl) rfl (own_le rfl) (hb hby d32_1) (fun _ _ => ⟨rfl, e0, own_le rfl, own_le rfl⟩)
  dsimp only [Pt.U, Pt.locs, Pt.cells, Pt.slots] at X11 l11 y11 z11 st11 hQ11
  subst l11 y11 z11
  obtain ⟨rfl, Nq11, eh11⟩ := hQ11
  have N11 := Fr.app N0 Nq11
  refine own_gs st11 ?_
  refine own_gs (cur' := T11.setTop (mkF m 9 #[vr b1, uu] [(.ref b1)])) ?_ ?_
  · refine XS.ifYes X11.here hx rfl (pc0 := 4) (pc' := 8) rfl (hb hby d32_4) rfl ((if0 _ _).trans (feq ((by decide) : ¬ ((1 : Int32) = (0 : Int32)))).2) (by decide) (by decide) ?_
    refine XS.aloadN X11.here hx rfl (hb hby d32_8) rfl rfl ?_
    exact Steps.refl _
  obtain ⟨T12, X12, e12, st12⟩ := getF X11 hx hZ hown (host := "") (Or.inl (tw_ hw 61 rfl)) Via.refl eh11 Fv1 (g := (mkF m 9 #[vr b1, uu] [(.ref b1)])) rfl rfl (hb hby d32_9)
  refine own_go st12 ?_
  obtain ⟨cl13, Ar13, q13, S13, M13, Hs13, G13⟩ := id V1
  refine own_go (X12.arraylength hx (by rw [e12]; exact Ar13.1) (State.isArrayOf_alike hZ.alike Ar13.2.1) (g := (mkF m 12 #[vr b1, uu] [(.ref t1)])) rfl rfl (hb hby d32_12)) ?_
  rw [len_of S13 M13]
  show own_Fin p e below (T12.setTop (mkF m 13 #[vr b1, uu] [(.int (Int32.ofNat n))])) _
  obtain ⟨_, _, ⟨T14, L14, k14, n14⟩, -, X14, ⟨Lc14, hQ14, l14, y14, z14⟩, st14⟩ := Jvm.LawKit.callS X12 hx (y := own_y12) hown (mvT hZ (tw_ hw 216 rfl)) (mvT hZ (tw_ hw 186 rfl)) (mvT hZ (tw_ hw 170 rfl)) (mvT hZ (tw_ hw 187 rfl)) (by decide) (backOf (W := 0) (own_nbfg l Z a0 hW n h0 n0 (by omega) O0 hn) hZ (tw_ hw 187 rfl) (tw_ hw 170 rfl) (by decide) (by decide)) (g := (mkF m 13 #[vr b1, uu] [(.int (Int32.ofNat n))])) rfl (by rw [hml]; rfl) (argsL := [(.int (Int32.ofNat n))]) (rest := []) (lenOf pd_8 rfl) rfl (own_le rfl) (hb hby d32_13) (fun _ _ => ⟨rfl, e12, own_le rfl, own_le rfl⟩)
  dsimp only [Pt.U, Pt.locs, Pt.cells, Pt.slots] at X14 l14 y14 z14 st14 hQ14
  subst l14 y14 z14
  obtain ⟨t14, kb14, rfl, Nq14, Kq14, Vt14, fc14, ge14⟩ := hQ14
  have N14 := Fr.app N11 Nq14
  have z15 := Kq14.1
  have K15 := K0.trans Kq14 all0
  have O15 := O0.keep Kq14 all0
  have lt14 := own_lt Vt14.lt
  refine own_go st14 ?_
  refine own_gs (cur' := T14.setTop (mkF m 18 #[vr b1, vr t14] [(.ref b1)])) ?_ ?_
  · refine XS.astoreN X14.here hx rfl (hb hby d32_16) rfl rfl (l' := #[vr b1, vr t14]) rfl ?_
    refine XS.aloadN X14.here hx rfl (hb hby d32_17) rfl rfl ?_
    exact Steps.refl _
  have f17 := (Fv1.keep Kq14 nin0)
  obtain ⟨T16, X16, e16, st16⟩ := getF X14 hx hZ hown (host := "") (Or.inl (tw_ hw 61 rfl)) Via.refl rfl f17 (g := (mkF m 18 #[vr b1, vr t14] [(.ref b1)])) rfl rfl (hb hby d32_18)
  refine own_go st16 ?_
  refine own_gs (cur' := T16.setTop (mkF m 25 #[vr b1, vr t14] [(.ref b1), (.int (0 : Int32)), (.ref t14), (.int (0 : Int32)), (.ref t1)])) ?_ ?_
  · refine XS.iconst X16.here hx rfl (hb hby d32_21) ?_
    refine XS.aloadN X16.here hx rfl (hb hby d32_22) rfl rfl ?_
    refine XS.iconst X16.here hx rfl (hb hby d32_23) ?_
    refine XS.aloadN X16.here hx rfl (hb hby d32_24) rfl rfl ?_
    exact Steps.refl _
  have f19 := (Fn1.keep Kq14 nin0)
  obtain ⟨T18, X18, e18, st18⟩ := getF X16 hx hZ hown (host := "") (Or.inl (tw_ hw 103 rfl)) Via.refl e16 f19 (g := (mkF m 25 #[vr b1, vr t14] [(.ref b1), (.int (0 : Int32)), (.ref t14), (.int (0 : Int32)), (.ref t1)])) rfl rfl (hb hby d32_25)
  refine own_go st18 ?_
  have f20 := (V1.keep Kq14 nin0)
  obtain ⟨_, _, ⟨T21, L21, k21, n21⟩, -, X21, ⟨Lc21, hQ21, l21, y21, z21⟩, st21⟩ := Jvm.LawKit.callS X18 hx (y := own_y31) hown (mvT hZ (tw_ hw 217 rfl)) (mvT hZ (tw_ hw 218 rfl)) (mvT hZ (tw_ hw 14 rfl)) (mvT hZ (tw_ hw 219 rfl)) (by decide) (backOf (W := 0) (own_linf1 l Z a0 hW t1 t14 k1 kb14 n vs d0 T14.heap n0 (by omega) O15 hn hi f20 Vt14 (by omega) (by omega) hv0 hd0) hZ (tw_ hw 219 rfl) (tw_ hw 14 rfl) (by decide) (by decide)) (g := (mkF m 28 #[vr b1, vr t14] [(.int (1 : Int32)), (.int (0 : Int32)), (.ref t14), (.int (0 : Int32)), (.ref t1)])) rfl (by rw [hml]; rfl) (argsL := [(.ref t1), (.int (0 : Int32)), (.ref t14), (.int (0 : Int32)), (.int (1 : Int32))]) (rest := []) (lenOf pd_20 rfl) rfl (own_le rfl) (hb hby d32_28) (fun _ _ => ⟨rfl, e18, own_le rfl, own_le rfl⟩)
  dsimp only [Pt.U, Pt.locs, Pt.cells, Pt.slots] at X21 l21 y21 z21 st21 hQ21
  subst l21 y21 z21
  obtain ⟨rfl, Nq21, Kq21, Vt21⟩ := hQ21
  have N21 := Fr.app N14 Nq21
  have z22 := Kq21.1
  have K22 := K15.trans Kq21 (allS (Or.inr (by omega)) all0)
  have O22 := O15.keep Kq21 (allS (by omega) all0)
  refine own_go st21 ?_
  refine own_gs (cur' := T21.setTop (mkF m 33 #[vr b1, vr t14] [(.ref t14), (.ref b1)])) ?_ ?_
  · refine XS.aloadN X21.here hx rfl (hb hby d32_31) rfl rfl ?_
    refine XS.aloadN X21.here hx rfl (hb hby d32_32) rfl rfl ?_
    exact Steps.refl _
  have f24 := (f17.keep Kq21 (ninS (own_ne (a := b1) (b := t14) (by omega)) nin0))
  have f25 := ((E1.keep Kq14).keep Kq21)
  obtain ⟨T23, h23, X23, e23, W23, st23⟩ := putF X21 hx hZ hown (host := "") (Or.inl (tw_ hw 61 rfl)) Via.refl rfl f24 f25 (Or.inl (tw_ hw 62 rfl)) (tw_ hw 38 rfl) (ty := (.array .byte)) (by decide) rfl rfl (g := (mkF m 33 #[vr b1, vr t14] [(.ref t14), (.ref b1)])) rfl rfl (hb hby d32_33)
  have F23 := f24.same W23
  refine own_go st23 ?_
  have z26 := W23.size
  have K26 := K22.wr W23 (Or.inl (List.mem_of_getElem? (i := 0) rfl))
  have O26 := O22.wr W23 (by omega)
  have N26 := Fr.snoc X23 N21 (by omega)
  refine own_gs (cur' := T23.setTop (mkF m 38 #[vr b1, vr t14] [(.int (1 : Int32)), (.ref b1)])) ?_ ?_
  · refine XS.aloadN X23.here hx rfl (hb hby d32_36) rfl rfl ?_
    refine XS.iconst X23.here hx rfl (hb hby d32_37) ?_
    exact Steps.refl _
  have f28 := (((Fc1.keep Kq14 nin0).keep Kq21 (ninS (own_ne (a := b1) (b := t14) (by omega)) nin0)).other W23 (Or.inr (slot_ne (Or.inl (tw_ hw 64 rfl)) (Or.inl (tw_ hw 62 rfl)) (by decide) (t := .byte) (t' := (.array .byte)) (by decide) (by decide))))
  have f29 := (f25.wr W23)
  obtain ⟨T27, h27, X27, e27, W27, st27⟩ := putF X23 hx hZ hown (host := "") (Or.inl (tw_ hw 63 rfl)) Via.refl e23 f28 f29 (Or.inl (tw_ hw 64 rfl)) (tw_ hw 38 rfl) (ty := .byte) (by decide) rfl rfl (g := (mkF m 38 #[vr b1, vr t14] [(.int (1 : Int32)), (.ref b1)])) rfl rfl (hb hby d32_38)
  have F27 := f28.same W27
  refine own_go st27 ?_
  have z30 := W27.size
  have K30 := K26.wr W27 (Or.inl (List.mem_of_getElem? (i := 0) rfl))
  have O30 := O26.wr W27 (by omega)
  have N30 := Fr.snoc X27 N26 (by omega)
  have f31 := (f29.wr W27)
  have f32 := (F23.other W27 (Or.inr (slot_ne (Or.inl (tw_ hw 62 rfl)) (Or.inl (tw_ hw 64 rfl)) (by decide) (t := (.array .byte)) (t' := .byte) (by decide) (by decide))))
  have f33 := (((f19.keep Kq21 (ninS (own_ne (a := b1) (b := t14) (by omega)) nin0)).other W23 (Or.inr (slot_ne (Or.inl (tw_ hw 104 rfl)) (Or.inl (tw_ hw 62 rfl)) (by decide) (t := .int) (t' := (.array .byte)) (by decide) (by decide)))).other W27 (Or.inr (slot_ne (Or.inl (tw_ hw 104 rfl)) (Or.inl (tw_ hw 64 rfl)) (by decide) (t := .int) (t' := .byte) (by decide) (by decide))))
  have f34 := ((((Fm1.keep Kq14 nin0).keep Kq21 (ninS (own_ne (a := b1) (b := t14) (by omega)) nin0)).other W23 (Or.inr (slot_ne (Or.inl (tw_ hw 236 rfl)) (Or.inl (tw_ hw 62 rfl)) (by decide) (t := .boolean) (t' := (.array .byte)) (by decide) (by decide)))).other W27 (Or.inr (slot_ne (Or.inl (tw_ hw 236 rfl)) (Or.inl (tw_ hw 64 rfl)) (by decide) (t := .boolean) (t' := .byte) (by decide) (by decide))))
  have f35 := ((Vt21.other W23 (own_ne (a := t14) (b := b1) (by omega))).other W27 (own_ne (a := t14) (b := b1) (by omega)))
  exact own_rV X27 Bd (hb hby d32_41) e27 (⟨_, _, rfl, N30, K30, f31, f32, F27, f33, f34, f35, fc14, (by omega)⟩) rfl rfl
def own_aapi1_Q (Z : State) (b1 t1 : Nat) (k1 : ClassId) (n : Nat) (vs : List Value) (d0 : Int32) (c0 : Int32) (h0 : Heap) (n0 : Nat) (v : Option Value) (h : Heap) (L : List Loc) : Prop := ∃ (t : Nat) (k : ClassId), v = some (.ref b1) ∧ Fr n0 L ∧ Keep h0 h [b1] ∧ Exa Z h b1 "java/lang/StringBuilder" ∧ Fld Z h b1 "java/lang/AbstractStringBuilder" "value" "[B" (.ref t) ∧ Fld Z h b1 "java/lang/AbstractStringBuilder" "coder" "B" (.int (1 : Int32)) ∧ Fld Z h b1 "java/lang/AbstractStringBuilder" "count" "I" (.int (2 : Int32)) ∧ Fld Z h b1 "java/lang/AbstractStringBuilder" "maybeLatin1" "Z" (.int (0 : Int32)) ∧ Arv Z h t k .byte (Int32.ofNat (2 * n)) (own_puts (List.replicate (2 * n) (.int (0 : Int32))) 0 [d0, c0]) (.int (0 : Int32)) ∧ Z.vm.findClass "[B" = some k ∧ h0.size ≤ t
theorem ef_own_aapi1 (m : MethodId) (x0 : Nat) (x1 : Int32) : entryFrame m #[(.ref x0), (.int x1)] 2 = mkF m 0 #[vr x0, vi x1] [] := by first | (simp [entryFrame, mkF, argsToLocals, Value.category]; done) | rfl
set_option maxRecDepth 65536 in
set_option maxHeartbeats 40000000 in
theorem own_aapi1 (l : Launch) (Z : State) (a0 : Array Value) (hW : own_W Z a0) (b1 t1 : Nat) (k1 : ClassId) (n : Nat) (vs : List Value) (d0 : Int32) (c0 : Int32) (h0 : Heap) (n0 : Nat) (Z0 : n0 ≤ h0.size) (O0 : Old Z n0 h0) (hn : n ≤ 3) (hi : 1 < n) (E1 : Exa Z h0 b1 "java/lang/StringBuilder") (Fv1 : Fld Z h0 b1 "java/lang/AbstractStringBuilder" "value" "[B" (.ref t1)) (Fc1 : Fld Z h0 b1 "java/lang/AbstractStringBuilder" "coder" "B" (.int (0 : Int32))) (Fn1 : Fld Z h0 b1 "java/lang/AbstractStringBuilder" "count" "I" (.int (1 : Int32))) (Fm1 : Fld Z h0 b1 "java/lang/AbstractStringBuilder" "maybeLatin1" "Z" (.int (0 : Int32))) (V1 : Arv Z h0 t1 k1 .byte (Int32.ofNat n) vs (.int (0 : Int32))) (g1 : n0 ≤ b1) (hbt : b1 ≠ t1) (hv0 : vs.getD 0 (.int (0 : Int32)) = .int (StrChars.lo8 d0)) (hd0 : ¬ d0 < 0 ∧ ¬ (255 : Int32) < d0) (hce : (255 : Int32) < c0) :
    own_M l own_y33 own_c33 2 (some (.object "java/lang/AbstractStringBuilder")) (own_r 6 1 6 125) #[(.ref b1), (.int c0)] Z h0 (own_aapi1_Q Z b1 t1 k1 n vs d0 c0 h0 n0) := by
  refine own_enter (own := "java/lang/AbstractStringBuilder") rfl (plainFor_of_name pn_java_lang_AbstractStringBuilder) (fun m => ef_own_aapi1 m b1 c0) ?_
  intro p e s m below meth c s₁ Bd hZ hh hx hby hml hown hnm X0 e0
  obtain ⟨hw, ⟨G1, O2, P5⟩, ⟨G3, O4, rG3⟩, Oa, Oh, Ol⟩ := id hW
  have N0 := Fr.nil n0
  have K0 := Keep.refl h0 [b1]
  have lt1 := own_lt E1.lt
  have lt2 := own_lt V1.lt
  refine own_gs (cur' := s₁.setTop (mkF m 2 #[vr b1, vi c0] [(.ref b1), (.ref b1)])) ?_ ?_
  · refine XS.aloadN X0.here hx rfl (hb hby d33_0) rfl rfl ?_
    refine XS.aloadN X0.here hx rfl (hb hby d33_1) rfl rfl ?_
    exact Steps.refl _
  obtain ⟨T11, X11, e11, st11⟩ := getF X0 hx hZ hown (host := "") (Or.inl (tw_ hw 103 rfl)) Via.refl e0 Fn1 (g := (mkF m 2 #[vr b1, vi c0] [(.ref b1), (.ref b1)])) rfl rfl (hb hby d33_2)
  refine own_go st11 ?_
  refine own_gs (cur' := T11.setTop (mkF m 7 #[vr b1, vi c0] [(.int (2 : Int32)), (.ref b1)])) ?_ ?_
  · refine XS.iconst X11.here hx rfl (hb hby d33_5) ?_
    refine XS.iadd X11.here hx rfl (hb hby d33_6) rfl ?_
    exact Steps.refl _
  obtain ⟨cq12, q12, q12'⟩ := own_cell E1
  obtain ⟨_, _, ⟨T12, L12, k12, n12⟩, -, X12, ⟨Lc12, hQ12, l12, y12, z12⟩, st12⟩ := X11.privateBack hx (y := own_y25) hown (mvT hZ (tw_ hw 105 rfl)) (mvT hZ (tw_ hw 106 rfl)) (mvT hZ (own_selP (own_nf (notFace_of_selects (tw_ hw 108 rfl)) (tw_ hw 106 rfl) rfl) (tw_ hw 106 rfl) (tw_ hw 107 rfl) (by decide))) (Cond.privateMethod_at (mvP hZ (tw_ hw 107 rfl) (args := #[]))) (mvT hZ (tw_ hw 109 rfl)) (by decide) (backOf (W := 0) (own_eci0 l Z a0 hW b1 t1 k1 n 1 vs h0 n0 (by omega) O0 hn hi E1 Fv1 Fc1 Fn1 Fm1 V1) hZ (tw_ hw 109 rfl) (tw_ hw 57 rfl) (by decide) (by decide)) (g := (mkF m 7 #[vr b1, vi c0] [(.int (2 : Int32)), (.ref b1)])) rfl (by rw [hml]; rfl) (Steps.refl _) (a := b1) (by rw [e11]; exact q12) q12' (argsL := [(.int (2 : Int32))]) (rest := []) (lenOf pd_16 rfl) rfl (own_le rfl) (hb hby d33_7) (fun _ _ => ⟨rfl, e11, own_le rfl, own_le rfl⟩)
  dsimp only [Pt.U, Pt.locs, Pt.cells, Pt.slots] at X12 l12 y12 z12 st12 hQ12
  subst l12 y12 z12
  obtain ⟨rfl, Nq12, eh12⟩ := hQ12
  have N12 := Fr.app N0 Nq12
  refine own_gs st12 ?_
  refine own_gs (cur' := T12.setTop (mkF m 11 #[vr b1, vi c0] [(.ref b1)])) ?_ ?_
  · refine XS.aloadN X12.here hx rfl (hb hby d33_10) rfl rfl ?_
    exact Steps.refl _
  obtain ⟨cq13, kq13, q13a, q13b, q13c⟩ := isOf hZ eh12 E1
  obtain ⟨_, _, ⟨T13, L13, k13, n13⟩, -, X13, ⟨Lc13, hQ13, l13, y13, z13⟩, st13⟩ := X12.virtualBack hx (y := own_y24) (z := own_y24) hown (mvT hZ (tw_ hw 110 rfl)) (mvT hZ (tw_ hw 111 rfl)) (notFace_of_selects (args := #[]) (mvT hZ (tw_ hw 113 rfl))) (mvT hZ (tw_ hw 113 rfl)) (mvT hZ (tw_ hw 112 rfl)) (by decide) (backOf (W := 0) (own_ais0 l Z a0 hW b1 h0 n0 (by omega) O0 Fc1) hZ (tw_ hw 114 rfl) (tw_ hw 57 rfl) (by decide) (by decide)) q13a q13c (g := (mkF m 11 #[vr b1, vi c0] [(.ref b1)])) rfl (by rw [hml]; rfl) (Steps.refl _) (argsL := []) (rest := []) (lenOf pd_6 rfl) rfl (own_le rfl) (hb hby d33_11) (fun _ _ => ⟨rfl, eh12, own_le rfl, own_le rfl⟩)
  dsimp only [Pt.U, Pt.locs, Pt.cells, Pt.slots] at X13 l13 y13 z13 st13 hQ13
  subst l13 y13 z13
  obtain ⟨rfl, Nq13, eh13⟩ := hQ13
  have N13 := Fr.app N12 Nq13
  refine own_gs st13 ?_
  refine own_gs (cur' := T13.setTop (mkF m 18 #[vr b1, vi c0] [(.int c0)])) ?_ ?_
  · refine XS.ifNo X13.here hx rfl (hb hby d33_14) rfl ((if0 _ _).trans (feq ((by decide) : ¬ ((1 : Int32) = (0 : Int32)))).1) ?_
    refine XS.iloadN X13.here hx rfl (hb hby d33_17) rfl ?_
    exact Steps.refl _
  obtain ⟨_, _, ⟨T14, L14, k14, n14⟩, -, X14, ⟨Lc14, hQ14, l14, y14, z14⟩, st14⟩ := Jvm.LawKit.callS X13 hx (y := own_y17) hown (mvT hZ (tw_ hw 115 rfl)) (mvT hZ (tw_ hw 13 rfl)) (mvT hZ (tw_ hw 14 rfl)) (mvT hZ (tw_ hw 15 rfl)) (by decide) (backOf (W := 0) (own_ce0 l Z a0 hW c0 h0 n0 (by omega) O0 hce) hZ (tw_ hw 15 rfl) (tw_ hw 14 rfl) (by decide) (by decide)) (g := (mkF m 18 #[vr b1, vi c0] [(.int c0)])) rfl (by rw [hml]; rfl) (argsL := [(.int c0)]) (rest := []) (lenOf pd_13 rfl) rfl (own_le rfl) (hb hby d33_18) (fun _ _ => ⟨rfl, eh13, own_le rfl, own_le rfl⟩)
  dsimp only [Pt.U, Pt.locs, Pt.cells, Pt.slots] at X14 l14 y14 z14 st14 hQ14
  subst l14 y14 z14
  obtain ⟨rfl, Nq14, eh14⟩ := hQ14
  have N14 := Fr.app N13 Nq14
  refine own_go st14 ?_
  refine own_gs (cur' := T14.setTop (mkF m 46 #[vr b1, vi c0] [(.ref b1)])) ?_ ?_
  · refine XS.ifYes X14.here hx rfl (pc0 := 21) (pc' := 45) rfl (hb hby d33_21) rfl ((if0 _ _).trans (teq ((by decide) : (0 : Int32) = (0 : Int32))).1) (by decide) (by decide) ?_
    refine XS.aloadN X14.here hx rfl (hb hby d33_45) rfl rfl ?_
    exact Steps.refl _
  obtain ⟨cq15, kq15, q15a, q15b, q15c⟩ := isOf hZ eh14 E1
  obtain ⟨_, _, ⟨T15, L15, k15, n15⟩, -, X15, ⟨Lc15, hQ15, l15, y15, z15⟩, st15⟩ := X14.virtualBack hx (y := own_y24) (z := own_y24) hown (mvT hZ (tw_ hw 110 rfl)) (mvT hZ (tw_ hw 111 rfl)) (notFace_of_selects (args := #[]) (mvT hZ (tw_ hw 113 rfl))) (mvT hZ (tw_ hw 113 rfl)) (mvT hZ (tw_ hw 112 rfl)) (by decide) (backOf (W := 0) (own_ais0 l Z a0 hW b1 h0 n0 (by omega) O0 Fc1) hZ (tw_ hw 114 rfl) (tw_ hw 57 rfl) (by decide) (by decide)) q15a q15c (g := (mkF m 46 #[vr b1, vi c0] [(.ref b1)])) rfl (by rw [hml]; rfl) (Steps.refl _) (argsL := []) (rest := []) (lenOf pd_6 rfl) rfl (own_le rfl) (hb hby d33_46) (fun _ _ => ⟨rfl, eh14, own_le rfl, own_le rfl⟩)
  dsimp only [Pt.U, Pt.locs, Pt.cells, Pt.slots] at X15 l15 y15 z15 st15 hQ15
  subst l15 y15 z15
  obtain ⟨rfl, Nq15, eh15⟩ := hQ15
  have N15 := Fr.app N14 Nq15
  refine own_gs st15 ?_
  refine own_gs (cur' := T15.setTop (mkF m 53 #[vr b1, vi c0] [(.ref b1)])) ?_ ?_
  · refine XS.ifNo X15.here hx rfl (hb hby d33_49) rfl ((if0 _ _).trans (feq ((by decide) : ¬ ((1 : Int32) = (0 : Int32)))).1) ?_
    refine XS.aloadN X15.here hx rfl (hb hby d33_52) rfl rfl ?_
    exact Steps.refl _
  obtain ⟨cq16, q16, q16'⟩ := own_cell E1
  obtain ⟨_, _, ⟨T16, L16, k16, n16⟩, -, X16, ⟨Lc16, hQ16, l16, y16, z16⟩, st16⟩ := X15.privateBack hx (y := own_y32) hown (mvT hZ (tw_ hw 211 rfl)) (mvT hZ (tw_ hw 212 rfl)) (mvT hZ (own_selP (own_nf (notFace_of_selects (tw_ hw 108 rfl)) (tw_ hw 106 rfl) rfl) (tw_ hw 212 rfl) (tw_ hw 213 rfl) (by decide))) (Cond.privateMethod_at (mvP hZ (tw_ hw 213 rfl) (args := #[]))) (mvT hZ (tw_ hw 215 rfl)) (by decide) (backOf (W := 0) (own_inf1 l Z a0 hW b1 t1 k1 n vs d0 h0 n0 (by omega) O0 hn hi E1 Fv1 Fc1 Fn1 Fm1 V1 g1 hbt hv0 hd0) hZ (tw_ hw 215 rfl) (tw_ hw 57 rfl) (by decide) (by decide)) (g := (mkF m 53 #[vr b1, vi c0] [(.ref b1)])) rfl (by rw [hml]; rfl) (Steps.refl _) (a := b1) (by rw [eh15]; exact q16) q16' (argsL := []) (rest := []) (lenOf pd_21 rfl) rfl (own_le rfl) (hb hby d33_53) (fun _ _ => ⟨rfl, eh15, own_le rfl, own_le rfl⟩)
  dsimp only [Pt.U, Pt.locs, Pt.cells, Pt.slots] at X16 l16 y16 z16 st16 hQ16
  subst l16 y16 z16
  obtain ⟨t16, kb16, rfl, Nq16, Kq16, a16, b16, c16, d16, f16m, V16, fc16, ge16⟩ := hQ16
  have N16 := Fr.app N15 Nq16
  have z17 := Kq16.1
  have K17 := K0.trans Kq16 (allS (Or.inl (List.mem_of_getElem? (i := 0) rfl)) all0)
  have O17 := O0.keep Kq16 (allS (by omega) all0)
  have lt16 := own_lt V16.lt
  have ltb16 := own_lt a16.lt
  refine own_gs st16 ?_
  refine own_gs (cur' := T16.setTop (mkF m 57 #[vr b1, vi c0] [(.ref b1)])) ?_ ?_
  · refine XS.aloadN X16.here hx rfl (hb hby d33_56) rfl rfl ?_
    exact Steps.refl _
  obtain ⟨T18, X18, e18, st18⟩ := getF X16 hx hZ hown (host := "") (Or.inl (tw_ hw 61 rfl)) Via.refl rfl b16 (g := (mkF m 57 #[vr b1, vi c0] [(.ref b1)])) rfl rfl (hb hby d33_57)
  refine own_go st18 ?_
  refine own_gs (cur' := T18.setTop (mkF m 62 #[vr b1, vi c0] [(.ref b1), (.ref b1), (.ref t16)])) ?_ ?_
  · refine XS.aloadN X18.here hx rfl (hb hby d33_60) rfl rfl ?_
    refine XS.dup X18.here hx rfl (hb hby d33_61) rfl rfl ?_
    exact Steps.refl _
  obtain ⟨T19, X19, e19, st19⟩ := getF X18 hx hZ hown (host := "") (Or.inl (tw_ hw 103 rfl)) Via.refl e18 d16 (g := (mkF m 62 #[vr b1, vi c0] [(.ref b1), (.ref b1), (.ref t16)])) rfl rfl (hb hby d33_62)
  refine own_go st19 ?_
  refine own_gs (cur' := T19.setTop (mkF m 68 #[vr b1, vi c0] [(.int (2 : Int32)), (.ref b1), (.int (1 : Int32)), (.ref t16)])) ?_ ?_
  · refine XS.dupX1 X19.here hx rfl (hb hby d33_65) rfl rfl rfl ?_
    refine XS.iconst X19.here hx rfl (hb hby d33_66) ?_
    refine XS.iadd X19.here hx rfl (hb hby d33_67) rfl ?_
    exact Steps.refl _
  obtain ⟨T20, h20, X20, e20, W20, st20⟩ := putF X19 hx hZ hown (host := "") (Or.inl (tw_ hw 103 rfl)) Via.refl e19 d16 a16 (Or.inl (tw_ hw 104 rfl)) (tw_ hw 38 rfl) (ty := .int) (by decide) rfl rfl (g := (mkF m 68 #[vr b1, vi c0] [(.int (2 : Int32)), (.ref b1), (.int (1 : Int32)), (.ref t16)])) rfl rfl (hb hby d33_68)
  have F20 := d16.same W20
  refine own_go st20 ?_
  have z21 := W20.size
  have K21 := K17.wr W20 (Or.inl (List.mem_of_getElem? (i := 0) rfl))
  have O21 := O17.wr W20 (by omega)
  have N21 := Fr.snoc X20 N16 (by omega)
  have f22 := (V16.other W20 (own_ne (a := t16) (b := b1) (by omega)))
  refine own_gs (cur' := T20.setTop (mkF m 72 #[vr b1, vi c0] [(.int c0), (.int (1 : Int32)), (.ref t16)])) ?_ ?_
  · refine XS.iloadN X20.here hx rfl (hb hby d33_71) rfl ?_
    exact Steps.refl _
  obtain ⟨_, _, ⟨T23, L23, k23, n23⟩, -, X23, ⟨Lc23, hQ23, l23, y23, z23⟩, st23⟩ := Jvm.LawKit.callS X20 hx (y := own_y26) hown (mvT hZ (tw_ hw 232 rfl)) (mvT hZ (tw_ hw 233 rfl)) (mvT hZ (tw_ hw 170 rfl)) (mvT hZ (tw_ hw 234 rfl)) (by decide) (backOf (W := 0) (own_psb l Z a0 hW t16 kb16 n 1 (own_puts (List.replicate (2 * n) (.int (0 : Int32))) 0 [d0]) c0 h20 n0 (by omega) O21 hn hi (by simp only [own_puts, List.length_set, List.length_replicate]) (by omega) f22) hZ (tw_ hw 234 rfl) (tw_ hw 170 rfl) (by decide) (by decide)) (g := (mkF m 72 #[vr b1, vi c0] [(.int c0), (.int (1 : Int32)), (.ref t16)])) rfl (by rw [hml]; rfl) (argsL := [(.ref t16), (.int (1 : Int32)), (.int c0)]) (rest := []) (lenOf pd_9 rfl) rfl (own_le rfl) (hb hby d33_72) (fun _ _ => ⟨rfl, e20, own_le rfl, own_le rfl⟩)
  dsimp only [Pt.U, Pt.locs, Pt.cells, Pt.slots] at X23 l23 y23 z23 st23 hQ23
  subst l23 y23 z23
  obtain ⟨rfl, Nq23, Kq23, Vt23⟩ := hQ23
  have N23 := Fr.app N21 Nq23
  have z24 := Kq23.1
  have K24 := K21.trans Kq23 (allS (Or.inr (by omega)) all0)
  have O24 := O21.keep Kq23 (allS (by omega) all0)
  refine own_go st23 ?_
  have f25 := ((a16.wr W20).keep Kq23)
  have f26 := ((b16.other W20 (Or.inr (slot_ne (Or.inl (tw_ hw 62 rfl)) (Or.inl (tw_ hw 104 rfl)) (by decide) (t := (.array .byte)) (t' := .int) (by decide) (by decide)))).keep Kq23 (ninS (own_ne (a := b1) (b := t16) (by omega)) nin0))
  have f27 := ((c16.other W20 (Or.inr (slot_ne (Or.inl (tw_ hw 64 rfl)) (Or.inl (tw_ hw 104 rfl)) (by decide) (t := .byte) (t' := .int) (by decide) (by decide)))).keep Kq23 (ninS (own_ne (a := b1) (b := t16) (by omega)) nin0))
  have f28 := (F20.keep Kq23 (ninS (own_ne (a := b1) (b := t16) (by omega)) nin0))
  have f29 := ((f16m.other W20 (Or.inr (slot_ne (Or.inl (tw_ hw 236 rfl)) (Or.inl (tw_ hw 104 rfl)) (by decide) (t := .boolean) (t' := .int) (by decide) (by decide)))).keep Kq23 (ninS (own_ne (a := b1) (b := t16) (by omega)) nin0))
  refine own_gs (cur' := T23.setTop (mkF m 76 #[vr b1, vi c0] [(.ref b1)])) ?_ ?_
  · refine XS.aloadN X23.here hx rfl (hb hby d33_75) rfl rfl ?_
    exact Steps.refl _
  exact own_rA X23 Bd rfl (v := (.ref b1)) rfl (hb hby d33_76) rfl (⟨_, _, rfl, N23, K24, f25, f26, f27, f28, f29, Vt23, fc16, (by omega)⟩) rfl rfl
def own_sapi1_Q (Z : State) (b1 t1 : Nat) (k1 : ClassId) (n : Nat) (vs : List Value) (d0 : Int32) (c0 : Int32) (h0 : Heap) (n0 : Nat) (v : Option Value) (h : Heap) (L : List Loc) : Prop := ∃ (t : Nat) (k : ClassId), v = some (.ref b1) ∧ Fr n0 L ∧ Keep h0 h [b1] ∧ Exa Z h b1 "java/lang/StringBuilder" ∧ Fld Z h b1 "java/lang/AbstractStringBuilder" "value" "[B" (.ref t) ∧ Fld Z h b1 "java/lang/AbstractStringBuilder" "coder" "B" (.int (1 : Int32)) ∧ Fld Z h b1 "java/lang/AbstractStringBuilder" "count" "I" (.int (2 : Int32)) ∧ Fld Z h b1 "java/lang/AbstractStringBuilder" "maybeLatin1" "Z" (.int (0 : Int32)) ∧ Arv Z h t k .byte (Int32.ofNat (2 * n)) (own_puts (List.replicate (2 * n) (.int (0 : Int32))) 0 [d0, c0]) (.int (0 : Int32)) ∧ Z.vm.findClass "[B" = some k ∧ h0.size ≤ t
theorem ef_own_sapi1 (m : MethodId) (x0 : Nat) (x1 : Int32) : entryFrame m #[(.ref x0), (.int x1)] 2 = mkF m 0 #[vr x0, vi x1] [] := by first | (simp [entryFrame, mkF, argsToLocals, Value.category]; done) | rfl
set_option maxRecDepth 65536 in
set_option maxHeartbeats 40000000 in
theorem own_sapi1 (l : Launch) (Z : State) (a0 : Array Value) (hW : own_W Z a0) (b1 t1 : Nat) (k1 : ClassId) (n : Nat) (vs : List Value) (d0 : Int32) (c0 : Int32) (h0 : Heap) (n0 : Nat) (Z0 : n0 ≤ h0.size) (O0 : Old Z n0 h0) (hn : n ≤ 3) (hi : 1 < n) (E1 : Exa Z h0 b1 "java/lang/StringBuilder") (Fv1 : Fld Z h0 b1 "java/lang/AbstractStringBuilder" "value" "[B" (.ref t1)) (Fc1 : Fld Z h0 b1 "java/lang/AbstractStringBuilder" "coder" "B" (.int (0 : Int32))) (Fn1 : Fld Z h0 b1 "java/lang/AbstractStringBuilder" "count" "I" (.int (1 : Int32))) (Fm1 : Fld Z h0 b1 "java/lang/AbstractStringBuilder" "maybeLatin1" "Z" (.int (0 : Int32))) (V1 : Arv Z h0 t1 k1 .byte (Int32.ofNat n) vs (.int (0 : Int32))) (g1 : n0 ≤ b1) (hbt : b1 ≠ t1) (hv0 : vs.getD 0 (.int (0 : Int32)) = .int (StrChars.lo8 d0)) (hd0 : ¬ d0 < 0 ∧ ¬ (255 : Int32) < d0) (hce : (255 : Int32) < c0) :
    own_M l own_y34 own_c34 2 (some (.object "java/lang/StringBuilder")) (own_r 7 1 6 144) #[(.ref b1), (.int c0)] Z h0 (own_sapi1_Q Z b1 t1 k1 n vs d0 c0 h0 n0) := by
  refine own_enter (own := "java/lang/StringBuilder") rfl (plainFor_of_name pn_java_lang_StringBuilder) (fun m => ef_own_sapi1 m b1 c0) ?_
  intro p e s m below meth c s₁ Bd hZ hh hx hby hml hown hnm X0 e0
  obtain ⟨hw, ⟨G1, O2, P5⟩, ⟨G3, O4, rG3⟩, Oa, Oh, Ol⟩ := id hW
  have N0 := Fr.nil n0
  have K0 := Keep.refl h0 [b1]
  have lt1 := own_lt E1.lt
  have lt2 := own_lt V1.lt
  refine own_gs (cur' := s₁.setTop (mkF m 2 #[vr b1, vi c0] [(.int c0), (.ref b1)])) ?_ ?_
  · refine XS.aloadN X0.here hx rfl (hb hby d34_0) rfl rfl ?_
    refine XS.iloadN X0.here hx rfl (hb hby d34_1) rfl ?_
    exact Steps.refl _
  obtain ⟨_, _, ⟨T11, L11, k11, n11⟩, -, X11, ⟨Lc11, hQ11, l11, y11, z11⟩, st11⟩ := superBack X0 hx hZ (y := own_y33) hown (tw_ hw 98 rfl) (own_sameM (own_nf (notFace_of_selects (tw_ hw 108 rfl)) (tw_ hw 106 rfl) rfl) (tw_ hw 99 rfl) (by decide)) (tw_ hw 99 rfl) (tw_ hw 100 rfl) (by decide) (backOf (W := 0) (own_aapi1 l Z a0 hW b1 t1 k1 n vs d0 c0 h0 n0 (by omega) O0 hn hi E1 Fv1 Fc1 Fn1 Fm1 V1 g1 hbt hv0 hd0 hce) hZ (tw_ hw 102 rfl) (tw_ hw 57 rfl) (by decide) (by decide)) e0 (Ins.self E1) (g := (mkF m 2 #[vr b1, vi c0] [(.int c0), (.ref b1)])) rfl (by rw [hml]; rfl) (tw_ hw 102 rfl) (argsL := [(.int c0)]) (rest := []) (lenOf pd_22 rfl) rfl (own_le rfl) (hb hby d34_2) (fun _ _ => ⟨rfl, e0, own_le rfl, own_le rfl⟩)
  dsimp only [Pt.U, Pt.locs, Pt.cells, Pt.slots] at X11 l11 y11 z11 st11 hQ11
  subst l11 y11 z11
  obtain ⟨t11, kb11, rfl, Nq11, Kq11, a11, b11, c11, d11, f11m, V11, fc11, ge11⟩ := hQ11
  have N11 := Fr.app N0 Nq11
  have z12 := Kq11.1
  have K12 := K0.trans Kq11 (allS (Or.inl (List.mem_of_getElem? (i := 0) rfl)) all0)
  have O12 := O0.keep Kq11 (allS (by omega) all0)
  refine own_gs st11 ?_
  refine own_gs (cur' := T11.setTop (mkF m 7 #[vr b1, vi c0] [(.ref b1)])) ?_ ?_
  · refine XS.pop X11.here hx rfl (hb hby d34_5) rfl rfl ?_
    refine XS.aloadN X11.here hx rfl (hb hby d34_6) rfl rfl ?_
    exact Steps.refl _
  exact own_rA X11 Bd rfl (v := (.ref b1)) rfl (hb hby d34_7) rfl (⟨_, _, rfl, N11, K12, a11, b11, c11, d11, f11m, V11, fc11, (by omega)⟩) rfl rfl
def own_uinf2_Q (Z : State) (t1 t2 : Nat) (k1 k2 : ClassId) (n : Nat) (vs : List Value) (d0 d1 : Int32) (h0 : Heap) (n0 : Nat) (v : Option Value) (h : Heap) (L : List Loc) : Prop := v = none ∧ Fr n0 L ∧ Keep h0 h [t2] ∧ Arv Z h t2 k2 .byte (Int32.ofNat (2 * n)) (own_puts (List.replicate (2 * n) (.int (0 : Int32))) 0 [d0, d1]) (.int (0 : Int32))
theorem ef_own_uinf2 (m : MethodId) (x0 : Nat) (x1 : Int32) (x2 : Nat) (x3 : Int32) (x4 : Int32) : entryFrame m #[(.ref x0), (.int x1), (.ref x2), (.int x3), (.int x4)] 6 = mkF m 0 #[vr x0, vi x1, vr x2, vi x3, vi x4, .unset] [] := by first | (simp [entryFrame, mkF, argsToLocals, Value.category]; done) | rfl
set_option maxRecDepth 65536 in
set_option maxHeartbeats 40000000 in
theorem own_uinf2 (l : Launch) (Z : State) (a0 : Array Value) (hW : own_W Z a0) (t1 t2 : Nat) (k1 k2 : ClassId) (n : Nat) (vs : List Value) (d0 d1 : Int32) (h0 : Heap) (n0 : Nat) (Z0 : n0 ≤ h0.size) (O0 : Old Z n0 h0) (hn : n ≤ 3) (hi : 2 < n) (V1 : Arv Z h0 t1 k1 .byte (Int32.ofNat n) vs (.int (0 : Int32))) (V2 : Arv Z h0 t2 k2 .byte (Int32.ofNat (2 * n)) (List.replicate (2 * n) (.int (0 : Int32))) (.int (0 : Int32))) (g2 : n0 ≤ t2) (hne : t1 ≠ t2) (hv0 : vs.getD 0 (.int (0 : Int32)) = .int (StrChars.lo8 d0)) (hd0 : ¬ d0 < 0 ∧ ¬ (255 : Int32) < d0) (hv1 : vs.getD 1 (.int (0 : Int32)) = .int (StrChars.lo8 d1)) (hd1 : ¬ d1 < 0 ∧ ¬ (255 : Int32) < d1) :
    own_M l own_y30 own_c30 6 none (own_r 3 0 0 61) #[(.ref t1), (.int (0 : Int32)), (.ref t2), (.int (0 : Int32)), (.int (2 : Int32))] Z h0 (own_uinf2_Q Z t1 t2 k1 k2 n vs d0 d1 h0 n0) := by
  refine own_enter (own := "java/lang/StringUTF16") rfl (plainFor_of_name pn_java_lang_StringUTF16) (fun m => ef_own_uinf2 m t1 (0 : Int32) t2 (0 : Int32) (2 : Int32)) ?_
  intro p e s m below meth c s₁ Bd hZ hh hx hby hml hown hnm X0 e0
  obtain ⟨hw, ⟨G1, O2, P5⟩, ⟨G3, O4, rG3⟩, Oa, Oh, Ol⟩ := id hW
  have N0 := Fr.nil n0
  have K0 := Keep.refl h0 [t2]
  have lt1 := own_lt V1.lt
  have lt2 := own_lt V2.lt
  refine own_gs (cur' := s₁.setTop (mkF m 4 #[vr t1, vi (0 : Int32), vr t2, vi (0 : Int32), vi (2 : Int32), uu] [(.ref t2), (.int (2 : Int32)), (.int (0 : Int32))])) ?_ ?_
  · refine XS.iloadN X0.here hx rfl (hb hby d30_0) rfl ?_
    refine XS.iload X0.here hx rfl (hb hby d30_1) rfl ?_
    refine XS.aloadN X0.here hx rfl (hb hby d30_3) rfl rfl ?_
    exact Steps.refl _
  obtain ⟨_, _, ⟨T11, L11, k11, n11⟩, -, X11, ⟨Lc11, hQ11, l11, y11, z11⟩, st11⟩ := Jvm.LawKit.callS X0 hx (y := own_y29) hown (mvT hZ (tw_ hw 223 rfl)) (mvT hZ (tw_ hw 224 rfl)) (mvT hZ (tw_ hw 170 rfl)) (mvT hZ (tw_ hw 225 rfl)) (by decide) (backOf (W := 0) (own_cbo l Z a0 hW t2 k2 n 2 (List.replicate (2 * n) (.int (0 : Int32))) h0 n0 (by omega) O0 hn (by omega) V2) hZ (tw_ hw 225 rfl) (tw_ hw 170 rfl) (by decide) (by decide)) (g := (mkF m 4 #[vr t1, vi (0 : Int32), vr t2, vi (0 : Int32), vi (2 : Int32), uu] [(.ref t2), (.int (2 : Int32)), (.int (0 : Int32))])) rfl (by rw [hml]; rfl) (argsL := [(.int (0 : Int32)), (.int (2 : Int32)), (.ref t2)]) (rest := []) (lenOf pd_19 rfl) rfl (own_le rfl) (hb hby d30_4) (fun _ _ => ⟨rfl, e0, own_le rfl, own_le rfl⟩)
  dsimp only [Pt.U, Pt.locs, Pt.cells, Pt.slots] at X11 l11 y11 z11 st11 hQ11
  subst l11 y11 z11
  obtain ⟨rfl, Nq11, eh11⟩ := hQ11
  have N11 := Fr.app N0 Nq11
  refine own_go st11 ?_
  refine own_gs (cur' := T11.setTop (mkF m 27 #[vr t1, vi (1 : Int32), vr t2, vi (1 : Int32), vi (2 : Int32), vi (0 : Int32)] [(.int (0 : Int32)), (.ref t1), (.int (0 : Int32)), (.ref t2)])) ?_ ?_
  · refine XS.iconst X11.here hx rfl (hb hby d30_7) ?_
    refine XS.istore X11.here hx rfl (hb hby d30_8) rfl (l' := #[vr t1, vi (0 : Int32), vr t2, vi (0 : Int32), vi (2 : Int32), vi (0 : Int32)]) rfl ?_
    refine XS.iload X11.here hx rfl (hb hby d30_10) rfl ?_
    refine XS.iload X11.here hx rfl (hb hby d30_12) rfl ?_
    refine XS.icmpNo X11.here hx rfl (hb hby d30_14) rfl (tlt ((by decide) : (0 : Int32) < (2 : Int32))).2.1 ?_
    refine XS.aloadN X11.here hx rfl (hb hby d30_17) rfl rfl ?_
    refine XS.iloadN X11.here hx rfl (hb hby d30_18) rfl ?_
    refine XS.iinc X11.here hx rfl (hb hby d30_19) rfl (l' := #[vr t1, vi (0 : Int32), vr t2, vi (1 : Int32), vi (2 : Int32), vi (0 : Int32)]) rfl ?_
    show Steps p.tables e below (T11.setTop (mkF m 22 #[vr t1, vi (0 : Int32), vr t2, vi (1 : Int32), vi (2 : Int32), vi (0 : Int32)] [(.int (0 : Int32)), (.ref t2)])) _
    refine XS.aloadN X11.here hx rfl (hb hby d30_22) rfl rfl ?_
    refine XS.iloadN X11.here hx rfl (hb hby d30_23) rfl ?_
    refine XS.iinc X11.here hx rfl (hb hby d30_24) rfl (l' := #[vr t1, vi (1 : Int32), vr t2, vi (1 : Int32), vi (2 : Int32), vi (0 : Int32)]) rfl ?_
    exact Steps.refl _
  obtain ⟨cl12, Ar12, q12, S12, M12, Hs12, G12⟩ := id V1
  have hin12 : ¬ ((0 : Int32) < 0 ∨ cl12.slots.size ≤ ((0 : Int32)).toNatClampNeg) := inb_of S12 (own_in (a := 0) (b := n) (by omega) (by omega))
  have hat12 : cl12.slots[((0 : Int32)).toNatClampNeg]? = some (.int (StrChars.lo8 d0)) := Has.at Hs12 hin12 hv0
  refine own_go (X11.baloadBytes hx (j := (0 : Int32)) (v := (.int (StrChars.lo8 d0))) (by rw [eh11]; exact Ar12.1) (State.isArrayOf_alike hZ.alike Ar12.2.1) Ar12.2.2 hin12 hat12 (g := (mkF m 27 #[vr t1, vi (1 : Int32), vr t2, vi (1 : Int32), vi (2 : Int32), vi (0 : Int32)] [(.int (0 : Int32)), (.ref t1), (.int (0 : Int32)), (.ref t2)])) rfl rfl (hb hby d30_27)) ?_
  show own_Fin p e below (T11.setTop (mkF m 28 #[vr t1, vi (1 : Int32), vr t2, vi (1 : Int32), vi (2 : Int32), vi (0 : Int32)] [(.int (StrChars.lo8 d0)), (.int (0 : Int32)), (.ref t2)])) _
  refine own_gs (cur' := T11.setTop (mkF m 32 #[vr t1, vi (1 : Int32), vr t2, vi (1 : Int32), vi (2 : Int32), vi (0 : Int32)] [(.int ((StrChars.lo8 d0) &&& (255 : Int32))), (.int (0 : Int32)), (.ref t2)])) ?_ ?_
  · refine XS.sipush X11.here hx rfl (hb hby d30_28) ?_
    refine XS.iand X11.here hx rfl (hb hby d30_31) rfl ?_
    exact Steps.refl _
  rw [StrChars.lo8_mask hd0.1 hd0.2]
  show own_Fin p e below (T11.setTop (mkF m 32 #[vr t1, vi (1 : Int32), vr t2, vi (1 : Int32), vi (2 : Int32), vi (0 : Int32)] [(.int d0), (.int (0 : Int32)), (.ref t2)])) _
  obtain ⟨_, _, ⟨T13, L13, k13, n13⟩, -, X13, ⟨Lc13, hQ13, l13, y13, z13⟩, st13⟩ := Jvm.LawKit.callS X11 hx (y := own_y10) hown (mvT hZ (tw_ hw 192 rfl)) (mvT hZ (tw_ hw 193 rfl)) (mvT hZ (tw_ hw 170 rfl)) (mvT hZ (tw_ hw 194 rfl)) (by decide) (backOf (W := 0) (own_u_putc l Z a0 hW t2 k2 n 0 (List.replicate (2 * n) (.int (0 : Int32))) d0 h0 n0 (by omega) O0 (by omega) (by omega) (by simp only [List.length_set, List.length_replicate]) g2 V2) hZ (tw_ hw 194 rfl) (tw_ hw 170 rfl) (by decide) (by decide)) (g := (mkF m 32 #[vr t1, vi (1 : Int32), vr t2, vi (1 : Int32), vi (2 : Int32), vi (0 : Int32)] [(.int d0), (.int (0 : Int32)), (.ref t2)])) rfl (by rw [hml]; rfl) (argsL := [(.ref t2), (.int (0 : Int32)), (.int d0)]) (rest := []) (lenOf pd_9 rfl) rfl (own_le rfl) (hb hby d30_32) (fun _ _ => ⟨rfl, eh11, own_le rfl, own_le rfl⟩)
  dsimp only [Pt.U, Pt.locs, Pt.cells, Pt.slots] at X13 l13 y13 z13 st13 hQ13
  subst l13 y13 z13
  obtain ⟨rfl, Nq13, Kq13, Vt13⟩ := hQ13
  have N13 := Fr.app N11 Nq13
  have z14 := Kq13.1
  have K14 := K0.trans Kq13 (allS (Or.inl (List.mem_of_getElem? (i := 0) rfl)) all0)
  have O14 := O0.keep Kq13 (allS (by omega) all0)
  refine own_go st13 ?_
  refine own_gs (cur' := T13.setTop (mkF m 27 #[vr t1, vi (2 : Int32), vr t2, vi (2 : Int32), vi (2 : Int32), vi (1 : Int32)] [(.int (1 : Int32)), (.ref t1), (.int (1 : Int32)), (.ref t2)])) ?_ ?_
  · refine XS.iinc X13.here hx rfl (hb hby d30_35) rfl (l' := #[vr t1, vi (1 : Int32), vr t2, vi (1 : Int32), vi (2 : Int32), vi (1 : Int32)]) rfl ?_
    refine XS.goto X13.here hx rfl (pc0 := 38) (pc' := 10) rfl (hb hby d30_38) (by decide) (by decide) ?_
    refine XS.iload X13.here hx rfl (hb hby d30_10) rfl ?_
    refine XS.iload X13.here hx rfl (hb hby d30_12) rfl ?_
    refine XS.icmpNo X13.here hx rfl (hb hby d30_14) rfl (tlt ((by decide) : (1 : Int32) < (2 : Int32))).2.1 ?_
    refine XS.aloadN X13.here hx rfl (hb hby d30_17) rfl rfl ?_
    refine XS.iloadN X13.here hx rfl (hb hby d30_18) rfl ?_
    refine XS.iinc X13.here hx rfl (hb hby d30_19) rfl (l' := #[vr t1, vi (1 : Int32), vr t2, vi (2 : Int32), vi (2 : Int32), vi (1 : Int32)]) rfl ?_
    show Steps p.tables e below (T13.setTop (mkF m 22 #[vr t1, vi (1 : Int32), vr t2, vi (2 : Int32), vi (2 : Int32), vi (1 : Int32)] [(.int (1 : Int32)), (.ref t2)])) _
    refine XS.aloadN X13.here hx rfl (hb hby d30_22) rfl rfl ?_
    refine XS.iloadN X13.here hx rfl (hb hby d30_23) rfl ?_
    refine XS.iinc X13.here hx rfl (hb hby d30_24) rfl (l' := #[vr t1, vi (2 : Int32), vr t2, vi (2 : Int32), vi (2 : Int32), vi (1 : Int32)]) rfl ?_
    exact Steps.refl _
  have f16 := (V1.keep Kq13 (ninS (own_ne (a := t1) (b := t2) (by omega)) nin0))
  obtain ⟨cl15, Ar15, q15, S15, M15, Hs15, G15⟩ := id f16
  have hin15 : ¬ ((1 : Int32) < 0 ∨ cl15.slots.size ≤ ((1 : Int32)).toNatClampNeg) := inb_of S15 (own_in (a := 1) (b := n) (by omega) (by omega))
  have hat15 : cl15.slots[((1 : Int32)).toNatClampNeg]? = some (.int (StrChars.lo8 d1)) := Has.at Hs15 hin15 hv1
  refine own_go (X13.baloadBytes hx (j := (1 : Int32)) (v := (.int (StrChars.lo8 d1))) (by exact Ar15.1) (State.isArrayOf_alike hZ.alike Ar15.2.1) Ar15.2.2 hin15 hat15 (g := (mkF m 27 #[vr t1, vi (2 : Int32), vr t2, vi (2 : Int32), vi (2 : Int32), vi (1 : Int32)] [(.int (1 : Int32)), (.ref t1), (.int (1 : Int32)), (.ref t2)])) rfl rfl (hb hby d30_27)) ?_
  show own_Fin p e below (T13.setTop (mkF m 28 #[vr t1, vi (2 : Int32), vr t2, vi (2 : Int32), vi (2 : Int32), vi (1 : Int32)] [(.int (StrChars.lo8 d1)), (.int (1 : Int32)), (.ref t2)])) _
  refine own_gs (cur' := T13.setTop (mkF m 32 #[vr t1, vi (2 : Int32), vr t2, vi (2 : Int32), vi (2 : Int32), vi (1 : Int32)] [(.int ((StrChars.lo8 d1) &&& (255 : Int32))), (.int (1 : Int32)), (.ref t2)])) ?_ ?_
  · refine XS.sipush X13.here hx rfl (hb hby d30_28) ?_
    refine XS.iand X13.here hx rfl (hb hby d30_31) rfl ?_
    exact Steps.refl _
  rw [StrChars.lo8_mask hd1.1 hd1.2]
  show own_Fin p e below (T13.setTop (mkF m 32 #[vr t1, vi (2 : Int32), vr t2, vi (2 : Int32), vi (2 : Int32), vi (1 : Int32)] [(.int d1), (.int (1 : Int32)), (.ref t2)])) _
  obtain ⟨_, _, ⟨T17, L17, k17, n17⟩, -, X17, ⟨Lc17, hQ17, l17, y17, z17⟩, st17⟩ := Jvm.LawKit.callS X13 hx (y := own_y10) hown (mvT hZ (tw_ hw 192 rfl)) (mvT hZ (tw_ hw 193 rfl)) (mvT hZ (tw_ hw 170 rfl)) (mvT hZ (tw_ hw 194 rfl)) (by decide) (backOf (W := 0) (own_u_putc l Z a0 hW t2 k2 n 1 (((List.replicate (2 * n) (.int (0 : Int32))).set (2 * 0) (.int (StrChars.lo8 d0))).set (2 * 0 + 1) (.int (StrChars.hi8 d0))) d1 T13.heap n0 (by omega) O14 (by omega) (by omega) (by simp only [List.length_set, List.length_replicate]) g2 Vt13) hZ (tw_ hw 194 rfl) (tw_ hw 170 rfl) (by decide) (by decide)) (g := (mkF m 32 #[vr t1, vi (2 : Int32), vr t2, vi (2 : Int32), vi (2 : Int32), vi (1 : Int32)] [(.int d1), (.int (1 : Int32)), (.ref t2)])) rfl (by rw [hml]; rfl) (argsL := [(.ref t2), (.int (1 : Int32)), (.int d1)]) (rest := []) (lenOf pd_9 rfl) rfl (own_le rfl) (hb hby d30_32) (fun _ _ => ⟨rfl, rfl, own_le rfl, own_le rfl⟩)
  dsimp only [Pt.U, Pt.locs, Pt.cells, Pt.slots] at X17 l17 y17 z17 st17 hQ17
  subst l17 y17 z17
  obtain ⟨rfl, Nq17, Kq17, Vt17⟩ := hQ17
  have N17 := Fr.app N13 Nq17
  have z18 := Kq17.1
  have K18 := K14.trans Kq17 (allS (Or.inl (List.mem_of_getElem? (i := 0) rfl)) all0)
  have O18 := O14.keep Kq17 (allS (by omega) all0)
  refine own_go st17 ?_
  refine own_gs (cur' := T17.setTop (mkF m 41 #[vr t1, vi (2 : Int32), vr t2, vi (2 : Int32), vi (2 : Int32), vi (2 : Int32)] [])) ?_ ?_
  · refine XS.iinc X17.here hx rfl (hb hby d30_35) rfl (l' := #[vr t1, vi (2 : Int32), vr t2, vi (2 : Int32), vi (2 : Int32), vi (2 : Int32)]) rfl ?_
    refine XS.goto X17.here hx rfl (pc0 := 38) (pc' := 10) rfl (hb hby d30_38) (by decide) (by decide) ?_
    refine XS.iload X17.here hx rfl (hb hby d30_10) rfl ?_
    refine XS.iload X17.here hx rfl (hb hby d30_12) rfl ?_
    refine XS.icmpYes X17.here hx rfl (pc0 := 14) (pc' := 41) rfl (hb hby d30_14) rfl (flt ((by decide) : ¬ ((2 : Int32) < (2 : Int32)))).2.1 (by decide) (by decide) ?_
    exact Steps.refl _
  exact own_rV X17 Bd (hb hby d30_41) rfl (⟨rfl, N17, K18, Vt17⟩) rfl rfl
def own_linf2_Q (Z : State) (t1 t2 : Nat) (k1 k2 : ClassId) (n : Nat) (vs : List Value) (d0 d1 : Int32) (h0 : Heap) (n0 : Nat) (v : Option Value) (h : Heap) (L : List Loc) : Prop := v = none ∧ Fr n0 L ∧ Keep h0 h [t2] ∧ Arv Z h t2 k2 .byte (Int32.ofNat (2 * n)) (own_puts (List.replicate (2 * n) (.int (0 : Int32))) 0 [d0, d1]) (.int (0 : Int32))
theorem ef_own_linf2 (m : MethodId) (x0 : Nat) (x1 : Int32) (x2 : Nat) (x3 : Int32) (x4 : Int32) : entryFrame m #[(.ref x0), (.int x1), (.ref x2), (.int x3), (.int x4)] 5 = mkF m 0 #[vr x0, vi x1, vr x2, vi x3, vi x4] [] := by first | (simp [entryFrame, mkF, argsToLocals, Value.category]; done) | rfl
set_option maxRecDepth 65536 in
set_option maxHeartbeats 40000000 in
theorem own_linf2 (l : Launch) (Z : State) (a0 : Array Value) (hW : own_W Z a0) (t1 t2 : Nat) (k1 k2 : ClassId) (n : Nat) (vs : List Value) (d0 d1 : Int32) (h0 : Heap) (n0 : Nat) (Z0 : n0 ≤ h0.size) (O0 : Old Z n0 h0) (hn : n ≤ 3) (hi : 2 < n) (V1 : Arv Z h0 t1 k1 .byte (Int32.ofNat n) vs (.int (0 : Int32))) (V2 : Arv Z h0 t2 k2 .byte (Int32.ofNat (2 * n)) (List.replicate (2 * n) (.int (0 : Int32))) (.int (0 : Int32))) (g2 : n0 ≤ t2) (hne : t1 ≠ t2) (hv0 : vs.getD 0 (.int (0 : Int32)) = .int (StrChars.lo8 d0)) (hd0 : ¬ d0 < 0 ∧ ¬ (255 : Int32) < d0) (hv1 : vs.getD 1 (.int (0 : Int32)) = .int (StrChars.lo8 d1)) (hd1 : ¬ d1 < 0 ∧ ¬ (255 : Int32) < d1) :
    own_M l own_y31 own_c31 5 none (own_r 4 0 0 84) #[(.ref t1), (.int (0 : Int32)), (.ref t2), (.int (0 : Int32)), (.int (2 : Int32))] Z h0 (own_linf2_Q Z t1 t2 k1 k2 n vs d0 d1 h0 n0) := by
  refine own_enter (own := "java/lang/StringLatin1") rfl (plainFor_of_name pn_java_lang_StringLatin1) (fun m => ef_own_linf2 m t1 (0 : Int32) t2 (0 : Int32) (2 : Int32)) ?_
  intro p e s m below meth c s₁ Bd hZ hh hx hby hml hown hnm X0 e0
  obtain ⟨hw, ⟨G1, O2, P5⟩, ⟨G3, O4, rG3⟩, Oa, Oh, Ol⟩ := id hW
  have N0 := Fr.nil n0
  have K0 := Keep.refl h0 [t2]
  have lt1 := own_lt V1.lt
  have lt2 := own_lt V2.lt
  refine own_gs (cur' := s₁.setTop (mkF m 6 #[vr t1, vi (0 : Int32), vr t2, vi (0 : Int32), vi (2 : Int32)] [(.int (2 : Int32)), (.int (0 : Int32)), (.ref t2), (.int (0 : Int32)), (.ref t1)])) ?_ ?_
  · refine XS.aloadN X0.here hx rfl (hb hby d31_0) rfl rfl ?_
    refine XS.iloadN X0.here hx rfl (hb hby d31_1) rfl ?_
    refine XS.aloadN X0.here hx rfl (hb hby d31_2) rfl rfl ?_
    refine XS.iloadN X0.here hx rfl (hb hby d31_3) rfl ?_
    refine XS.iload X0.here hx rfl (hb hby d31_4) rfl ?_
    exact Steps.refl _
  obtain ⟨_, _, ⟨T11, L11, k11, n11⟩, -, X11, ⟨Lc11, hQ11, l11, y11, z11⟩, st11⟩ := Jvm.LawKit.callS X0 hx (y := own_y30) hown (mvT hZ (tw_ hw 220 rfl)) (mvT hZ (tw_ hw 221 rfl)) (mvT hZ (tw_ hw 170 rfl)) (mvT hZ (tw_ hw 222 rfl)) (by decide) (backOf (W := 0) (own_uinf2 l Z a0 hW t1 t2 k1 k2 n vs d0 d1 h0 n0 (by omega) O0 hn hi V1 V2 g2 hne hv0 hd0 hv1 hd1) hZ (tw_ hw 222 rfl) (tw_ hw 170 rfl) (by decide) (by decide)) (g := (mkF m 6 #[vr t1, vi (0 : Int32), vr t2, vi (0 : Int32), vi (2 : Int32)] [(.int (2 : Int32)), (.int (0 : Int32)), (.ref t2), (.int (0 : Int32)), (.ref t1)])) rfl (by rw [hml]; rfl) (argsL := [(.ref t1), (.int (0 : Int32)), (.ref t2), (.int (0 : Int32)), (.int (2 : Int32))]) (rest := []) (lenOf pd_20 rfl) rfl (own_le rfl) (hb hby d31_6) (fun _ _ => ⟨rfl, e0, own_le rfl, own_le rfl⟩)
  dsimp only [Pt.U, Pt.locs, Pt.cells, Pt.slots] at X11 l11 y11 z11 st11 hQ11
  subst l11 y11 z11
  obtain ⟨rfl, Nq11, Kq11, Vt11⟩ := hQ11
  have N11 := Fr.app N0 Nq11
  have z12 := Kq11.1
  have K12 := K0.trans Kq11 (allS (Or.inl (List.mem_of_getElem? (i := 0) rfl)) all0)
  have O12 := O0.keep Kq11 (allS (by omega) all0)
  refine own_go st11 ?_
  exact own_rV X11 Bd (hb hby d31_9) rfl (⟨rfl, N11, K12, Vt11⟩) rfl rfl
def own_inf2_Q (Z : State) (b1 t1 : Nat) (k1 : ClassId) (n : Nat) (vs : List Value) (d0 d1 : Int32) (h0 : Heap) (n0 : Nat) (v : Option Value) (h : Heap) (L : List Loc) : Prop := ∃ (t : Nat) (k : ClassId), v = none ∧ Fr n0 L ∧ Keep h0 h [b1] ∧ Exa Z h b1 "java/lang/StringBuilder" ∧ Fld Z h b1 "java/lang/AbstractStringBuilder" "value" "[B" (.ref t) ∧ Fld Z h b1 "java/lang/AbstractStringBuilder" "coder" "B" (.int (1 : Int32)) ∧ Fld Z h b1 "java/lang/AbstractStringBuilder" "count" "I" (.int (2 : Int32)) ∧ Fld Z h b1 "java/lang/AbstractStringBuilder" "maybeLatin1" "Z" (.int (0 : Int32)) ∧ Arv Z h t k .byte (Int32.ofNat (2 * n)) (own_puts (List.replicate (2 * n) (.int (0 : Int32))) 0 [d0, d1]) (.int (0 : Int32)) ∧ Z.vm.findClass "[B" = some k ∧ h0.size ≤ t
theorem ef_own_inf2 (m : MethodId) (x0 : Nat) : entryFrame m #[(.ref x0)] 2 = mkF m 0 #[vr x0, .unset] [] := by first | (simp [entryFrame, mkF, argsToLocals, Value.category]; done) | rfl
set_option maxRecDepth 65536 in
set_option maxHeartbeats 40000000 in
theorem own_inf2 (l : Launch) (Z : State) (a0 : Array Value) (hW : own_W Z a0) (b1 t1 : Nat) (k1 : ClassId) (n : Nat) (vs : List Value) (d0 d1 : Int32) (h0 : Heap) (n0 : Nat) (Z0 : n0 ≤ h0.size) (O0 : Old Z n0 h0) (hn : n ≤ 3) (hi : 2 < n) (E1 : Exa Z h0 b1 "java/lang/StringBuilder") (Fv1 : Fld Z h0 b1 "java/lang/AbstractStringBuilder" "value" "[B" (.ref t1)) (Fc1 : Fld Z h0 b1 "java/lang/AbstractStringBuilder" "coder" "B" (.int (0 : Int32))) (Fn1 : Fld Z h0 b1 "java/lang/AbstractStringBuilder" "count" "I" (.int (2 : Int32))) (Fm1 : Fld Z h0 b1 "java/lang/AbstractStringBuilder" "maybeLatin1" "Z" (.int (0 : Int32))) (V1 : Arv Z h0 t1 k1 .byte (Int32.ofNat n) vs (.int (0 : Int32))) (g1 : n0 ≤ b1) (hbt : b1 ≠ t1) (hv0 : vs.getD 0 (.int (0 : Int32)) = .int (StrChars.lo8 d0)) (hd0 : ¬ d0 < 0 ∧ ¬ (255 : Int32) < d0) (hv1 : vs.getD 1 (.int (0 : Int32)) = .int (StrChars.lo8 d1)) (hd1 : ¬ d1 < 0 ∧ ¬ (255 : Int32) < d1) :
    own_M l own_y32 own_c32 2 none (own_r 5 1 6 106) #[(.ref b1)] Z h0 (own_inf2_Q Z b1 t1 k1 n vs d0 d1 h0 n0) := by
  refine own_enter (own := "java/lang/AbstractStringBuilder") rfl (plainFor_of_name pn_java_lang_AbstractStringBuilder) (fun m => ef_own_inf2 m b1) ?_
  intro p e s m below meth c s₁ Bd hZ hh hx hby hml hown hnm X0 e0
  obtain ⟨hw, ⟨G1, O2, P5⟩, ⟨G3, O4, rG3⟩, Oa, Oh, Ol⟩ := id hW
  have N0 := Fr.nil n0
  have K0 := Keep.refl h0 [b1]
  have lt1 := own_lt E1.lt
  have lt2 := own_lt V1.lt
  refine own_gs (cur' := s₁.setTop (mkF m 1 #[vr b1, uu] [(.ref b1)])) ?_ ?_
  · refine XS.aloadN X0.here hx rfl (hb hby d32_0) rfl rfl ?_
    exact Steps.refl _
  obtain ⟨cq11, kq11, q11a, q11b, q11c⟩ := isOf hZ e0 E1
  obtain ⟨_, _, ⟨T11, L11, k11, n11⟩, -, X11, ⟨Lc11, hQ11, l11, y11, z11⟩, st11⟩ := X0.virtualBack hx (y := own_y24) (z := own_y24) hown (mvT hZ (tw_ hw 110 rfl)) (mvT hZ (tw_ hw 111 rfl)) (notFace_of_selects (args := #[]) (mvT hZ (tw_ hw 113 rfl))) (mvT hZ (tw_ hw 113 rfl)) (mvT hZ (tw_ hw 112 rfl)) (by decide) (backOf (W := 0) (own_ais0 l Z a0 hW b1 h0 n0 (by omega) O0 Fc1) hZ (tw_ hw 114 rfl) (tw_ hw 57 rfl) (by decide) (by decide)) q11a q11c (g := (mkF m 1 #[vr b1, uu] [(.ref b1)])) rfl (by rw [hml]; rfl) (Steps.refl _) (argsL := []) (rest := []) (lenOf pd_6 rfl) rfl (own_le rfl) (hb hby d32_1) (fun _ _ => ⟨rfl, e0, own_le rfl, own_le rfl⟩)
  dsimp only [Pt.U, Pt.locs, Pt.cells, Pt.slots] at X11 l11 y11 z11 st11 hQ11
  subst l11 y11 z11
  obtain ⟨rfl, Nq11, eh11⟩ := hQ11
  have N11 := Fr.app N0 Nq11
  refine own_gs st11 ?_
  refine own_gs (cur' := T11.setTop (mkF m 9 #[vr b1, uu] [(.ref b1)])) ?_ ?_
  · refine XS.ifYes X11.here hx rfl (pc0 := 4) (pc' := 8) rfl (hb hby d32_4) rfl ((if0 _ _).trans (feq ((by decide) : ¬ ((1 : Int32) = (0 : Int32)))).2) (by decide) (by decide) ?_
    refine XS.aloadN X11.here hx rfl (hb hby d32_8) rfl rfl ?_
    exact Steps.refl _
  obtain ⟨T12, X12, e12, st12⟩ := getF X11 hx hZ hown (host := "") (Or.inl (tw_ hw 61 rfl)) Via.refl eh11 Fv1 (g := (mkF m 9 #[vr b1, uu] [(.ref b1)])) rfl rfl (hb hby d32_9)
  refine own_go st12 ?_
  obtain ⟨cl13, Ar13, q13, S13, M13, Hs13, G13⟩ := id V1
  refine own_go (X12.arraylength hx (by rw [e12]; exact Ar13.1) (State.isArrayOf_alike hZ.alike Ar13.2.1) (g := (mkF m 12 #[vr b1, uu] [(.ref t1)])) rfl rfl (hb hby d32_12)) ?_
  rw [len_of S13 M13]
  show own_Fin p e below (T12.setTop (mkF m 13 #[vr b1, uu] [(.int (Int32.ofNat n))])) _
  obtain ⟨_, _, ⟨T14, L14, k14, n14⟩, -, X14, ⟨Lc14, hQ14, l14, y14, z14⟩, st14⟩ := Jvm.LawKit.callS X12 hx (y := own_y12) hown (mvT hZ (tw_ hw 216 rfl)) (mvT hZ (tw_ hw 186 rfl)) (mvT hZ (tw_ hw 170 rfl)) (mvT hZ (tw_ hw 187 rfl)) (by decide) (backOf (W := 0) (own_nbfg l Z a0 hW n h0 n0 (by omega) O0 hn) hZ (tw_ hw 187 rfl) (tw_ hw 170 rfl) (by decide) (by decide)) (g := (mkF m 13 #[vr b1, uu] [(.int (Int32.ofNat n))])) rfl (by rw [hml]; rfl) (argsL := [(.int (Int32.ofNat n))]) (rest := []) (lenOf pd_8 rfl) rfl (own_le rfl) (hb hby d32_13) (fun _ _ => ⟨rfl, e12, own_le rfl, own_le rfl⟩)
  dsimp only [Pt.U, Pt.locs, Pt.cells, Pt.slots] at X14 l14 y14 z14 st14 hQ14
  subst l14 y14 z14
  obtain ⟨t14, kb14, rfl, Nq14, Kq14, Vt14, fc14, ge14⟩ := hQ14
  have N14 := Fr.app N11 Nq14
  have z15 := Kq14.1
  have K15 := K0.trans Kq14 all0
  have O15 := O0.keep Kq14 all0
  have lt14 := own_lt Vt14.lt
  refine own_go st14 ?_
  refine own_gs (cur' := T14.setTop (mkF m 18 #[vr b1, vr t14] [(.ref b1)])) ?_ ?_
  · refine XS.astoreN X14.here hx rfl (hb hby d32_16) rfl rfl (l' := #[vr b1, vr t14]) rfl ?_
    refine XS.aloadN X14.here hx rfl (hb hby d32_17) rfl rfl ?_
    exact Steps.refl _
  have f17 := (Fv1.keep Kq14 nin0)
  obtain ⟨T16, X16, e16, st16⟩ := getF X14 hx hZ hown (host := "") (Or.inl (tw_ hw 61 rfl)) Via.refl rfl f17 (g := (mkF m 18 #[vr b1, vr t14] [(.ref b1)])) rfl rfl (hb hby d32_18)
  refine own_go st16 ?_
  refine own_gs (cur' := T16.setTop (mkF m 25 #[vr b1, vr t14] [(.ref b1), (.int (0 : Int32)), (.ref t14), (.int (0 : Int32)), (.ref t1)])) ?_ ?_
  · refine XS.iconst X16.here hx rfl (hb hby d32_21) ?_
    refine XS.aloadN X16.here hx rfl (hb hby d32_22) rfl rfl ?_
    refine XS.iconst X16.here hx rfl (hb hby d32_23) ?_
    refine XS.aloadN X16.here hx rfl (hb hby d32_24) rfl rfl ?_
    exact Steps.refl _
  have f19 := (Fn1.keep Kq14 nin0)
  obtain ⟨T18, X18, e18, st18⟩ := getF X16 hx hZ hown (host := "") (Or.inl (tw_ hw 103 rfl)) Via.refl e16 f19 (g := (mkF m 25 #[vr b1, vr t14] [(.ref b1), (.int (0 : Int32)), (.ref t14), (.int (0 : Int32)), (.ref t1)])) rfl rfl (hb hby d32_25)
  refine own_go st18 ?_
  have f20 := (V1.keep Kq14 nin0)
  obtain ⟨_, _, ⟨T21, L21, k21, n21⟩, -, X21, ⟨Lc21, hQ21, l21, y21, z21⟩, st21⟩ := Jvm.LawKit.callS X18 hx (y := own_y31) hown (mvT hZ (tw_ hw 217 rfl)) (mvT hZ (tw_ hw 218 rfl)) (mvT hZ (tw_ hw 14 rfl)) (mvT hZ (tw_ hw 219 rfl)) (by decide) (backOf (W := 0) (own_linf2 l Z a0 hW t1 t14 k1 kb14 n vs d0 d1 T14.heap n0 (by omega) O15 hn hi f20 Vt14 (by omega) (by omega) hv0 hd0 hv1 hd1) hZ (tw_ hw 219 rfl) (tw_ hw 14 rfl) (by decide) (by decide)) (g := (mkF m 28 #[vr b1, vr t14] [(.int (2 : Int32)), (.int (0 : Int32)), (.ref t14), (.int (0 : Int32)), (.ref t1)])) rfl (by rw [hml]; rfl) (argsL := [(.ref t1), (.int (0 : Int32)), (.ref t14), (.int (0 : Int32)), (.int (2 : Int32))]) (rest := []) (lenOf pd_20 rfl) rfl (own_le rfl) (hb hby d32_28) (fun _ _ => ⟨rfl, e18, own_le rfl, own_le rfl⟩)
  dsimp only [Pt.U, Pt.locs, Pt.cells, Pt.slots] at X21 l21 y21 z21 st21 hQ21
  subst l21 y21 z21
  obtain ⟨rfl, Nq21, Kq21, Vt21⟩ := hQ21
  have N21 := Fr.app N14 Nq21
  have z22 := Kq21.1
  have K22 := K15.trans Kq21 (allS (Or.inr (by omega)) all0)
  have O22 := O15.keep Kq21 (allS (by omega) all0)
  refine own_go st21 ?_
  refine own_gs (cur' := T21.setTop (mkF m 33 #[vr b1, vr t14] [(.ref t14), (.ref b1)])) ?_ ?_
  · refine XS.aloadN X21.here hx rfl (hb hby d32_31) rfl rfl ?_
    refine XS.aloadN X21.here hx rfl (hb hby d32_32) rfl rfl ?_
    exact Steps.refl _
  have f24 := (f17.keep Kq21 (ninS (own_ne (a := b1) (b := t14) (by omega)) nin0))
  have f25 := ((E1.keep Kq14).keep Kq21)
  obtain ⟨T23, h23, X23, e23, W23, st23⟩ := putF X21 hx hZ hown (host := "") (Or.inl (tw_ hw 61 rfl)) Via.refl rfl f24 f25 (Or.inl (tw_ hw 62 rfl)) (tw_ hw 38 rfl) (ty := (.array .byte)) (by decide) rfl rfl (g := (mkF m 33 #[vr b1, vr t14] [(.ref t14), (.ref b1)])) rfl rfl (hb hby d32_33)
  have F23 := f24.same W23
  refine own_go st23 ?_
  have z26 := W23.size
  have K26 := K22.wr W23 (Or.inl (List.mem_of_getElem? (i := 0) rfl))
  have O26 := O22.wr W23 (by omega)
  have N26 := Fr.snoc X23 N21 (by omega)
  refine own_gs (cur' := T23.setTop (mkF m 38 #[vr b1, vr t14] [(.int (1 : Int32)), (.ref b1)])) ?_ ?_
  · refine XS.aloadN X23.here hx rfl (hb hby d32_36) rfl rfl ?_
    refine XS.iconst X23.here hx rfl (hb hby d32_37) ?_
    exact Steps.refl _
  have f28 := (((Fc1.keep Kq14 nin0).keep Kq21 (ninS (own_ne (a := b1) (b := t14) (by omega)) nin0)).other W23 (Or.inr (slot_ne (Or.inl (tw_ hw 64 rfl)) (Or.inl (tw_ hw 62 rfl)) (by decide) (t := .byte) (t' := (.array .byte)) (by decide) (by decide))))
  have f29 := (f25.wr W23)
  obtain ⟨T27, h27, X27, e27, W27, st27⟩ := putF X23 hx hZ hown (host := "") (Or.inl (tw_ hw 63 rfl)) Via.refl e23 f28 f29 (Or.inl (tw_ hw 64 rfl)) (tw_ hw 38 rfl) (ty := .byte) (by decide) rfl rfl (g := (mkF m 38 #[vr b1, vr t14] [(.int (1 : Int32)), (.ref b1)])) rfl rfl (hb hby d32_38)
  have F27 := f28.same W27
  refine own_go st27 ?_
  have z30 := W27.size
  have K30 := K26.wr W27 (Or.inl (List.mem_of_getElem? (i := 0) rfl))
  have O30 := O26.wr W27 (by omega)
  have N30 := Fr.snoc X27 N26 (by omega)
  have f31 := (f29.wr W27)
  have f32 := (F23.other W27 (Or.inr (slot_ne (Or.inl (tw_ hw 62 rfl)) (Or.inl (tw_ hw 64 rfl)) (by decide) (t := (.array .byte)) (t' := .byte) (by decide) (by decide))))
  have f33 := (((f19.keep Kq21 (ninS (own_ne (a := b1) (b := t14) (by omega)) nin0)).other W23 (Or.inr (slot_ne (Or.inl (tw_ hw 104 rfl)) (Or.inl (tw_ hw 62 rfl)) (by decide) (t := .int) (t' := (.array .byte)) (by decide) (by decide)))).other W27 (Or.inr (slot_ne (Or.inl (tw_ hw 104 rfl)) (Or.inl (tw_ hw 64 rfl)) (by decide) (t := .int) (t' := .byte) (by decide) (by decide))))
  have f34 := ((((Fm1.keep Kq14 nin0).keep Kq21 (ninS (own_ne (a := b1) (b := t14) (by omega)) nin0)).other W23 (Or.inr (slot_ne (Or.inl (tw_ hw 236 rfl)) (Or.inl (tw_ hw 62 rfl)) (by decide) (t := .boolean) (t' := (.array .byte)) (by decide) (by decide)))).other W27 (Or.inr (slot_ne (Or.inl (tw_ hw 236 rfl)) (Or.inl (tw_ hw 64 rfl)) (by decide) (t := .boolean) (t' := .byte) (by decide) (by decide))))
  have f35 := ((Vt21.other W23 (own_ne (a := t14) (b := b1) (by omega))).other W27 (own_ne (a := t14) (b := b1) (by omega)))
  exact own_rV X27 Bd (hb hby d32_41) e27 (⟨_, _, rfl, N30, K30, f31, f32, F27, f33, f34, f35, fc14, (by omega)⟩) rfl rfl
def own_aapi2_Q (Z : State) (b1 t1 : Nat) (k1 : ClassId) (n : Nat) (vs : List Value) (d0 d1 : Int32) (c0 : Int32) (h0 : Heap) (n0 : Nat) (v : Option Value) (h : Heap) (L : List Loc) : Prop := ∃ (t : Nat) (k : ClassId), v = some (.ref b1) ∧ Fr n0 L ∧ Keep h0 h [b1] ∧ Exa Z h b1 "java/lang/StringBuilder" ∧ Fld Z h b1 "java/lang/AbstractStringBuilder" "value" "[B" (.ref t) ∧ Fld Z h b1 "java/lang/AbstractStringBuilder" "coder" "B" (.int (1 : Int32)) ∧ Fld Z h b1 "java/lang/AbstractStringBuilder" "count" "I" (.int (3 : Int32)) ∧ Fld Z h b1 "java/lang/AbstractStringBuilder" "maybeLatin1" "Z" (.int (0 : Int32)) ∧ Arv Z h t k .byte (Int32.ofNat (2 * n)) (own_puts (List.replicate (2 * n) (.int (0 : Int32))) 0 [d0, d1, c0]) (.int (0 : Int32)) ∧ Z.vm.findClass "[B" = some k ∧ h0.size ≤ t
theorem ef_own_aapi2 (m : MethodId) (x0 : Nat) (x1 : Int32) : entryFrame m #[(.ref x0), (.int x1)] 2 = mkF m 0 #[vr x0, vi x1] [] := by first | (simp [entryFrame, mkF, argsToLocals, Value.category]; done) | rfl
set_option maxRecDepth 65536 in
set_option maxHeartbeats 40000000 in
theorem own_aapi2 (l : Launch) (Z : State) (a0 : Array Value) (hW : own_W Z a0) (b1 t1 : Nat) (k1 : ClassId) (n : Nat) (vs : List Value) (d0 d1 : Int32) (c0 : Int32) (h0 : Heap) (n0 : Nat) (Z0 : n0 ≤ h0.size) (O0 : Old Z n0 h0) (hn : n ≤ 3) (hi : 2 < n) (E1 : Exa Z h0 b1 "java/lang/StringBuilder") (Fv1 : Fld Z h0 b1 "java/lang/AbstractStringBuilder" "value" "[B" (.ref t1)) (Fc1 : Fld Z h0 b1 "java/lang/AbstractStringBuilder" "coder" "B" (.int (0 : Int32))) (Fn1 : Fld Z h0 b1 "java/lang/AbstractStringBuilder" "count" "I" (.int (2 : Int32))) (Fm1 : Fld Z h0 b1 "java/lang/AbstractStringBuilder" "maybeLatin1" "Z" (.int (0 : Int32))) (V1 : Arv Z h0 t1 k1 .byte (Int32.ofNat n) vs (.int (0 : Int32))) (g1 : n0 ≤ b1) (hbt : b1 ≠ t1) (hv0 : vs.getD 0 (.int (0 : Int32)) = .int (StrChars.lo8 d0)) (hd0 : ¬ d0 < 0 ∧ ¬ (255 : Int32) < d0) (hv1 : vs.getD 1 (.int (0 : Int32)) = .int (StrChars.lo8 d1)) (hd1 : ¬ d1 < 0 ∧ ¬ (255 : Int32) < d1) (hce : (255 : Int32) < c0) :
    own_M l own_y33 own_c33 2 (some (.object "java/lang/AbstractStringBuilder")) (own_r 6 1 6 125) #[(.ref b1), (.int c0)] Z h0 (own_aapi2_Q Z b1 t1 k1 n vs d0 d1 c0 h0 n0) := by
  refine own_enter (own := "java/lang/AbstractStringBuilder") rfl (plainFor_of_name pn_java_lang_AbstractStringBuilder) (fun m => ef_own_aapi2 m b1 c0) ?_
  intro p e s m below meth c s₁ Bd hZ hh hx hby hml hown hnm X0 e0
  obtain ⟨hw, ⟨G1, O2, P5⟩, ⟨G3, O4, rG3⟩, Oa, Oh, Ol⟩ := id hW
  have N0 := Fr.nil n0
  have K0 := Keep.refl h0 [b1]
  have lt1 := own_lt E1.lt
  have lt2 := own_lt V1.lt
  refine own_gs (cur' := s₁.setTop (mkF m 2 #[vr b1, vi c0] [(.ref b1), (.ref b1)])) ?_ ?_
  · refine XS.aloadN X0.here hx rfl (hb hby d33_0) rfl rfl ?_
    refine XS.aloadN X0.here hx rfl (hb hby d33_1) rfl rfl ?_
    exact Steps.refl _
  obtain ⟨T11, X11, e11, st11⟩ := getF X0 hx hZ hown (host := "") (Or.inl (tw_ hw 103 rfl)) Via.refl e0 Fn1 (g := (mkF m 2 #[vr b1, vi c0] [(.ref b1), (.ref b1)])) rfl rfl (hb hby d33_2)
  refine own_go st11 ?_
  refine own_gs (cur' := T11.setTop (mkF m 7 #[vr b1, vi c0] [(.int (3 : Int32)), (.ref b1)])) ?_ ?_
  · refine XS.iconst X11.here hx rfl (hb hby d33_5) ?_
    refine XS.iadd X11.here hx rfl (hb hby d33_6) rfl ?_
    exact Steps.refl _
  obtain ⟨cq12, q12, q12'⟩ := own_cell E1
  obtain ⟨_, _, ⟨T12, L12, k12, n12⟩, -, X12, ⟨Lc12, hQ12, l12, y12, z12⟩, st12⟩ := X11.privateBack hx (y := own_y25) hown (mvT hZ (tw_ hw 105 rfl)) (mvT hZ (tw_ hw 106 rfl)) (mvT hZ (own_selP (own_nf (notFace_of_selects (tw_ hw 108 rfl)) (tw_ hw 106 rfl) rfl) (tw_ hw 106 rfl) (tw_ hw 107 rfl) (by decide))) (Cond.privateMethod_at (mvP hZ (tw_ hw 107 rfl) (args := #[]))) (mvT hZ (tw_ hw 109 rfl)) (by decide) (backOf (W := 0) (own_eci0 l Z a0 hW b1 t1 k1 n 2 vs h0 n0 (by omega) O0 hn hi E1 Fv1 Fc1 Fn1 Fm1 V1) hZ (tw_ hw 109 rfl) (tw_ hw 57 rfl) (by decide) (by decide)) (g := (mkF m 7 #[vr b1, vi c0] [(.int (3 : Int32)), (.ref b1)])) rfl (by rw [hml]; rfl) (Steps.refl _) (a := b1) (by rw [e11]; exact q12) q12' (argsL := [(.int (3 : Int32))]) (rest := []) (lenOf pd_16 rfl) rfl (own_le rfl) (hb hby d33_7) (fun _ _ => ⟨rfl, e11, own_le rfl, own_le rfl⟩)
  dsimp only [Pt.U, Pt.locs, Pt.cells, Pt.slots] at X12 l12 y12 z12 st12 hQ12
  subst l12 y12 z12
  obtain ⟨rfl, Nq12, eh12⟩ := hQ12
  have N12 := Fr.app N0 Nq12
  refine own_gs st12 ?_
  refine own_gs (cur' := T12.setTop (mkF m 11 #[vr b1, vi c0] [(.ref b1)])) ?_ ?_
  · refine XS.aloadN X12.here hx rfl (hb hby d33_10) rfl rfl ?_
    exact Steps.refl _
  obtain ⟨cq13, kq13, q13a, q13b, q13c⟩ := isOf hZ eh12 E1
  obtain ⟨_, _, ⟨T13, L13, k13, n13⟩, -, X13, ⟨Lc13, hQ13, l13, y13, z13⟩, st13⟩ := X12.virtualBack hx (y := own_y24) (z := own_y24) hown (mvT hZ (tw_ hw 110 rfl)) (mvT hZ (tw_ hw 111 rfl)) (notFace_of_selects (args := #[]) (mvT hZ (tw_ hw 113 rfl))) (mvT hZ (tw_ hw 113 rfl)) (mvT hZ (tw_ hw 112 rfl)) (by decide) (backOf (W := 0) (own_ais0 l Z a0 hW b1 h0 n0 (by omega) O0 Fc1) hZ (tw_ hw 114 rfl) (tw_ hw 57 rfl) (by decide) (by decide)) q13a q13c (g := (mkF m 11 #[vr b1, vi c0] [(.ref b1)])) rfl (by rw [hml]; rfl) (Steps.refl _) (argsL := []) (rest := []) (lenOf pd_6 rfl) rfl (own_le rfl) (hb hby d33_11) (fun _ _ => ⟨rfl, eh12, own_le rfl, own_le rfl⟩)
  dsimp only [Pt.U, Pt.locs, Pt.cells, Pt.slots] at X13 l13 y13 z13 st13 hQ13
  subst l13 y13 z13
  obtain ⟨rfl, Nq13, eh13⟩ := hQ13
  have N13 := Fr.app N12 Nq13
  refine own_gs st13 ?_
  refine own_gs (cur' := T13.setTop (mkF m 18 #[vr b1, vi c0] [(.int c0)])) ?_ ?_
  · refine XS.ifNo X13.here hx rfl (hb hby d33_14) rfl ((if0 _ _).trans (feq ((by decide) : ¬ ((1 : Int32) = (0 : Int32)))).1) ?_
    refine XS.iloadN X13.here hx rfl (hb hby d33_17) rfl ?_
    exact Steps.refl _
  obtain ⟨_, _, ⟨T14, L14, k14, n14⟩, -, X14, ⟨Lc14, hQ14, l14, y14, z14⟩, st14⟩ := Jvm.LawKit.callS X13 hx (y := own_y17) hown (mvT hZ (tw_ hw 115 rfl)) (mvT hZ (tw_ hw 13 rfl)) (mvT hZ (tw_ hw 14 rfl)) (mvT hZ (tw_ hw 15 rfl)) (by decide) (backOf (W := 0) (own_ce0 l Z a0 hW c0 h0 n0 (by omega) O0 hce) hZ (tw_ hw 15 rfl) (tw_ hw 14 rfl) (by decide) (by decide)) (g := (mkF m 18 #[vr b1, vi c0] [(.int c0)])) rfl (by rw [hml]; rfl) (argsL := [(.int c0)]) (rest := []) (lenOf pd_13 rfl) rfl (own_le rfl) (hb hby d33_18) (fun _ _ => ⟨rfl, eh13, own_le rfl, own_le rfl⟩)
  dsimp only [Pt.U, Pt.locs, Pt.cells, Pt.slots] at X14 l14 y14 z14 st14 hQ14
  subst l14 y14 z14
  obtain ⟨rfl, Nq14, eh14⟩ := hQ14
  have N14 := Fr.app N13 Nq14
  refine own_go st14 ?_
  refine own_gs (cur' := T14.setTop (mkF m 46 #[vr b1, vi c0] [(.ref b1)])) ?_ ?_
  · refine XS.ifYes X14.here hx rfl (pc0 := 21) (pc' := 45) rfl (hb hby d33_21) rfl ((if0 _ _).trans (teq ((by decide) : (0 : Int32) = (0 : Int32))).1) (by decide) (by decide) ?_
    refine XS.aloadN X14.here hx rfl (hb hby d33_45) rfl rfl ?_
    exact Steps.refl _
  obtain ⟨cq15, kq15, q15a, q15b, q15c⟩ := isOf hZ eh14 E1
  obtain ⟨_, _, ⟨T15, L15, k15, n15⟩, -, X15, ⟨Lc15, hQ15, l15, y15, z15⟩, st15⟩ := X14.virtualBack hx (y := own_y24) (z := own_y24) hown (mvT hZ (tw_ hw 110 rfl)) (mvT hZ (tw_ hw 111 rfl)) (notFace_of_selects (args := #[]) (mvT hZ (tw_ hw 113 rfl))) (mvT hZ (tw_ hw 113 rfl)) (mvT hZ (tw_ hw 112 rfl)) (by decide) (backOf (W := 0) (own_ais0 l Z a0 hW b1 h0 n0 (by omega) O0 Fc1) hZ (tw_ hw 114 rfl) (tw_ hw 57 rfl) (by decide) (by decide)) q15a q15c (g := (mkF m 46 #[vr b1, vi c0] [(.ref b1)])) rfl (by rw [hml]; rfl) (Steps.refl _) (argsL := []) (rest := []) (lenOf pd_6 rfl) rfl (own_le rfl) (hb hby d33_46) (fun _ _ => ⟨rfl, eh14, own_le rfl, own_le rfl⟩)
  dsimp only [Pt.U, Pt.locs, Pt.cells, Pt.slots] at X15 l15 y15 z15 st15 hQ15
  subst l15 y15 z15
  obtain ⟨rfl, Nq15, eh15⟩ := hQ15
  have N15 := Fr.app N14 Nq15
  refine own_gs st15 ?_
  refine own_gs (cur' := T15.setTop (mkF m 53 #[vr b1, vi c0] [(.ref b1)])) ?_ ?_
  · refine XS.ifNo X15.here hx rfl (hb hby d33_49) rfl ((if0 _ _).trans (feq ((by decide) : ¬ ((1 : Int32) = (0 : Int32)))).1) ?_
    refine XS.aloadN X15.here hx rfl (hb hby d33_52) rfl rfl ?_
    exact Steps.refl _
  obtain ⟨cq16, q16, q16'⟩ := own_cell E1
  obtain ⟨_, _, ⟨T16, L16, k16, n16⟩, -, X16, ⟨Lc16, hQ16, l16, y16, z16⟩, st16⟩ := X15.privateBack hx (y := own_y32) hown (mvT hZ (tw_ hw 211 rfl)) (mvT hZ (tw_ hw 212 rfl)) (mvT hZ (own_selP (own_nf (notFace_of_selects (tw_ hw 108 rfl)) (tw_ hw 106 rfl) rfl) (tw_ hw 212 rfl) (tw_ hw 213 rfl) (by decide))) (Cond.privateMethod_at (mvP hZ (tw_ hw 213 rfl) (args := #[]))) (mvT hZ (tw_ hw 215 rfl)) (by decide) (backOf (W := 0) (own_inf2 l Z a0 hW b1 t1 k1 n vs d0 d1 h0 n0 (by omega) O0 hn hi E1 Fv1 Fc1 Fn1 Fm1 V1 g1 hbt hv0 hd0 hv1 hd1) hZ (tw_ hw 215 rfl) (tw_ hw 57 rfl) (by decide) (by decide)) (g := (mkF m 53 #[vr b1, vi c0] [(.ref b1)])) rfl (by rw [hml]; rfl) (Steps.refl _) (a := b1) (by rw [eh15]; exact q16) q16' (argsL := []) (rest := []) (lenOf pd_21 rfl) rfl (own_le rfl) (hb hby d33_53) (fun _ _ => ⟨rfl, eh15, own_le rfl, own_le rfl⟩)
  dsimp only [Pt.U, Pt.locs, Pt.cells, Pt.slots] at X16 l16 y16 z16 st16 hQ16
  subst l16 y16 z16
  obtain ⟨t16, kb16, rfl, Nq16, Kq16, a16, b16, c16, d16, f16m, V16, fc16, ge16⟩ := hQ16
  have N16 := Fr.app N15 Nq16
  have z17 := Kq16.1
  have K17 := K0.trans Kq16 (allS (Or.inl (List.mem_of_getElem? (i := 0) rfl)) all0)
  have O17 := O0.keep Kq16 (allS (by omega) all0)
  have lt16 := own_lt V16.lt
  have ltb16 := own_lt a16.lt
  refine own_gs st16 ?_
  refine own_gs (cur' := T16.setTop (mkF m 57 #[vr b1, vi c0] [(.ref b1)])) ?_ ?_
  · refine XS.aloadN X16.here hx rfl (hb hby d33_56) rfl rfl ?_
    exact Steps.refl _
  obtain ⟨T18, X18, e18, st18⟩ := getF X16 hx hZ hown (host := "") (Or.inl (tw_ hw 61 rfl)) Via.refl rfl b16 (g := (mkF m 57 #[vr b1, vi c0] [(.ref b1)])) rfl rfl (hb hby d33_57)
  refine own_go st18 ?_
  refine own_gs (cur' := T18.setTop (mkF m 62 #[vr b1, vi c0] [(.ref b1), (.ref b1), (.ref t16)])) ?_ ?_
  · refine XS.aloadN X18.here hx rfl (hb hby d33_60) rfl rfl ?_
    refine XS.dup X18.here hx rfl (hb hby d33_61) rfl rfl ?_
    exact Steps.refl _
  obtain ⟨T19, X19, e19, st19⟩ := getF X18 hx hZ hown (host := "") (Or.inl (tw_ hw 103 rfl)) Via.refl e18 d16 (g := (mkF m 62 #[vr b1, vi c0] [(.ref b1), (.ref b1), (.ref t16)])) rfl rfl (hb hby d33_62)
  refine own_go st19 ?_
  refine own_gs (cur' := T19.setTop (mkF m 68 #[vr b1, vi c0] [(.int (3 : Int32)), (.ref b1), (.int (2 : Int32)), (.ref t16)])) ?_ ?_
  · refine XS.dupX1 X19.here hx rfl (hb hby d33_65) rfl rfl rfl ?_
    refine XS.iconst X19.here hx rfl (hb hby d33_66) ?_
    refine XS.iadd X19.here hx rfl (hb hby d33_67) rfl ?_
    exact Steps.refl _
  obtain ⟨T20, h20, X20, e20, W20, st20⟩ := putF X19 hx hZ hown (host := "") (Or.inl (tw_ hw 103 rfl)) Via.refl e19 d16 a16 (Or.inl (tw_ hw 104 rfl)) (tw_ hw 38 rfl) (ty := .int) (by decide) rfl rfl (g := (mkF m 68 #[vr b1, vi c0] [(.int (3 : Int32)), (.ref b1), (.int (2 : Int32)), (.ref t16)])) rfl rfl (hb hby d33_68)
  have F20 := d16.same W20
  refine own_go st20 ?_
  have z21 := W20.size
  have K21 := K17.wr W20 (Or.inl (List.mem_of_getElem? (i := 0) rfl))
  have O21 := O17.wr W20 (by omega)
  have N21 := Fr.snoc X20 N16 (by omega)
  have f22 := (V16.other W20 (own_ne (a := t16) (b := b1) (by omega)))
  refine own_gs (cur' := T20.setTop (mkF m 72 #[vr b1, vi c0] [(.int c0), (.int (2 : Int32)), (.ref t16)])) ?_ ?_
  · refine XS.iloadN X20.here hx rfl (hb hby d33_71) rfl ?_
    exact Steps.refl _
  obtain ⟨_, _, ⟨T23, L23, k23, n23⟩, -, X23, ⟨Lc23, hQ23, l23, y23, z23⟩, st23⟩ := Jvm.LawKit.callS X20 hx (y := own_y26) hown (mvT hZ (tw_ hw 232 rfl)) (mvT hZ (tw_ hw 233 rfl)) (mvT hZ (tw_ hw 170 rfl)) (mvT hZ (tw_ hw 234 rfl)) (by decide) (backOf (W := 0) (own_psb l Z a0 hW t16 kb16 n 2 (own_puts (List.replicate (2 * n) (.int (0 : Int32))) 0 [d0, d1]) c0 h20 n0 (by omega) O21 hn hi (by simp only [own_puts, List.length_set, List.length_replicate]) (by omega) f22) hZ (tw_ hw 234 rfl) (tw_ hw 170 rfl) (by decide) (by decide)) (g := (mkF m 72 #[vr b1, vi c0] [(.int c0), (.int (2 : Int32)), (.ref t16)])) rfl (by rw [hml]; rfl) (argsL := [(.ref t16), (.int (2 : Int32)), (.int c0)]) (rest := []) (lenOf pd_9 rfl) rfl (own_le rfl) (hb hby d33_72) (fun _ _ => ⟨rfl, e20, own_le rfl, own_le rfl⟩)
  dsimp only [Pt.U, Pt.locs, Pt.cells, Pt.slots] at X23 l23 y23 z23 st23 hQ23
  subst l23 y23 z23
  obtain ⟨rfl, Nq23, Kq23, Vt23⟩ := hQ23
  have N23 := Fr.app N21 Nq23
  have z24 := Kq23.1
  have K24 := K21.trans Kq23 (allS (Or.inr (by omega)) all0)
  have O24 := O21.keep Kq23 (allS (by omega) all0)
  refine own_go st23 ?_
  have f25 := ((a16.wr W20).keep Kq23)
  have f26 := ((b16.other W20 (Or.inr (slot_ne (Or.inl (tw_ hw 62 rfl)) (Or.inl (tw_ hw 104 rfl)) (by decide) (t := (.array .byte)) (t' := .int) (by decide) (by decide)))).keep Kq23 (ninS (own_ne (a := b1) (b := t16) (by omega)) nin0))
  have f27 := ((c16.other W20 (Or.inr (slot_ne (Or.inl (tw_ hw 64 rfl)) (Or.inl (tw_ hw 104 rfl)) (by decide) (t := .byte) (t' := .int) (by decide) (by decide)))).keep Kq23 (ninS (own_ne (a := b1) (b := t16) (by omega)) nin0))
  have f28 := (F20.keep Kq23 (ninS (own_ne (a := b1) (b := t16) (by omega)) nin0))
  have f29 := ((f16m.other W20 (Or.inr (slot_ne (Or.inl (tw_ hw 236 rfl)) (Or.inl (tw_ hw 104 rfl)) (by decide) (t := .boolean) (t' := .int) (by decide) (by decide)))).keep Kq23 (ninS (own_ne (a := b1) (b := t16) (by omega)) nin0))
  refine own_gs (cur' := T23.setTop (mkF m 76 #[vr b1, vi c0] [(.ref b1)])) ?_ ?_
  · refine XS.aloadN X23.here hx rfl (hb hby d33_75) rfl rfl ?_
    exact Steps.refl _
  exact own_rA X23 Bd rfl (v := (.ref b1)) rfl (hb hby d33_76) rfl (⟨_, _, rfl, N23, K24, f25, f26, f27, f28, f29, Vt23, fc16, (by omega)⟩) rfl rfl
def own_sapi2_Q (Z : State) (b1 t1 : Nat) (k1 : ClassId) (n : Nat) (vs : List Value) (d0 d1 : Int32) (c0 : Int32) (h0 : Heap) (n0 : Nat) (v : Option Value) (h : Heap) (L : List Loc) : Prop := ∃ (t : Nat) (k : ClassId), v = some (.ref b1) ∧ Fr n0 L ∧ Keep h0 h [b1] ∧ Exa Z h b1 "java/lang/StringBuilder" ∧ Fld Z h b1 "java/lang/AbstractStringBuilder" "value" "[B" (.ref t) ∧ Fld Z h b1 "java/lang/AbstractStringBuilder" "coder" "B" (.int (1 : Int32)) ∧ Fld Z h b1 "java/lang/AbstractStringBuilder" "count" "I" (.int (3 : Int32)) ∧ Fld Z h b1 "java/lang/AbstractStringBuilder" "maybeLatin1" "Z" (.int (0 : Int32)) ∧ Arv Z h t k .byte (Int32.ofNat (2 * n)) (own_puts (List.replicate (2 * n) (.int (0 : Int32))) 0 [d0, d1, c0]) (.int (0 : Int32)) ∧ Z.vm.findClass "[B" = some k ∧ h0.size ≤ t
theorem ef_own_sapi2 (m : MethodId) (x0 : Nat) (x1 : Int32) : entryFrame m #[(.ref x0), (.int x1)] 2 = mkF m 0 #[vr x0, vi x1] [] := by first | (simp [entryFrame, mkF, argsToLocals, Value.category]; done) | rfl
set_option maxRecDepth 65536 in
set_option maxHeartbeats 40000000 in
theorem own_sapi2 (l : Launch) (Z : State) (a0 : Array Value) (hW : own_W Z a0) (b1 t1 : Nat) (k1 : ClassId) (n : Nat) (vs : List Value) (d0 d1 : Int32) (c0 : Int32) (h0 : Heap) (n0 : Nat) (Z0 : n0 ≤ h0.size) (O0 : Old Z n0 h0) (hn : n ≤ 3) (hi : 2 < n) (E1 : Exa Z h0 b1 "java/lang/StringBuilder") (Fv1 : Fld Z h0 b1 "java/lang/AbstractStringBuilder" "value" "[B" (.ref t1)) (Fc1 : Fld Z h0 b1 "java/lang/AbstractStringBuilder" "coder" "B" (.int (0 : Int32))) (Fn1 : Fld Z h0 b1 "java/lang/AbstractStringBuilder" "count" "I" (.int (2 : Int32))) (Fm1 : Fld Z h0 b1 "java/lang/AbstractStringBuilder" "maybeLatin1" "Z" (.int (0 : Int32))) (V1 : Arv Z h0 t1 k1 .byte (Int32.ofNat n) vs (.int (0 : Int32))) (g1 : n0 ≤ b1) (hbt : b1 ≠ t1) (hv0 : vs.getD 0 (.int (0 : Int32)) = .int (StrChars.lo8 d0)) (hd0 : ¬ d0 < 0 ∧ ¬ (255 : Int32) < d0) (hv1 : vs.getD 1 (.int (0 : Int32)) = .int (StrChars.lo8 d1)) (hd1 : ¬ d1 < 0 ∧ ¬ (255 : Int32) < d1) (hce : (255 : Int32) < c0) :
    own_M l own_y34 own_c34 2 (some (.object "java/lang/StringBuilder")) (own_r 7 1 6 144) #[(.ref b1), (.int c0)] Z h0 (own_sapi2_Q Z b1 t1 k1 n vs d0 d1 c0 h0 n0) := by
  refine own_enter (own := "java/lang/StringBuilder") rfl (plainFor_of_name pn_java_lang_StringBuilder) (fun m => ef_own_sapi2 m b1 c0) ?_
  intro p e s m below meth c s₁ Bd hZ hh hx hby hml hown hnm X0 e0
  obtain ⟨hw, ⟨G1, O2, P5⟩, ⟨G3, O4, rG3⟩, Oa, Oh, Ol⟩ := id hW
  have N0 := Fr.nil n0
  have K0 := Keep.refl h0 [b1]
  have lt1 := own_lt E1.lt
  have lt2 := own_lt V1.lt
  refine own_gs (cur' := s₁.setTop (mkF m 2 #[vr b1, vi c0] [(.int c0), (.ref b1)])) ?_ ?_
  · refine XS.aloadN X0.here hx rfl (hb hby d34_0) rfl rfl ?_
    refine XS.iloadN X0.here hx rfl (hb hby d34_1) rfl ?_
    exact Steps.refl _
  obtain ⟨_, _, ⟨T11, L11, k11, n11⟩, -, X11, ⟨Lc11, hQ11, l11, y11, z11⟩, st11⟩ := superBack X0 hx hZ (y := own_y33) hown (tw_ hw 98 rfl) (own_sameM (own_nf (notFace_of_selects (tw_ hw 108 rfl)) (tw_ hw 106 rfl) rfl) (tw_ hw 99 rfl) (by decide)) (tw_ hw 99 rfl) (tw_ hw 100 rfl) (by decide) (backOf (W := 0) (own_aapi2 l Z a0 hW b1 t1 k1 n vs d0 d1 c0 h0 n0 (by omega) O0 hn hi E1 Fv1 Fc1 Fn1 Fm1 V1 g1 hbt hv0 hd0 hv1 hd1 hce) hZ (tw_ hw 102 rfl) (tw_ hw 57 rfl) (by decide) (by decide)) e0 (Ins.self E1) (g := (mkF m 2 #[vr b1, vi c0] [(.int c0), (.ref b1)])) rfl (by rw [hml]; rfl) (tw_ hw 102 rfl) (argsL := [(.int c0)]) (rest := []) (lenOf pd_22 rfl) rfl (own_le rfl) (hb hby d34_2) (fun _ _ => ⟨rfl, e0, own_le rfl, own_le rfl⟩)
  dsimp only [Pt.U, Pt.locs, Pt.cells, Pt.slots] at X11 l11 y11 z11 st11 hQ11
  subst l11 y11 z11
  obtain ⟨t11, kb11, rfl, Nq11, Kq11, a11, b11, c11, d11, f11m, V11, fc11, ge11⟩ := hQ11
  have N11 := Fr.app N0 Nq11
  have z12 := Kq11.1
  have K12 := K0.trans Kq11 (allS (Or.inl (List.mem_of_getElem? (i := 0) rfl)) all0)
  have O12 := O0.keep Kq11 (allS (by omega) all0)
  refine own_gs st11 ?_
  refine own_gs (cur' := T11.setTop (mkF m 7 #[vr b1, vi c0] [(.ref b1)])) ?_ ?_
  · refine XS.pop X11.here hx rfl (hb hby d34_5) rfl rfl ?_
    refine XS.aloadN X11.here hx rfl (hb hby d34_6) rfl rfl ?_
    exact Steps.refl _
  exact own_rA X11 Bd rfl (v := (.ref b1)) rfl (hb hby d34_7) rfl (⟨_, _, rfl, N11, K12, a11, b11, c11, d11, f11m, V11, fc11, (by omega)⟩) rfl rfl
def own_aapl_Q (Z : State) (b1 t1 : Nat) (k1 : ClassId) (n i : Nat) (vs : List Value) (c0 : Int32) (h0 : Heap) (n0 : Nat) (v : Option Value) (h : Heap) (L : List Loc) : Prop := v = some (.ref b1) ∧ Fr n0 L ∧ Keep h0 h [b1, t1] ∧ Exa Z h b1 "java/lang/StringBuilder" ∧ Fld Z h b1 "java/lang/AbstractStringBuilder" "value" "[B" (.ref t1) ∧ Fld Z h b1 "java/lang/AbstractStringBuilder" "coder" "B" (.int (0 : Int32)) ∧ Fld Z h b1 "java/lang/AbstractStringBuilder" "count" "I" (.int (Int32.ofNat (i + 1))) ∧ Fld Z h b1 "java/lang/AbstractStringBuilder" "maybeLatin1" "Z" (.int (0 : Int32)) ∧ Arv Z h t1 k1 .byte (Int32.ofNat n) (vs.set i (.int (StrChars.lo8 c0))) (.int (0 : Int32))
theorem ef_own_aapl (m : MethodId) (x0 : Nat) (x1 : Int32) : entryFrame m #[(.ref x0), (.int x1)] 2 = mkF m 0 #[vr x0, vi x1] [] := by first | (simp [entryFrame, mkF, argsToLocals, Value.category]; done) | rfl
theorem d33_24 : decode own_c33 24 = .ok (.aload_n 0, 1) := by decide +kernel
theorem d33_25 : decode own_c33 25 = .ok (.getfield 15, 3) := by decide +kernel
theorem d33_28 : decode own_c33 28 = .ok (.aload_n 0, 1) := by decide +kernel
theorem d33_29 : decode own_c33 29 = .ok (.dup, 1) := by decide +kernel
theorem d33_30 : decode own_c33 30 = .ok (.getfield 79, 3) := by decide +kernel
theorem d33_33 : decode own_c33 33 = .ok (.dup_x1, 1) := by decide +kernel
theorem d33_34 : decode own_c33 34 = .ok (.iconst 1, 1) := by decide +kernel
theorem d33_35 : decode own_c33 35 = .ok (.iadd, 1) := by decide +kernel
theorem d33_36 : decode own_c33 36 = .ok (.putfield 79, 3) := by decide +kernel
theorem d33_39 : decode own_c33 39 = .ok (.iload_n 1, 1) := by decide +kernel
theorem d33_40 : decode own_c33 40 = .ok (.i2b, 1) := by decide +kernel
theorem d33_41 : decode own_c33 41 = .ok (.bastore, 1) := by decide +kernel
theorem d33_42 : decode own_c33 42 = .ok (.goto 33, 3) := by decide +kernel
set_option maxRecDepth 65536 in
set_option maxHeartbeats 40000000 in
theorem own_aapl (l : Launch) (Z : State) (a0 : Array Value) (hW : own_W Z a0) (b1 t1 : Nat) (k1 : ClassId) (n i : Nat) (vs : List Value) (c0 : Int32) (h0 : Heap) (n0 : Nat) (Z0 : n0 ≤ h0.size) (O0 : Old Z n0 h0) (hn : n ≤ 3) (hi : i < n) (hl : vs.length = n) (E1 : Exa Z h0 b1 "java/lang/StringBuilder") (Fv1 : Fld Z h0 b1 "java/lang/AbstractStringBuilder" "value" "[B" (.ref t1)) (Fc1 : Fld Z h0 b1 "java/lang/AbstractStringBuilder" "coder" "B" (.int (0 : Int32))) (Fn1 : Fld Z h0 b1 "java/lang/AbstractStringBuilder" "count" "I" (.int (Int32.ofNat i))) (Fm1 : Fld Z h0 b1 "java/lang/AbstractStringBuilder" "maybeLatin1" "Z" (.int (0 : Int32))) (V1 : Arv Z h0 t1 k1 .byte (Int32.ofNat n) vs (.int (0 : Int32))) (g1 : n0 ≤ b1) (g2 : n0 ≤ t1) (hbt : b1 ≠ t1) (hce : ¬ (255 : Int32) < c0) :
    own_M l own_y33 own_c33 2 (some (.object "java/lang/AbstractStringBuilder")) (own_r 6 1 6 125) #[(.ref b1), (.int c0)] Z h0 (own_aapl_Q Z b1 t1 k1 n i vs c0 h0 n0) := by
  refine own_enter (own := "java/lang/AbstractStringBuilder") rfl (plainFor_of_name pn_java_lang_AbstractStringBuilder) (fun m => ef_own_aapl m b1 c0) ?_
  intro p e s m below meth c s₁ Bd hZ hh hx hby hml hown hnm X0 e0
  obtain ⟨hw, ⟨G1, O2, P5⟩, ⟨G3, O4, rG3⟩, Oa, Oh, Ol⟩ := id hW
  have N0 := Fr.nil n0
  have K0 := Keep.refl h0 [b1, t1]
  have lt1 := own_lt E1.lt
  have lt2 := own_lt V1.lt
  refine own_gs (cur' := s₁.setTop (mkF m 2 #[vr b1, vi c0] [(.ref b1), (.ref b1)])) ?_ ?_
  · refine XS.aloadN X0.here hx rfl (hb hby d33_0) rfl rfl ?_
    refine XS.aloadN X0.here hx rfl (hb hby d33_1) rfl rfl ?_
    exact Steps.refl _
  obtain ⟨T11, X11, e11, st11⟩ := getF X0 hx hZ hown (host := "") (Or.inl (tw_ hw 103 rfl)) Via.refl e0 Fn1 (g := (mkF m 2 #[vr b1, vi c0] [(.ref b1), (.ref b1)])) rfl rfl (hb hby d33_2)
  refine own_go st11 ?_
  refine own_gs (cur' := T11.setTop (mkF m 7 #[vr b1, vi c0] [(.int ((Int32.ofNat i) + (1 : Int32))), (.ref b1)])) ?_ ?_
  · refine XS.iconst X11.here hx rfl (hb hby d33_5) ?_
    refine XS.iadd X11.here hx rfl (hb hby d33_6) rfl ?_
    exact Steps.refl _
  rw [own_p1]
  show own_Fin p e below (T11.setTop (mkF m 7 #[vr b1, vi c0] [(.int (Int32.ofNat (i + 1))), (.ref b1)])) _
  obtain ⟨cq12, q12, q12'⟩ := own_cell E1
  obtain ⟨_, _, ⟨T12, L12, k12, n12⟩, -, X12, ⟨Lc12, hQ12, l12, y12, z12⟩, st12⟩ := X11.privateBack hx (y := own_y25) hown (mvT hZ (tw_ hw 105 rfl)) (mvT hZ (tw_ hw 106 rfl)) (mvT hZ (own_selP (own_nf (notFace_of_selects (tw_ hw 108 rfl)) (tw_ hw 106 rfl) rfl) (tw_ hw 106 rfl) (tw_ hw 107 rfl) (by decide))) (Cond.privateMethod_at (mvP hZ (tw_ hw 107 rfl) (args := #[]))) (mvT hZ (tw_ hw 109 rfl)) (by decide) (backOf (W := 0) (own_eci0 l Z a0 hW b1 t1 k1 n i vs h0 n0 (by omega) O0 hn hi E1 Fv1 Fc1 Fn1 Fm1 V1) hZ (tw_ hw 109 rfl) (tw_ hw 57 rfl) (by decide) (by decide)) (g := (mkF m 7 #[vr b1, vi c0] [(.int (Int32.ofNat (i + 1))), (.ref b1)])) rfl (by rw [hml]; rfl) (Steps.refl _) (a := b1) (by rw [e11]; exact q12) q12' (argsL := [(.int (Int32.ofNat (i + 1)))]) (rest := []) (lenOf pd_16 rfl) rfl (own_le rfl) (hb hby d33_7) (fun _ _ => ⟨rfl, e11, own_le rfl, own_le rfl⟩)
  dsimp only [Pt.U, Pt.locs, Pt.cells, Pt.slots] at X12 l12 y12 z12 st12 hQ12
  subst l12 y12 z12
  obtain ⟨rfl, Nq12, eh12⟩ := hQ12
  have N12 := Fr.app N0 Nq12
  refine own_gs st12 ?_
  refine own_gs (cur' := T12.setTop (mkF m 11 #[vr b1, vi c0] [(.ref b1)])) ?_ ?_
  · refine XS.aloadN X12.here hx rfl (hb hby d33_10) rfl rfl ?_
    exact Steps.refl _
  obtain ⟨cq13, kq13, q13a, q13b, q13c⟩ := isOf hZ eh12 E1
  obtain ⟨_, _, ⟨T13, L13, k13, n13⟩, -, X13, ⟨Lc13, hQ13, l13, y13, z13⟩, st13⟩ := X12.virtualBack hx (y := own_y24) (z := own_y24) hown (mvT hZ (tw_ hw 110 rfl)) (mvT hZ (tw_ hw 111 rfl)) (notFace_of_selects (args := #[]) (mvT hZ (tw_ hw 113 rfl))) (mvT hZ (tw_ hw 113 rfl)) (mvT hZ (tw_ hw 112 rfl)) (by decide) (backOf (W := 0) (own_ais0 l Z a0 hW b1 h0 n0 (by omega) O0 Fc1) hZ (tw_ hw 114 rfl) (tw_ hw 57 rfl) (by decide) (by decide)) q13a q13c (g := (mkF m 11 #[vr b1, vi c0] [(.ref b1)])) rfl (by rw [hml]; rfl) (Steps.refl _) (argsL := []) (rest := []) (lenOf pd_6 rfl) rfl (own_le rfl) (hb hby d33_11) (fun _ _ => ⟨rfl, eh12, own_le rfl, own_le rfl⟩)
  dsimp only [Pt.U, Pt.locs, Pt.cells, Pt.slots] at X13 l13 y13 z13 st13 hQ13
  subst l13 y13 z13
  obtain ⟨rfl, Nq13, eh13⟩ := hQ13
  have N13 := Fr.app N12 Nq13
  refine own_gs st13 ?_
  refine own_gs (cur' := T13.setTop (mkF m 18 #[vr b1, vi c0] [(.int c0)])) ?_ ?_
  · refine XS.ifNo X13.here hx rfl (hb hby d33_14) rfl ((if0 _ _).trans (feq ((by decide) : ¬ ((1 : Int32) = (0 : Int32)))).1) ?_
    refine XS.iloadN X13.here hx rfl (hb hby d33_17) rfl ?_
    exact Steps.refl _
  obtain ⟨_, _, ⟨T14, L14, k14, n14⟩, -, X14, ⟨Lc14, hQ14, l14, y14, z14⟩, st14⟩ := Jvm.LawKit.callS X13 hx (y := own_y17) hown (mvT hZ (tw_ hw 115 rfl)) (mvT hZ (tw_ hw 13 rfl)) (mvT hZ (tw_ hw 14 rfl)) (mvT hZ (tw_ hw 15 rfl)) (by decide) (backOf (W := 0) (own_ce1 l Z a0 hW c0 h0 n0 (by omega) O0 hce) hZ (tw_ hw 15 rfl) (tw_ hw 14 rfl) (by decide) (by decide)) (g := (mkF m 18 #[vr b1, vi c0] [(.int c0)])) rfl (by rw [hml]; rfl) (argsL := [(.int c0)]) (rest := []) (lenOf pd_13 rfl) rfl (own_le rfl) (hb hby d33_18) (fun _ _ => ⟨rfl, eh13, own_le rfl, own_le rfl⟩)
  dsimp only [Pt.U, Pt.locs, Pt.cells, Pt.slots] at X14 l14 y14 z14 st14 hQ14
  subst l14 y14 z14
  obtain ⟨rfl, Nq14, eh14⟩ := hQ14
  have N14 := Fr.app N13 Nq14
  refine own_go st14 ?_
  refine own_gs (cur' := T14.setTop (mkF m 25 #[vr b1, vi c0] [(.ref b1)])) ?_ ?_
  · refine XS.ifNo X14.here hx rfl (hb hby d33_21) rfl ((if0 _ _).trans (feq ((by decide) : ¬ ((1 : Int32) = (0 : Int32)))).1) ?_
    refine XS.aloadN X14.here hx rfl (hb hby d33_24) rfl rfl ?_
    exact Steps.refl _
  obtain ⟨T15, X15, e15, st15⟩ := getF X14 hx hZ hown (host := "") (Or.inl (tw_ hw 61 rfl)) Via.refl eh14 Fv1 (g := (mkF m 25 #[vr b1, vi c0] [(.ref b1)])) rfl rfl (hb hby d33_25)
  refine own_go st15 ?_
  refine own_gs (cur' := T15.setTop (mkF m 30 #[vr b1, vi c0] [(.ref b1), (.ref b1), (.ref t1)])) ?_ ?_
  · refine XS.aloadN X15.here hx rfl (hb hby d33_28) rfl rfl ?_
    refine XS.dup X15.here hx rfl (hb hby d33_29) rfl rfl ?_
    exact Steps.refl _
  obtain ⟨T16, X16, e16, st16⟩ := getF X15 hx hZ hown (host := "") (Or.inl (tw_ hw 103 rfl)) Via.refl e15 Fn1 (g := (mkF m 30 #[vr b1, vi c0] [(.ref b1), (.ref b1), (.ref t1)])) rfl rfl (hb hby d33_30)
  refine own_go st16 ?_
  refine own_gs (cur' := T16.setTop (mkF m 36 #[vr b1, vi c0] [(.int ((Int32.ofNat i) + (1 : Int32))), (.ref b1), (.int (Int32.ofNat i)), (.ref t1)])) ?_ ?_
  · refine XS.dupX1 X16.here hx rfl (hb hby d33_33) rfl rfl rfl ?_
    refine XS.iconst X16.here hx rfl (hb hby d33_34) ?_
    refine XS.iadd X16.here hx rfl (hb hby d33_35) rfl ?_
    exact Steps.refl _
  rw [own_p1]
  show own_Fin p e below (T16.setTop (mkF m 36 #[vr b1, vi c0] [(.int (Int32.ofNat (i + 1))), (.ref b1), (.int (Int32.ofNat i)), (.ref t1)])) _
  obtain ⟨T17, h17, X17, e17, W17, st17⟩ := putF X16 hx hZ hown (host := "") (Or.inl (tw_ hw 103 rfl)) Via.refl e16 Fn1 E1 (Or.inl (tw_ hw 104 rfl)) (tw_ hw 38 rfl) (ty := .int) (by decide) rfl rfl (g := (mkF m 36 #[vr b1, vi c0] [(.int (Int32.ofNat (i + 1))), (.ref b1), (.int (Int32.ofNat i)), (.ref t1)])) rfl rfl (hb hby d33_36)
  have F17 := Fn1.same W17
  refine own_go st17 ?_
  have z18 := W17.size
  have K18 := K0.wr W17 (Or.inl (List.mem_of_getElem? (i := 0) rfl))
  have O18 := O0.wr W17 (by omega)
  have N18 := Fr.snoc X17 N14 (by omega)
  refine own_gs (cur' := T17.setTop (mkF m 41 #[vr b1, vi c0] [(.int (c0.toInt8.toInt32)), (.int (Int32.ofNat i)), (.ref t1)])) ?_ ?_
  · refine XS.iloadN X17.here hx rfl (hb hby d33_39) rfl ?_
    refine XS.i2b X17.here hx rfl (hb hby d33_40) rfl ?_
    exact Steps.refl _
  have f20 := (V1.other W17 (own_ne (a := t1) (b := b1) (by omega)))
  obtain ⟨cl19, Ar19, q19, S19, M19, Hs19, G19⟩ := id f20
  have hin19 : ¬ ((Int32.ofNat i) < 0 ∨ cl19.slots.size ≤ ((Int32.ofNat i)).toNatClampNeg) := inb_of S19 (own_in (by omega) (by omega))
  obtain ⟨T19, h19, X19, e19, W19, st19⟩ := stB X17 hx hZ e17 Ar19 (j := (Int32.ofNat i)) hin19 (g := (mkF m 41 #[vr b1, vi c0] [(.int (c0.toInt8.toInt32)), (.int (Int32.ofNat i)), (.ref t1)])) rfl rfl (hb hby d33_41)
  have V19 := Arv.set Ar19 q19 S19 M19 Hs19 G19 (fits_nar_byte _) W19 i (own_nat (by omega)) (by omega)
  refine own_go st19 ?_
  have z21 := W19.size
  have K21 := K18.wr W19 (Or.inl (List.mem_of_getElem? (i := 1) rfl))
  have O21 := O18.wr W19 (by omega)
  have N21 := Fr.snoc X19 N18 (by omega)
  have Vf := V19
  rw [own_b2] at Vf
  have f22 := ((E1.wr W17).wr W19)
  have f23 := ((Fv1.other W17 (Or.inr (slot_ne (Or.inl (tw_ hw 62 rfl)) (Or.inl (tw_ hw 104 rfl)) (by decide) (t := (.array .byte)) (t' := .int) (by decide) (by decide)))).other W19 (Or.inl (own_ne (a := b1) (b := t1) (by omega))))
  have f24 := ((Fc1.other W17 (Or.inr (slot_ne (Or.inl (tw_ hw 64 rfl)) (Or.inl (tw_ hw 104 rfl)) (by decide) (t := .byte) (t' := .int) (by decide) (by decide)))).other W19 (Or.inl (own_ne (a := b1) (b := t1) (by omega))))
  have f25 := (F17.other W19 (Or.inl (own_ne (a := b1) (b := t1) (by omega))))
  have f26 := ((Fm1.other W17 (Or.inr (slot_ne (Or.inl (tw_ hw 236 rfl)) (Or.inl (tw_ hw 104 rfl)) (by decide) (t := .boolean) (t' := .int) (by decide) (by decide)))).other W19 (Or.inl (own_ne (a := b1) (b := t1) (by omega))))
  refine own_gs (cur' := T19.setTop (mkF m 76 #[vr b1, vi c0] [(.ref b1)])) ?_ ?_
  · refine XS.goto X19.here hx rfl (pc0 := 42) (pc' := 75) rfl (hb hby d33_42) (by decide) (by decide) ?_
    refine XS.aloadN X19.here hx rfl (hb hby d33_75) rfl rfl ?_
    exact Steps.refl _
  exact own_rA X19 Bd rfl (v := (.ref b1)) rfl (hb hby d33_76) e19 (⟨rfl, N21, K21, f22, f23, f24, f25, f26, Vf⟩) rfl rfl
def own_sapl_Q (Z : State) (b1 t1 : Nat) (k1 : ClassId) (n i : Nat) (vs : List Value) (c0 : Int32) (h0 : Heap) (n0 : Nat) (v : Option Value) (h : Heap) (L : List Loc) : Prop := v = some (.ref b1) ∧ Fr n0 L ∧ Keep h0 h [b1, t1] ∧ Exa Z h b1 "java/lang/StringBuilder" ∧ Fld Z h b1 "java/lang/AbstractStringBuilder" "value" "[B" (.ref t1) ∧ Fld Z h b1 "java/lang/AbstractStringBuilder" "coder" "B" (.int (0 : Int32)) ∧ Fld Z h b1 "java/lang/AbstractStringBuilder" "count" "I" (.int (Int32.ofNat (i + 1))) ∧ Fld Z h b1 "java/lang/AbstractStringBuilder" "maybeLatin1" "Z" (.int (0 : Int32)) ∧ Arv Z h t1 k1 .byte (Int32.ofNat n) (vs.set i (.int (StrChars.lo8 c0))) (.int (0 : Int32))
theorem ef_own_sapl (m : MethodId) (x0 : Nat) (x1 : Int32) : entryFrame m #[(.ref x0), (.int x1)] 2 = mkF m 0 #[vr x0, vi x1] [] := by first | (simp [entryFrame, mkF, argsToLocals, Value.category]; done) | rfl
set_option maxRecDepth 65536 in
set_option maxHeartbeats 40000000 in
theorem own_sapl (l : Launch) (Z : State) (a0 : Array Value) (hW : own_W Z a0) (b1 t1 : Nat) (k1 : ClassId) (n i : Nat) (vs : List Value) (c0 : Int32) (h0 : Heap) (n0 : Nat) (Z0 : n0 ≤ h0.size) (O0 : Old Z n0 h0) (hn : n ≤ 3) (hi : i < n) (hl : vs.length = n) (E1 : Exa Z h0 b1 "java/lang/StringBuilder") (Fv1 : Fld Z h0 b1 "java/lang/AbstractStringBuilder" "value" "[B" (.ref t1)) (Fc1 : Fld Z h0 b1 "java/lang/AbstractStringBuilder" "coder" "B" (.int (0 : Int32))) (Fn1 : Fld Z h0 b1 "java/lang/AbstractStringBuilder" "count" "I" (.int (Int32.ofNat i))) (Fm1 : Fld Z h0 b1 "java/lang/AbstractStringBuilder" "maybeLatin1" "Z" (.int (0 : Int32))) (V1 : Arv Z h0 t1 k1 .byte (Int32.ofNat n) vs (.int (0 : Int32))) (g1 : n0 ≤ b1) (g2 : n0 ≤ t1) (hbt : b1 ≠ t1) (hce : ¬ (255 : Int32) < c0) :
    own_M l own_y34 own_c34 2 (some (.object "java/lang/StringBuilder")) (own_r 7 1 6 144) #[(.ref b1), (.int c0)] Z h0 (own_sapl_Q Z b1 t1 k1 n i vs c0 h0 n0) := by
  refine own_enter (own := "java/lang/StringBuilder") rfl (plainFor_of_name pn_java_lang_StringBuilder) (fun m => ef_own_sapl m b1 c0) ?_
  intro p e s m below meth c s₁ Bd hZ hh hx hby hml hown hnm X0 e0
  obtain ⟨hw, ⟨G1, O2, P5⟩, ⟨G3, O4, rG3⟩, Oa, Oh, Ol⟩ := id hW
  have N0 := Fr.nil n0
  have K0 := Keep.refl h0 [b1, t1]
  have lt1 := own_lt E1.lt
  have lt2 := own_lt V1.lt
  refine own_gs (cur' := s₁.setTop (mkF m 2 #[vr b1, vi c0] [(.int c0), (.ref b1)])) ?_ ?_
  · refine XS.aloadN X0.here hx rfl (hb hby d34_0) rfl rfl ?_
    refine XS.iloadN X0.here hx rfl (hb hby d34_1) rfl ?_
    exact Steps.refl _
  obtain ⟨_, _, ⟨T11, L11, k11, n11⟩, -, X11, ⟨Lc11, hQ11, l11, y11, z11⟩, st11⟩ := superBack X0 hx hZ (y := own_y33) hown (tw_ hw 98 rfl) (own_sameM (own_nf (notFace_of_selects (tw_ hw 108 rfl)) (tw_ hw 106 rfl) rfl) (tw_ hw 99 rfl) (by decide)) (tw_ hw 99 rfl) (tw_ hw 100 rfl) (by decide) (backOf (W := 0) (own_aapl l Z a0 hW b1 t1 k1 n i vs c0 h0 n0 (by omega) O0 hn hi hl E1 Fv1 Fc1 Fn1 Fm1 V1 g1 g2 hbt hce) hZ (tw_ hw 102 rfl) (tw_ hw 57 rfl) (by decide) (by decide)) e0 (Ins.self E1) (g := (mkF m 2 #[vr b1, vi c0] [(.int c0), (.ref b1)])) rfl (by rw [hml]; rfl) (tw_ hw 102 rfl) (argsL := [(.int c0)]) (rest := []) (lenOf pd_22 rfl) rfl (own_le rfl) (hb hby d34_2) (fun _ _ => ⟨rfl, e0, own_le rfl, own_le rfl⟩)
  dsimp only [Pt.U, Pt.locs, Pt.cells, Pt.slots] at X11 l11 y11 z11 st11 hQ11
  subst l11 y11 z11
  obtain ⟨rfl, Nq11, Kq11, a11, b11, c11, d11, f11m, V11⟩ := hQ11
  have N11 := Fr.app N0 Nq11
  have z12 := Kq11.1
  have K12 := K0.trans Kq11 (allS (Or.inl (List.mem_of_getElem? (i := 0) rfl)) (allS (Or.inl (List.mem_of_getElem? (i := 1) rfl)) all0))
  have O12 := O0.keep Kq11 (allS (by omega) (allS (by omega) all0))
  refine own_gs st11 ?_
  refine own_gs (cur' := T11.setTop (mkF m 7 #[vr b1, vi c0] [(.ref b1)])) ?_ ?_
  · refine XS.pop X11.here hx rfl (hb hby d34_5) rfl rfl ?_
    refine XS.aloadN X11.here hx rfl (hb hby d34_6) rfl rfl ?_
    exact Steps.refl _
  exact own_rA X11 Bd rfl (v := (.ref b1)) rfl (hb hby d34_7) rfl (⟨rfl, N11, K12, a11, b11, c11, d11, f11m, V11⟩) rfl rfl
def own_aapw_Q (Z : State) (b1 t1 : Nat) (k1 : ClassId) (n i : Nat) (vs : List Value) (c0 : Int32) (h0 : Heap) (n0 : Nat) (v : Option Value) (h : Heap) (L : List Loc) : Prop := v = some (.ref b1) ∧ Fr n0 L ∧ Keep h0 h [b1, t1] ∧ Exa Z h b1 "java/lang/StringBuilder" ∧ Fld Z h b1 "java/lang/AbstractStringBuilder" "value" "[B" (.ref t1) ∧ Fld Z h b1 "java/lang/AbstractStringBuilder" "coder" "B" (.int (1 : Int32)) ∧ Fld Z h b1 "java/lang/AbstractStringBuilder" "count" "I" (.int (Int32.ofNat (i + 1))) ∧ Fld Z h b1 "java/lang/AbstractStringBuilder" "maybeLatin1" "Z" (.int (0 : Int32)) ∧ Arv Z h t1 k1 .byte (Int32.ofNat (2 * n)) ((vs.set (2 * i) (.int (StrChars.lo8 c0))).set (2 * i + 1) (.int (StrChars.hi8 c0))) (.int (0 : Int32))
theorem ef_own_aapw (m : MethodId) (x0 : Nat) (x1 : Int32) : entryFrame m #[(.ref x0), (.int x1)] 2 = mkF m 0 #[vr x0, vi x1] [] := by first | (simp [entryFrame, mkF, argsToLocals, Value.category]; done) | rfl
set_option maxRecDepth 65536 in
set_option maxHeartbeats 40000000 in
theorem own_aapw (l : Launch) (Z : State) (a0 : Array Value) (hW : own_W Z a0) (b1 t1 : Nat) (k1 : ClassId) (n i : Nat) (vs : List Value) (c0 : Int32) (h0 : Heap) (n0 : Nat) (Z0 : n0 ≤ h0.size) (O0 : Old Z n0 h0) (hn : n ≤ 3) (hi : i < n) (hl : vs.length = 2 * n) (E1 : Exa Z h0 b1 "java/lang/StringBuilder") (Fv1 : Fld Z h0 b1 "java/lang/AbstractStringBuilder" "value" "[B" (.ref t1)) (Fc1 : Fld Z h0 b1 "java/lang/AbstractStringBuilder" "coder" "B" (.int (1 : Int32))) (Fn1 : Fld Z h0 b1 "java/lang/AbstractStringBuilder" "count" "I" (.int (Int32.ofNat i))) (Fm1 : Fld Z h0 b1 "java/lang/AbstractStringBuilder" "maybeLatin1" "Z" (.int (0 : Int32))) (V1 : Arv Z h0 t1 k1 .byte (Int32.ofNat (2 * n)) vs (.int (0 : Int32))) (g1 : n0 ≤ b1) (g2 : n0 ≤ t1) (hbt : b1 ≠ t1) :
    own_M l own_y33 own_c33 2 (some (.object "java/lang/AbstractStringBuilder")) (own_r 6 1 6 125) #[(.ref b1), (.int c0)] Z h0 (own_aapw_Q Z b1 t1 k1 n i vs c0 h0 n0) := by
  refine own_enter (own := "java/lang/AbstractStringBuilder") rfl (plainFor_of_name pn_java_lang_AbstractStringBuilder) (fun m => ef_own_aapw m b1 c0) ?_
  intro p e s m below meth c s₁ Bd hZ hh hx hby hml hown hnm X0 e0
  obtain ⟨hw, ⟨G1, O2, P5⟩, ⟨G3, O4, rG3⟩, Oa, Oh, Ol⟩ := id hW
  have N0 := Fr.nil n0
  have K0 := Keep.refl h0 [b1, t1]
  have lt1 := own_lt E1.lt
  have lt2 := own_lt V1.lt
  refine own_gs (cur' := s₁.setTop (mkF m 2 #[vr b1, vi c0] [(.ref b1), (.ref b1)])) ?_ ?_
  · refine XS.aloadN X0.here hx rfl (hb hby d33_0) rfl rfl ?_
    refine XS.aloadN X0.here hx rfl (hb hby d33_1) rfl rfl ?_
    exact Steps.refl _
  obtain ⟨T11, X11, e11, st11⟩ := getF X0 hx hZ hown (host := "") (Or.inl (tw_ hw 103 rfl)) Via.refl e0 Fn1 (g := (mkF m 2 #[vr b1, vi c0] [(.ref b1), (.ref b1)])) rfl rfl (hb hby d33_2)
  refine own_go st11 ?_
  refine own_gs (cur' := T11.setTop (mkF m 7 #[vr b1, vi c0] [(.int ((Int32.ofNat i) + (1 : Int32))), (.ref b1)])) ?_ ?_
  · refine XS.iconst X11.here hx rfl (hb hby d33_5) ?_
    refine XS.iadd X11.here hx rfl (hb hby d33_6) rfl ?_
    exact Steps.refl _
  rw [own_p1]
  show own_Fin p e below (T11.setTop (mkF m 7 #[vr b1, vi c0] [(.int (Int32.ofNat (i + 1))), (.ref b1)])) _
  obtain ⟨cq12, q12, q12'⟩ := own_cell E1
  obtain ⟨_, _, ⟨T12, L12, k12, n12⟩, -, X12, ⟨Lc12, hQ12, l12, y12, z12⟩, st12⟩ := X11.privateBack hx (y := own_y25) hown (mvT hZ (tw_ hw 105 rfl)) (mvT hZ (tw_ hw 106 rfl)) (mvT hZ (own_selP (own_nf (notFace_of_selects (tw_ hw 108 rfl)) (tw_ hw 106 rfl) rfl) (tw_ hw 106 rfl) (tw_ hw 107 rfl) (by decide))) (Cond.privateMethod_at (mvP hZ (tw_ hw 107 rfl) (args := #[]))) (mvT hZ (tw_ hw 109 rfl)) (by decide) (backOf (W := 0) (own_eci1 l Z a0 hW b1 t1 k1 n i vs h0 n0 (by omega) O0 hn hi E1 Fv1 Fc1 Fn1 Fm1 V1) hZ (tw_ hw 109 rfl) (tw_ hw 57 rfl) (by decide) (by decide)) (g := (mkF m 7 #[vr b1, vi c0] [(.int (Int32.ofNat (i + 1))), (.ref b1)])) rfl (by rw [hml]; rfl) (Steps.refl _) (a := b1) (by rw [e11]; exact q12) q12' (argsL := [(.int (Int32.ofNat (i + 1)))]) (rest := []) (lenOf pd_16 rfl) rfl (own_le rfl) (hb hby d33_7) (fun _ _ => ⟨rfl, e11, own_le rfl, own_le rfl⟩)
  dsimp only [Pt.U, Pt.locs, Pt.cells, Pt.slots] at X12 l12 y12 z12 st12 hQ12
  subst l12 y12 z12
  obtain ⟨rfl, Nq12, eh12⟩ := hQ12
  have N12 := Fr.app N0 Nq12
  refine own_gs st12 ?_
  refine own_gs (cur' := T12.setTop (mkF m 11 #[vr b1, vi c0] [(.ref b1)])) ?_ ?_
  · refine XS.aloadN X12.here hx rfl (hb hby d33_10) rfl rfl ?_
    exact Steps.refl _
  obtain ⟨cq13, kq13, q13a, q13b, q13c⟩ := isOf hZ eh12 E1
  obtain ⟨_, _, ⟨T13, L13, k13, n13⟩, -, X13, ⟨Lc13, hQ13, l13, y13, z13⟩, st13⟩ := X12.virtualBack hx (y := own_y24) (z := own_y24) hown (mvT hZ (tw_ hw 110 rfl)) (mvT hZ (tw_ hw 111 rfl)) (notFace_of_selects (args := #[]) (mvT hZ (tw_ hw 113 rfl))) (mvT hZ (tw_ hw 113 rfl)) (mvT hZ (tw_ hw 112 rfl)) (by decide) (backOf (W := 0) (own_ais1 l Z a0 hW b1 h0 n0 (by omega) O0 Fc1) hZ (tw_ hw 114 rfl) (tw_ hw 57 rfl) (by decide) (by decide)) q13a q13c (g := (mkF m 11 #[vr b1, vi c0] [(.ref b1)])) rfl (by rw [hml]; rfl) (Steps.refl _) (argsL := []) (rest := []) (lenOf pd_6 rfl) rfl (own_le rfl) (hb hby d33_11) (fun _ _ => ⟨rfl, eh12, own_le rfl, own_le rfl⟩)
  dsimp only [Pt.U, Pt.locs, Pt.cells, Pt.slots] at X13 l13 y13 z13 st13 hQ13
  subst l13 y13 z13
  obtain ⟨rfl, Nq13, eh13⟩ := hQ13
  have N13 := Fr.app N12 Nq13
  refine own_gs st13 ?_
  refine own_gs (cur' := T13.setTop (mkF m 46 #[vr b1, vi c0] [(.ref b1)])) ?_ ?_
  · refine XS.ifYes X13.here hx rfl (pc0 := 14) (pc' := 45) rfl (hb hby d33_14) rfl ((if0 _ _).trans (teq ((by decide) : (0 : Int32) = (0 : Int32))).1) (by decide) (by decide) ?_
    refine XS.aloadN X13.here hx rfl (hb hby d33_45) rfl rfl ?_
    exact Steps.refl _
  obtain ⟨cq14, kq14, q14a, q14b, q14c⟩ := isOf hZ eh13 E1
  obtain ⟨_, _, ⟨T14, L14, k14, n14⟩, -, X14, ⟨Lc14, hQ14, l14, y14, z14⟩, st14⟩ := X13.virtualBack hx (y := own_y24) (z := own_y24) hown (mvT hZ (tw_ hw 110 rfl)) (mvT hZ (tw_ hw 111 rfl)) (notFace_of_selects (args := #[]) (mvT hZ (tw_ hw 113 rfl))) (mvT hZ (tw_ hw 113 rfl)) (mvT hZ (tw_ hw 112 rfl)) (by decide) (backOf (W := 0) (own_ais1 l Z a0 hW b1 h0 n0 (by omega) O0 Fc1) hZ (tw_ hw 114 rfl) (tw_ hw 57 rfl) (by decide) (by decide)) q14a q14c (g := (mkF m 46 #[vr b1, vi c0] [(.ref b1)])) rfl (by rw [hml]; rfl) (Steps.refl _) (argsL := []) (rest := []) (lenOf pd_6 rfl) rfl (own_le rfl) (hb hby d33_46) (fun _ _ => ⟨rfl, eh13, own_le rfl, own_le rfl⟩)
  dsimp only [Pt.U, Pt.locs, Pt.cells, Pt.slots] at X14 l14 y14 z14 st14 hQ14
  subst l14 y14 z14
  obtain ⟨rfl, Nq14, eh14⟩ := hQ14
  have N14 := Fr.app N13 Nq14
  refine own_gs st14 ?_
  refine own_gs (cur' := T14.setTop (mkF m 57 #[vr b1, vi c0] [(.ref b1)])) ?_ ?_
  · refine XS.ifYes X14.here hx rfl (pc0 := 49) (pc' := 56) rfl (hb hby d33_49) rfl ((if0 _ _).trans (teq ((by decide) : (0 : Int32) = (0 : Int32))).1) (by decide) (by decide) ?_
    refine XS.aloadN X14.here hx rfl (hb hby d33_56) rfl rfl ?_
    exact Steps.refl _
  obtain ⟨T15, X15, e15, st15⟩ := getF X14 hx hZ hown (host := "") (Or.inl (tw_ hw 61 rfl)) Via.refl eh14 Fv1 (g := (mkF m 57 #[vr b1, vi c0] [(.ref b1)])) rfl rfl (hb hby d33_57)
  refine own_go st15 ?_
  refine own_gs (cur' := T15.setTop (mkF m 62 #[vr b1, vi c0] [(.ref b1), (.ref b1), (.ref t1)])) ?_ ?_
  · refine XS.aloadN X15.here hx rfl (hb hby d33_60) rfl rfl ?_
    refine XS.dup X15.here hx rfl (hb hby d33_61) rfl rfl ?_
    exact Steps.refl _
  obtain ⟨T16, X16, e16, st16⟩ := getF X15 hx hZ hown (host := "") (Or.inl (tw_ hw 103 rfl)) Via.refl e15 Fn1 (g := (mkF m 62 #[vr b1, vi c0] [(.ref b1), (.ref b1), (.ref t1)])) rfl rfl (hb hby d33_62)
  refine own_go st16 ?_
  refine own_gs (cur' := T16.setTop (mkF m 68 #[vr b1, vi c0] [(.int ((Int32.ofNat i) + (1 : Int32))), (.ref b1), (.int (Int32.ofNat i)), (.ref t1)])) ?_ ?_
  · refine XS.dupX1 X16.here hx rfl (hb hby d33_65) rfl rfl rfl ?_
    refine XS.iconst X16.here hx rfl (hb hby d33_66) ?_
    refine XS.iadd X16.here hx rfl (hb hby d33_67) rfl ?_
    exact Steps.refl _
  rw [own_p1]
  show own_Fin p e below (T16.setTop (mkF m 68 #[vr b1, vi c0] [(.int (Int32.ofNat (i + 1))), (.ref b1), (.int (Int32.ofNat i)), (.ref t1)])) _
  obtain ⟨T17, h17, X17, e17, W17, st17⟩ := putF X16 hx hZ hown (host := "") (Or.inl (tw_ hw 103 rfl)) Via.refl e16 Fn1 E1 (Or.inl (tw_ hw 104 rfl)) (tw_ hw 38 rfl) (ty := .int) (by decide) rfl rfl (g := (mkF m 68 #[vr b1, vi c0] [(.int (Int32.ofNat (i + 1))), (.ref b1), (.int (Int32.ofNat i)), (.ref t1)])) rfl rfl (hb hby d33_68)
  have F17 := Fn1.same W17
  refine own_go st17 ?_
  have z18 := W17.size
  have K18 := K0.wr W17 (Or.inl (List.mem_of_getElem? (i := 0) rfl))
  have O18 := O0.wr W17 (by omega)
  have N18 := Fr.snoc X17 N14 (by omega)
  have f19 := (V1.other W17 (own_ne (a := t1) (b := b1) (by omega)))
  refine own_gs (cur' := T17.setTop (mkF m 72 #[vr b1, vi c0] [(.int c0), (.int (Int32.ofNat i)), (.ref t1)])) ?_ ?_
  · refine XS.iloadN X17.here hx rfl (hb hby d33_71) rfl ?_
    exact Steps.refl _
  obtain ⟨_, _, ⟨T20, L20, k20, n20⟩, -, X20, ⟨Lc20, hQ20, l20, y20, z20⟩, st20⟩ := Jvm.LawKit.callS X17 hx (y := own_y26) hown (mvT hZ (tw_ hw 232 rfl)) (mvT hZ (tw_ hw 233 rfl)) (mvT hZ (tw_ hw 170 rfl)) (mvT hZ (tw_ hw 234 rfl)) (by decide) (backOf (W := 0) (own_psb l Z a0 hW t1 k1 n i vs c0 h17 n0 (by omega) O18 hn hi hl g2 f19) hZ (tw_ hw 234 rfl) (tw_ hw 170 rfl) (by decide) (by decide)) (g := (mkF m 72 #[vr b1, vi c0] [(.int c0), (.int (Int32.ofNat i)), (.ref t1)])) rfl (by rw [hml]; rfl) (argsL := [(.ref t1), (.int (Int32.ofNat i)), (.int c0)]) (rest := []) (lenOf pd_9 rfl) rfl (own_le rfl) (hb hby d33_72) (fun _ _ => ⟨rfl, e17, own_le rfl, own_le rfl⟩)
  dsimp only [Pt.U, Pt.locs, Pt.cells, Pt.slots] at X20 l20 y20 z20 st20 hQ20
  subst l20 y20 z20
  obtain ⟨rfl, Nq20, Kq20, Vt20⟩ := hQ20
  have N20 := Fr.app N18 Nq20
  have z21 := Kq20.1
  have K21 := K18.trans Kq20 (allS (Or.inl (List.mem_of_getElem? (i := 1) rfl)) all0)
  have O21 := O18.keep Kq20 (allS (by omega) all0)
  refine own_go st20 ?_
  have Vf := Vt20
  have f22 := ((E1.wr W17).keep Kq20)
  have f23 := ((Fv1.other W17 (Or.inr (slot_ne (Or.inl (tw_ hw 62 rfl)) (Or.inl (tw_ hw 104 rfl)) (by decide) (t := (.array .byte)) (t' := .int) (by decide) (by decide)))).keep Kq20 (ninS (own_ne (a := b1) (b := t1) (by omega)) nin0))
  have f24 := ((Fc1.other W17 (Or.inr (slot_ne (Or.inl (tw_ hw 64 rfl)) (Or.inl (tw_ hw 104 rfl)) (by decide) (t := .byte) (t' := .int) (by decide) (by decide)))).keep Kq20 (ninS (own_ne (a := b1) (b := t1) (by omega)) nin0))
  have f25 := (F17.keep Kq20 (ninS (own_ne (a := b1) (b := t1) (by omega)) nin0))
  have f26 := ((Fm1.other W17 (Or.inr (slot_ne (Or.inl (tw_ hw 236 rfl)) (Or.inl (tw_ hw 104 rfl)) (by decide) (t := .boolean) (t' := .int) (by decide) (by decide)))).keep Kq20 (ninS (own_ne (a := b1) (b := t1) (by omega)) nin0))
  refine own_gs (cur' := T20.setTop (mkF m 76 #[vr b1, vi c0] [(.ref b1)])) ?_ ?_
  · refine XS.aloadN X20.here hx rfl (hb hby d33_75) rfl rfl ?_
    exact Steps.refl _
  exact own_rA X20 Bd rfl (v := (.ref b1)) rfl (hb hby d33_76) rfl (⟨rfl, N20, K21, f22, f23, f24, f25, f26, Vf⟩) rfl rfl
def own_sapw_Q (Z : State) (b1 t1 : Nat) (k1 : ClassId) (n i : Nat) (vs : List Value) (c0 : Int32) (h0 : Heap) (n0 : Nat) (v : Option Value) (h : Heap) (L : List Loc) : Prop := v = some (.ref b1) ∧ Fr n0 L ∧ Keep h0 h [b1, t1] ∧ Exa Z h b1 "java/lang/StringBuilder" ∧ Fld Z h b1 "java/lang/AbstractStringBuilder" "value" "[B" (.ref t1) ∧ Fld Z h b1 "java/lang/AbstractStringBuilder" "coder" "B" (.int (1 : Int32)) ∧ Fld Z h b1 "java/lang/AbstractStringBuilder" "count" "I" (.int (Int32.ofNat (i + 1))) ∧ Fld Z h b1 "java/lang/AbstractStringBuilder" "maybeLatin1" "Z" (.int (0 : Int32)) ∧ Arv Z h t1 k1 .byte (Int32.ofNat (2 * n)) ((vs.set (2 * i) (.int (StrChars.lo8 c0))).set (2 * i + 1) (.int (StrChars.hi8 c0))) (.int (0 : Int32))
theorem ef_own_sapw (m : MethodId) (x0 : Nat) (x1 : Int32) : entryFrame m #[(.ref x0), (.int x1)] 2 = mkF m 0 #[vr x0, vi x1] [] := by first | (simp [entryFrame, mkF, argsToLocals, Value.category]; done) | rfl
set_option maxRecDepth 65536 in
set_option maxHeartbeats 40000000 in
theorem own_sapw (l : Launch) (Z : State) (a0 : Array Value) (hW : own_W Z a0) (b1 t1 : Nat) (k1 : ClassId) (n i : Nat) (vs : List Value) (c0 : Int32) (h0 : Heap) (n0 : Nat) (Z0 : n0 ≤ h0.size) (O0 : Old Z n0 h0) (hn : n ≤ 3) (hi : i < n) (hl : vs.length = 2 * n) (E1 : Exa Z h0 b1 "java/lang/StringBuilder") (Fv1 : Fld Z h0 b1 "java/lang/AbstractStringBuilder" "value" "[B" (.ref t1)) (Fc1 : Fld Z h0 b1 "java/lang/AbstractStringBuilder" "coder" "B" (.int (1 : Int32))) (Fn1 : Fld Z h0 b1 "java/lang/AbstractStringBuilder" "count" "I" (.int (Int32.ofNat i))) (Fm1 : Fld Z h0 b1 "java/lang/AbstractStringBuilder" "maybeLatin1" "Z" (.int (0 : Int32))) (V1 : Arv Z h0 t1 k1 .byte (Int32.ofNat (2 * n)) vs (.int (0 : Int32))) (g1 : n0 ≤ b1) (g2 : n0 ≤ t1) (hbt : b1 ≠ t1) :
    own_M l own_y34 own_c34 2 (some (.object "java/lang/StringBuilder")) (own_r 7 1 6 144) #[(.ref b1), (.int c0)] Z h0 (own_sapw_Q Z b1 t1 k1 n i vs c0 h0 n0) := by
  refine own_enter (own := "java/lang/StringBuilder") rfl (plainFor_of_name pn_java_lang_StringBuilder) (fun m => ef_own_sapw m b1 c0) ?_
  intro p e s m below meth c s₁ Bd hZ hh hx hby hml hown hnm X0 e0
  obtain ⟨hw, ⟨G1, O2, P5⟩, ⟨G3, O4, rG3⟩, Oa, Oh, Ol⟩ := id hW
  have N0 := Fr.nil n0
  have K0 := Keep.refl h0 [b1, t1]
  have lt1 := own_lt E1.lt
  have lt2 := own_lt V1.lt
  refine own_gs (cur' := s₁.setTop (mkF m 2 #[vr b1, vi c0] [(.int c0), (.ref b1)])) ?_ ?_
  · refine XS.aloadN X0.here hx rfl (hb hby d34_0) rfl rfl ?_
    refine XS.iloadN X0.here hx rfl (hb hby d34_1) rfl ?_
    exact Steps.refl _
  obtain ⟨_, _, ⟨T11, L11, k11, n11⟩, -, X11, ⟨Lc11, hQ11, l11, y11, z11⟩, st11⟩ := superBack X0 hx hZ (y := own_y33) hown (tw_ hw 98 rfl) (own_sameM (own_nf (notFace_of_selects (tw_ hw 108 rfl)) (tw_ hw 106 rfl) rfl) (tw_ hw 99 rfl) (by decide)) (tw_ hw 99 rfl) (tw_ hw 100 rfl) (by decide) (backOf (W := 0) (own_aapw l Z a0 hW b1 t1 k1 n i vs c0 h0 n0 (by omega) O0 hn hi hl E1 Fv1 Fc1 Fn1 Fm1 V1 g1 g2 hbt) hZ (tw_ hw 102 rfl) (tw_ hw 57 rfl) (by decide) (by decide)) e0 (Ins.self E1) (g := (mkF m 2 #[vr b1, vi c0] [(.int c0), (.ref b1)])) rfl (by rw [hml]; rfl) (tw_ hw 102 rfl) (argsL := [(.int c0)]) (rest := []) (lenOf pd_22 rfl) rfl (own_le rfl) (hb hby d34_2) (fun _ _ => ⟨rfl, e0, own_le rfl, own_le rfl⟩)
  dsimp only [Pt.U, Pt.locs, Pt.cells, Pt.slots] at X11 l11 y11 z11 st11 hQ11
  subst l11 y11 z11
  obtain ⟨rfl, Nq11, Kq11, a11, b11, c11, d11, f11m, V11⟩ := hQ11
  have N11 := Fr.app N0 Nq11
  have z12 := Kq11.1
  have K12 := K0.trans Kq11 (allS (Or.inl (List.mem_of_getElem? (i := 0) rfl)) (allS (Or.inl (List.mem_of_getElem? (i := 1) rfl)) all0))
  have O12 := O0.keep Kq11 (allS (by omega) (allS (by omega) all0))
  refine own_gs st11 ?_
  refine own_gs (cur' := T11.setTop (mkF m 7 #[vr b1, vi c0] [(.ref b1)])) ?_ ?_
  · refine XS.pop X11.here hx rfl (hb hby d34_5) rfl rfl ?_
    refine XS.aloadN X11.here hx rfl (hb hby d34_6) rfl rfl ?_
    exact Steps.refl _
  exact own_rA X11 Bd rfl (v := (.ref b1)) rfl (hb hby d34_7) rfl (⟨rfl, N11, K12, a11, b11, c11, d11, f11m, V11⟩) rfl rfl
section OwnAp
variable {p : Program} {l : Launch} {e : Env} {R : Room} {s : State} {args : Array Value} {below : List Frame} {Z : State} {a0 : Array Value} {h : Heap}
theorem own_ap10 {len W : Nat} (hZ : Z.Warmed39 s.vm) (hW : own_W Z a0) {b t : Nat} {c : Int32} (F : own_SB Z h b t 1 []) (hds : ∀ d ∈ ([] : List Int32), ¬ d < 0 ∧ ¬ (65535 : Int32) < d) {n0 : Nat} (hn0 : n0 ≤ h.size) (O0 : Old Z n0 h) (g1 : n0 ≤ b) (g2 : n0 ≤ t) (hbt : b ≠ t) (hfr : 8 ≤ R.frames) (hlo : W + 157 ≤ R.locals) :
    Back l R p e below s args (⟨"java/lang/StringBuilder", "append", "(C)Ljava/lang/StringBuilder;"⟩ : MethodName) len W (fun P a => a = #[.ref b, .int c] ∧ P.U.heap = h ∧ P.cells + 1 ≤ R.cells ∧ P.slots + 6 ≤ R.slots)
      (fun P _ v B => ∃ L, (v = some (.ref b) ∧ Fr n0 L ∧ Keep h B.U.heap [b, t] ∧ ∃ t' : Nat, own_SB Z B.U.heap b t' 1 [c] ∧ b ≠ t' ∧ (t' = t ∨ h.size ≤ t')) ∧ B.locs = P.locs ++ L ∧ B.cells = P.cells + 1 ∧ B.slots = P.slots + 6) := by
  have hw := hW.1
  obtain ⟨k, cd, N, vs, f1, f2, f3, f4, f5, f6, f7, f8⟩ := F
  have ltb := own_lt f1.lt
  rcases f8 with ⟨rfl, rfl, rfl, f8⟩ | ⟨rfl, rfl, rfl, f8⟩
  · by_cases hc : (255 : Int32) < c
    · refine Back.mono (backOf (own_sapi0 l Z a0 hW b t k 1 _  c h n0 hn0 O0 (by decide) (by decide) f1 f2 f3 f4 f5 f6 g1 hbt  hc) hZ (tw_ hw 97 rfl) (tw_ hw 39 rfl) (by show 7 + 1 ≤ R.frames; omega) (by show W + (2 + 11) + 144 ≤ R.locals; omega)) (fun _ _ q => q) ?_
      rintro P a v B - ⟨L, ⟨t', k', rfl, q2, q3, q4, q5, q6, q7, q8, q9, q10, q11⟩, r3⟩
      have ge : h.size ≤ t' := q11
      refine ⟨L, ⟨rfl, q2, own_keep2 q3, t', ⟨_, _, _, _, q4, q5, q6, q7, q8, q9, q10, Or.inr ⟨rfl, rfl, rfl, c, List.mem_of_getElem? (i := 0) rfl, hc⟩⟩, ?_, Or.inr ge⟩, r3⟩
      omega
    · refine Back.mono (backOf (own_sapl l Z a0 hW b t k 1 0 _ c h n0 hn0 O0 (by decide) (by decide) rfl f1 f2 f3 f4 f5 f6 g1 g2 hbt hc) hZ (tw_ hw 97 rfl) (tw_ hw 39 rfl) (by show 7 + 1 ≤ R.frames; omega) (by show W + (2 + 11) + 144 ≤ R.locals; omega)) (fun _ _ q => q) ?_
      rintro P a v B - ⟨L, ⟨rfl, q2, q3, q4, q5, q6, q7, q8, q9⟩, r3⟩
      exact ⟨L, ⟨rfl, q2, q3, t, ⟨_, _, _, _, q4, q5, q6, q7, q8, q9, f7, Or.inl ⟨rfl, rfl, rfl, fun z hz => by
      simp only [List.mem_cons, List.not_mem_nil, or_false] at hz
      rcases hz with rfl
      · exact hc⟩⟩, hbt, Or.inl rfl⟩, r3⟩
  · refine Back.mono (backOf (own_sapw l Z a0 hW b t k 1 0 _ c h n0 hn0 O0 (by decide) (by decide) rfl f1 f2 f3 f4 f5 f6 g1 g2 hbt) hZ (tw_ hw 97 rfl) (tw_ hw 39 rfl) (by show 7 + 1 ≤ R.frames; omega) (by show W + (2 + 11) + 144 ≤ R.locals; omega)) (fun _ _ q => q) ?_
    rintro P a v B - ⟨L, ⟨rfl, q2, q3, q4, q5, q6, q7, q8, q9⟩, r3⟩
    obtain ⟨z, hz, hz2⟩ := f8
    exact ⟨L, ⟨rfl, q2, q3, t, ⟨_, _, _, _, q4, q5, q6, q7, q8, q9, f7, Or.inr ⟨rfl, rfl, rfl, z, List.mem_append_left [c] hz, hz2⟩⟩, hbt, Or.inl rfl⟩, r3⟩
end OwnAp
section OwnAp
variable {p : Program} {l : Launch} {e : Env} {R : Room} {s : State} {args : Array Value} {below : List Frame} {Z : State} {a0 : Array Value} {h : Heap}
theorem own_ap20 {len W : Nat} (hZ : Z.Warmed39 s.vm) (hW : own_W Z a0) {b t : Nat} {c : Int32} (F : own_SB Z h b t 2 []) (hds : ∀ d ∈ ([] : List Int32), ¬ d < 0 ∧ ¬ (65535 : Int32) < d) {n0 : Nat} (hn0 : n0 ≤ h.size) (O0 : Old Z n0 h) (g1 : n0 ≤ b) (g2 : n0 ≤ t) (hbt : b ≠ t) (hfr : 8 ≤ R.frames) (hlo : W + 157 ≤ R.locals) :
    Back l R p e below s args (⟨"java/lang/StringBuilder", "append", "(C)Ljava/lang/StringBuilder;"⟩ : MethodName) len W (fun P a => a = #[.ref b, .int c] ∧ P.U.heap = h ∧ P.cells + 1 ≤ R.cells ∧ P.slots + 6 ≤ R.slots)
      (fun P _ v B => ∃ L, (v = some (.ref b) ∧ Fr n0 L ∧ Keep h B.U.heap [b, t] ∧ ∃ t' : Nat, own_SB Z B.U.heap b t' 2 [c] ∧ b ≠ t' ∧ (t' = t ∨ h.size ≤ t')) ∧ B.locs = P.locs ++ L ∧ B.cells = P.cells + 1 ∧ B.slots = P.slots + 6) := by
  have hw := hW.1
  obtain ⟨k, cd, N, vs, f1, f2, f3, f4, f5, f6, f7, f8⟩ := F
  have ltb := own_lt f1.lt
  rcases f8 with ⟨rfl, rfl, rfl, f8⟩ | ⟨rfl, rfl, rfl, f8⟩
  · by_cases hc : (255 : Int32) < c
    · refine Back.mono (backOf (own_sapi0 l Z a0 hW b t k 2 _  c h n0 hn0 O0 (by decide) (by decide) f1 f2 f3 f4 f5 f6 g1 hbt  hc) hZ (tw_ hw 97 rfl) (tw_ hw 39 rfl) (by show 7 + 1 ≤ R.frames; omega) (by show W + (2 + 11) + 144 ≤ R.locals; omega)) (fun _ _ q => q) ?_
      rintro P a v B - ⟨L, ⟨t', k', rfl, q2, q3, q4, q5, q6, q7, q8, q9, q10, q11⟩, r3⟩
      have ge : h.size ≤ t' := q11
      refine ⟨L, ⟨rfl, q2, own_keep2 q3, t', ⟨_, _, _, _, q4, q5, q6, q7, q8, q9, q10, Or.inr ⟨rfl, rfl, rfl, c, List.mem_of_getElem? (i := 0) rfl, hc⟩⟩, ?_, Or.inr ge⟩, r3⟩
      omega
    · refine Back.mono (backOf (own_sapl l Z a0 hW b t k 2 0 _ c h n0 hn0 O0 (by decide) (by decide) rfl f1 f2 f3 f4 f5 f6 g1 g2 hbt hc) hZ (tw_ hw 97 rfl) (tw_ hw 39 rfl) (by show 7 + 1 ≤ R.frames; omega) (by show W + (2 + 11) + 144 ≤ R.locals; omega)) (fun _ _ q => q) ?_
      rintro P a v B - ⟨L, ⟨rfl, q2, q3, q4, q5, q6, q7, q8, q9⟩, r3⟩
      exact ⟨L, ⟨rfl, q2, q3, t, ⟨_, _, _, _, q4, q5, q6, q7, q8, q9, f7, Or.inl ⟨rfl, rfl, rfl, fun z hz => by
      simp only [List.mem_cons, List.not_mem_nil, or_false] at hz
      rcases hz with rfl
      · exact hc⟩⟩, hbt, Or.inl rfl⟩, r3⟩
  · refine Back.mono (backOf (own_sapw l Z a0 hW b t k 2 0 _ c h n0 hn0 O0 (by decide) (by decide) rfl f1 f2 f3 f4 f5 f6 g1 g2 hbt) hZ (tw_ hw 97 rfl) (tw_ hw 39 rfl) (by show 7 + 1 ≤ R.frames; omega) (by show W + (2 + 11) + 144 ≤ R.locals; omega)) (fun _ _ q => q) ?_
    rintro P a v B - ⟨L, ⟨rfl, q2, q3, q4, q5, q6, q7, q8, q9⟩, r3⟩
    obtain ⟨z, hz, hz2⟩ := f8
    exact ⟨L, ⟨rfl, q2, q3, t, ⟨_, _, _, _, q4, q5, q6, q7, q8, q9, f7, Or.inr ⟨rfl, rfl, rfl, z, List.mem_append_left [c] hz, hz2⟩⟩, hbt, Or.inl rfl⟩, r3⟩
end OwnAp
section OwnAp
variable {p : Program} {l : Launch} {e : Env} {R : Room} {s : State} {args : Array Value} {below : List Frame} {Z : State} {a0 : Array Value} {h : Heap}
theorem own_ap21 {len W : Nat} (hZ : Z.Warmed39 s.vm) (hW : own_W Z a0) {b t : Nat} {d0 : Int32} {c : Int32} (F : own_SB Z h b t 2 [d0]) (hds : ∀ d ∈ ([d0] : List Int32), ¬ d < 0 ∧ ¬ (65535 : Int32) < d) {n0 : Nat} (hn0 : n0 ≤ h.size) (O0 : Old Z n0 h) (g1 : n0 ≤ b) (g2 : n0 ≤ t) (hbt : b ≠ t) (hfr : 8 ≤ R.frames) (hlo : W + 157 ≤ R.locals) :
    Back l R p e below s args (⟨"java/lang/StringBuilder", "append", "(C)Ljava/lang/StringBuilder;"⟩ : MethodName) len W (fun P a => a = #[.ref b, .int c] ∧ P.U.heap = h ∧ P.cells + 1 ≤ R.cells ∧ P.slots + 6 ≤ R.slots)
      (fun P _ v B => ∃ L, (v = some (.ref b) ∧ Fr n0 L ∧ Keep h B.U.heap [b, t] ∧ ∃ t' : Nat, own_SB Z B.U.heap b t' 2 [d0, c] ∧ b ≠ t' ∧ (t' = t ∨ h.size ≤ t')) ∧ B.locs = P.locs ++ L ∧ B.cells = P.cells + 1 ∧ B.slots = P.slots + 6) := by
  have hw := hW.1
  obtain ⟨k, cd, N, vs, f1, f2, f3, f4, f5, f6, f7, f8⟩ := F
  have ltb := own_lt f1.lt
  rcases f8 with ⟨rfl, rfl, rfl, f8⟩ | ⟨rfl, rfl, rfl, f8⟩
  · by_cases hc : (255 : Int32) < c
    · refine Back.mono (backOf (own_sapi1 l Z a0 hW b t k 2 _ d0 c h n0 hn0 O0 (by decide) (by decide) f1 f2 f3 f4 f5 f6 g1 hbt rfl ⟨(hds _ (List.mem_of_getElem? (i := 0) rfl)).1, f8 _ (List.mem_of_getElem? (i := 0) rfl)⟩ hc) hZ (tw_ hw 97 rfl) (tw_ hw 39 rfl) (by show 7 + 1 ≤ R.frames; omega) (by show W + (2 + 11) + 144 ≤ R.locals; omega)) (fun _ _ q => q) ?_
      rintro P a v B - ⟨L, ⟨t', k', rfl, q2, q3, q4, q5, q6, q7, q8, q9, q10, q11⟩, r3⟩
      have ge : h.size ≤ t' := q11
      refine ⟨L, ⟨rfl, q2, own_keep2 q3, t', ⟨_, _, _, _, q4, q5, q6, q7, q8, q9, q10, Or.inr ⟨rfl, rfl, rfl, c, List.mem_of_getElem? (i := 1) rfl, hc⟩⟩, ?_, Or.inr ge⟩, r3⟩
      omega
    · refine Back.mono (backOf (own_sapl l Z a0 hW b t k 2 1 _ c h n0 hn0 O0 (by decide) (by decide) rfl f1 f2 f3 f4 f5 f6 g1 g2 hbt hc) hZ (tw_ hw 97 rfl) (tw_ hw 39 rfl) (by show 7 + 1 ≤ R.frames; omega) (by show W + (2 + 11) + 144 ≤ R.locals; omega)) (fun _ _ q => q) ?_
      rintro P a v B - ⟨L, ⟨rfl, q2, q3, q4, q5, q6, q7, q8, q9⟩, r3⟩
      exact ⟨L, ⟨rfl, q2, q3, t, ⟨_, _, _, _, q4, q5, q6, q7, q8, q9, f7, Or.inl ⟨rfl, rfl, rfl, fun z hz => by
      simp only [List.mem_cons, List.not_mem_nil, or_false] at hz
      rcases hz with rfl | rfl
      · exact f8 _ (List.mem_of_getElem? (i := 0) rfl)
      · exact hc⟩⟩, hbt, Or.inl rfl⟩, r3⟩
  · refine Back.mono (backOf (own_sapw l Z a0 hW b t k 2 1 _ c h n0 hn0 O0 (by decide) (by decide) rfl f1 f2 f3 f4 f5 f6 g1 g2 hbt) hZ (tw_ hw 97 rfl) (tw_ hw 39 rfl) (by show 7 + 1 ≤ R.frames; omega) (by show W + (2 + 11) + 144 ≤ R.locals; omega)) (fun _ _ q => q) ?_
    rintro P a v B - ⟨L, ⟨rfl, q2, q3, q4, q5, q6, q7, q8, q9⟩, r3⟩
    obtain ⟨z, hz, hz2⟩ := f8
    exact ⟨L, ⟨rfl, q2, q3, t, ⟨_, _, _, _, q4, q5, q6, q7, q8, q9, f7, Or.inr ⟨rfl, rfl, rfl, z, List.mem_append_left [c] hz, hz2⟩⟩, hbt, Or.inl rfl⟩, r3⟩
end OwnAp
section OwnAp
variable {p : Program} {l : Launch} {e : Env} {R : Room} {s : State} {args : Array Value} {below : List Frame} {Z : State} {a0 : Array Value} {h : Heap}
theorem own_ap30 {len W : Nat} (hZ : Z.Warmed39 s.vm) (hW : own_W Z a0) {b t : Nat} {c : Int32} (F : own_SB Z h b t 3 []) (hds : ∀ d ∈ ([] : List Int32), ¬ d < 0 ∧ ¬ (65535 : Int32) < d) {n0 : Nat} (hn0 : n0 ≤ h.size) (O0 : Old Z n0 h) (g1 : n0 ≤ b) (g2 : n0 ≤ t) (hbt : b ≠ t) (hfr : 8 ≤ R.frames) (hlo : W + 157 ≤ R.locals) :
    Back l R p e below s args (⟨"java/lang/StringBuilder", "append", "(C)Ljava/lang/StringBuilder;"⟩ : MethodName) len W (fun P a => a = #[.ref b, .int c] ∧ P.U.heap = h ∧ P.cells + 1 ≤ R.cells ∧ P.slots + 6 ≤ R.slots)
      (fun P _ v B => ∃ L, (v = some (.ref b) ∧ Fr n0 L ∧ Keep h B.U.heap [b, t] ∧ ∃ t' : Nat, own_SB Z B.U.heap b t' 3 [c] ∧ b ≠ t' ∧ (t' = t ∨ h.size ≤ t')) ∧ B.locs = P.locs ++ L ∧ B.cells = P.cells + 1 ∧ B.slots = P.slots + 6) := by
  have hw := hW.1
  obtain ⟨k, cd, N, vs, f1, f2, f3, f4, f5, f6, f7, f8⟩ := F
  have ltb := own_lt f1.lt
  rcases f8 with ⟨rfl, rfl, rfl, f8⟩ | ⟨rfl, rfl, rfl, f8⟩
  · by_cases hc : (255 : Int32) < c
    · refine Back.mono (backOf (own_sapi0 l Z a0 hW b t k 3 _  c h n0 hn0 O0 (by decide) (by decide) f1 f2 f3 f4 f5 f6 g1 hbt  hc) hZ (tw_ hw 97 rfl) (tw_ hw 39 rfl) (by show 7 + 1 ≤ R.frames; omega) (by show W + (2 + 11) + 144 ≤ R.locals; omega)) (fun _ _ q => q) ?_
      rintro P a v B - ⟨L, ⟨t', k', rfl, q2, q3, q4, q5, q6, q7, q8, q9, q10, q11⟩, r3⟩
      have ge : h.size ≤ t' := q11
      refine ⟨L, ⟨rfl, q2, own_keep2 q3, t', ⟨_, _, _, _, q4, q5, q6, q7, q8, q9, q10, Or.inr ⟨rfl, rfl, rfl, c, List.mem_of_getElem? (i := 0) rfl, hc⟩⟩, ?_, Or.inr ge⟩, r3⟩
      omega
    · refine Back.mono (backOf (own_sapl l Z a0 hW b t k 3 0 _ c h n0 hn0 O0 (by decide) (by decide) rfl f1 f2 f3 f4 f5 f6 g1 g2 hbt hc) hZ (tw_ hw 97 rfl) (tw_ hw 39 rfl) (by show 7 + 1 ≤ R.frames; omega) (by show W + (2 + 11) + 144 ≤ R.locals; omega)) (fun _ _ q => q) ?_
      rintro P a v B - ⟨L, ⟨rfl, q2, q3, q4, q5, q6, q7, q8, q9⟩, r3⟩
      exact ⟨L, ⟨rfl, q2, q3, t, ⟨_, _, _, _, q4, q5, q6, q7, q8, q9, f7, Or.inl ⟨rfl, rfl, rfl, fun z hz => by
      simp only [List.mem_cons, List.not_mem_nil, or_false] at hz
      rcases hz with rfl
      · exact hc⟩⟩, hbt, Or.inl rfl⟩, r3⟩
  · refine Back.mono (backOf (own_sapw l Z a0 hW b t k 3 0 _ c h n0 hn0 O0 (by decide) (by decide) rfl f1 f2 f3 f4 f5 f6 g1 g2 hbt) hZ (tw_ hw 97 rfl) (tw_ hw 39 rfl) (by show 7 + 1 ≤ R.frames; omega) (by show W + (2 + 11) + 144 ≤ R.locals; omega)) (fun _ _ q => q) ?_
    rintro P a v B - ⟨L, ⟨rfl, q2, q3, q4, q5, q6, q7, q8, q9⟩, r3⟩
    obtain ⟨z, hz, hz2⟩ := f8
    exact ⟨L, ⟨rfl, q2, q3, t, ⟨_, _, _, _, q4, q5, q6, q7, q8, q9, f7, Or.inr ⟨rfl, rfl, rfl, z, List.mem_append_left [c] hz, hz2⟩⟩, hbt, Or.inl rfl⟩, r3⟩
end OwnAp
section OwnAp
variable {p : Program} {l : Launch} {e : Env} {R : Room} {s : State} {args : Array Value} {below : List Frame} {Z : State} {a0 : Array Value} {h : Heap}
theorem own_ap31 {len W : Nat} (hZ : Z.Warmed39 s.vm) (hW : own_W Z a0) {b t : Nat} {d0 : Int32} {c : Int32} (F : own_SB Z h b t 3 [d0]) (hds : ∀ d ∈ ([d0] : List Int32), ¬ d < 0 ∧ ¬ (65535 : Int32) < d) {n0 : Nat} (hn0 : n0 ≤ h.size) (O0 : Old Z n0 h) (g1 : n0 ≤ b) (g2 : n0 ≤ t) (hbt : b ≠ t) (hfr : 8 ≤ R.frames) (hlo : W + 157 ≤ R.locals) :
    Back l R p e below s args (⟨"java/lang/StringBuilder", "append", "(C)Ljava/lang/StringBuilder;"⟩ : MethodName) len W (fun P a => a = #[.ref b, .int c] ∧ P.U.heap = h ∧ P.cells + 1 ≤ R.cells ∧ P.slots + 6 ≤ R.slots)
      (fun P _ v B => ∃ L, (v = some (.ref b) ∧ Fr n0 L ∧ Keep h B.U.heap [b, t] ∧ ∃ t' : Nat, own_SB Z B.U.heap b t' 3 [d0, c] ∧ b ≠ t' ∧ (t' = t ∨ h.size ≤ t')) ∧ B.locs = P.locs ++ L ∧ B.cells = P.cells + 1 ∧ B.slots = P.slots + 6) := by
  have hw := hW.1
  obtain ⟨k, cd, N, vs, f1, f2, f3, f4, f5, f6, f7, f8⟩ := F
  have ltb := own_lt f1.lt
  rcases f8 with ⟨rfl, rfl, rfl, f8⟩ | ⟨rfl, rfl, rfl, f8⟩
  · by_cases hc : (255 : Int32) < c
    · refine Back.mono (backOf (own_sapi1 l Z a0 hW b t k 3 _ d0 c h n0 hn0 O0 (by decide) (by decide) f1 f2 f3 f4 f5 f6 g1 hbt rfl ⟨(hds _ (List.mem_of_getElem? (i := 0) rfl)).1, f8 _ (List.mem_of_getElem? (i := 0) rfl)⟩ hc) hZ (tw_ hw 97 rfl) (tw_ hw 39 rfl) (by show 7 + 1 ≤ R.frames; omega) (by show W + (2 + 11) + 144 ≤ R.locals; omega)) (fun _ _ q => q) ?_
      rintro P a v B - ⟨L, ⟨t', k', rfl, q2, q3, q4, q5, q6, q7, q8, q9, q10, q11⟩, r3⟩
      have ge : h.size ≤ t' := q11
      refine ⟨L, ⟨rfl, q2, own_keep2 q3, t', ⟨_, _, _, _, q4, q5, q6, q7, q8, q9, q10, Or.inr ⟨rfl, rfl, rfl, c, List.mem_of_getElem? (i := 1) rfl, hc⟩⟩, ?_, Or.inr ge⟩, r3⟩
      omega
    · refine Back.mono (backOf (own_sapl l Z a0 hW b t k 3 1 _ c h n0 hn0 O0 (by decide) (by decide) rfl f1 f2 f3 f4 f5 f6 g1 g2 hbt hc) hZ (tw_ hw 97 rfl) (tw_ hw 39 rfl) (by show 7 + 1 ≤ R.frames; omega) (by show W + (2 + 11) + 144 ≤ R.locals; omega)) (fun _ _ q => q) ?_
      rintro P a v B - ⟨L, ⟨rfl, q2, q3, q4, q5, q6, q7, q8, q9⟩, r3⟩
      exact ⟨L, ⟨rfl, q2, q3, t, ⟨_, _, _, _, q4, q5, q6, q7, q8, q9, f7, Or.inl ⟨rfl, rfl, rfl, fun z hz => by
      simp only [List.mem_cons, List.not_mem_nil, or_false] at hz
      rcases hz with rfl | rfl
      · exact f8 _ (List.mem_of_getElem? (i := 0) rfl)
      · exact hc⟩⟩, hbt, Or.inl rfl⟩, r3⟩
  · refine Back.mono (backOf (own_sapw l Z a0 hW b t k 3 1 _ c h n0 hn0 O0 (by decide) (by decide) rfl f1 f2 f3 f4 f5 f6 g1 g2 hbt) hZ (tw_ hw 97 rfl) (tw_ hw 39 rfl) (by show 7 + 1 ≤ R.frames; omega) (by show W + (2 + 11) + 144 ≤ R.locals; omega)) (fun _ _ q => q) ?_
    rintro P a v B - ⟨L, ⟨rfl, q2, q3, q4, q5, q6, q7, q8, q9⟩, r3⟩
    obtain ⟨z, hz, hz2⟩ := f8
    exact ⟨L, ⟨rfl, q2, q3, t, ⟨_, _, _, _, q4, q5, q6, q7, q8, q9, f7, Or.inr ⟨rfl, rfl, rfl, z, List.mem_append_left [c] hz, hz2⟩⟩, hbt, Or.inl rfl⟩, r3⟩
end OwnAp
section OwnAp
variable {p : Program} {l : Launch} {e : Env} {R : Room} {s : State} {args : Array Value} {below : List Frame} {Z : State} {a0 : Array Value} {h : Heap}
theorem own_ap32 {len W : Nat} (hZ : Z.Warmed39 s.vm) (hW : own_W Z a0) {b t : Nat} {d0 d1 : Int32} {c : Int32} (F : own_SB Z h b t 3 [d0, d1]) (hds : ∀ d ∈ ([d0, d1] : List Int32), ¬ d < 0 ∧ ¬ (65535 : Int32) < d) {n0 : Nat} (hn0 : n0 ≤ h.size) (O0 : Old Z n0 h) (g1 : n0 ≤ b) (g2 : n0 ≤ t) (hbt : b ≠ t) (hfr : 8 ≤ R.frames) (hlo : W + 157 ≤ R.locals) :
    Back l R p e below s args (⟨"java/lang/StringBuilder", "append", "(C)Ljava/lang/StringBuilder;"⟩ : MethodName) len W (fun P a => a = #[.ref b, .int c] ∧ P.U.heap = h ∧ P.cells + 1 ≤ R.cells ∧ P.slots + 6 ≤ R.slots)
      (fun P _ v B => ∃ L, (v = some (.ref b) ∧ Fr n0 L ∧ Keep h B.U.heap [b, t] ∧ ∃ t' : Nat, own_SB Z B.U.heap b t' 3 [d0, d1, c] ∧ b ≠ t' ∧ (t' = t ∨ h.size ≤ t')) ∧ B.locs = P.locs ++ L ∧ B.cells = P.cells + 1 ∧ B.slots = P.slots + 6) := by
  have hw := hW.1
  obtain ⟨k, cd, N, vs, f1, f2, f3, f4, f5, f6, f7, f8⟩ := F
  have ltb := own_lt f1.lt
  rcases f8 with ⟨rfl, rfl, rfl, f8⟩ | ⟨rfl, rfl, rfl, f8⟩
  · by_cases hc : (255 : Int32) < c
    · refine Back.mono (backOf (own_sapi2 l Z a0 hW b t k 3 _ d0 d1 c h n0 hn0 O0 (by decide) (by decide) f1 f2 f3 f4 f5 f6 g1 hbt rfl ⟨(hds _ (List.mem_of_getElem? (i := 0) rfl)).1, f8 _ (List.mem_of_getElem? (i := 0) rfl)⟩ rfl ⟨(hds _ (List.mem_of_getElem? (i := 1) rfl)).1, f8 _ (List.mem_of_getElem? (i := 1) rfl)⟩ hc) hZ (tw_ hw 97 rfl) (tw_ hw 39 rfl) (by show 7 + 1 ≤ R.frames; omega) (by show W + (2 + 11) + 144 ≤ R.locals; omega)) (fun _ _ q => q) ?_
      rintro P a v B - ⟨L, ⟨t', k', rfl, q2, q3, q4, q5, q6, q7, q8, q9, q10, q11⟩, r3⟩
      have ge : h.size ≤ t' := q11
      refine ⟨L, ⟨rfl, q2, own_keep2 q3, t', ⟨_, _, _, _, q4, q5, q6, q7, q8, q9, q10, Or.inr ⟨rfl, rfl, rfl, c, List.mem_of_getElem? (i := 2) rfl, hc⟩⟩, ?_, Or.inr ge⟩, r3⟩
      omega
    · refine Back.mono (backOf (own_sapl l Z a0 hW b t k 3 2 _ c h n0 hn0 O0 (by decide) (by decide) rfl f1 f2 f3 f4 f5 f6 g1 g2 hbt hc) hZ (tw_ hw 97 rfl) (tw_ hw 39 rfl) (by show 7 + 1 ≤ R.frames; omega) (by show W + (2 + 11) + 144 ≤ R.locals; omega)) (fun _ _ q => q) ?_
      rintro P a v B - ⟨L, ⟨rfl, q2, q3, q4, q5, q6, q7, q8, q9⟩, r3⟩
      exact ⟨L, ⟨rfl, q2, q3, t, ⟨_, _, _, _, q4, q5, q6, q7, q8, q9, f7, Or.inl ⟨rfl, rfl, rfl, fun z hz => by
      simp only [List.mem_cons, List.not_mem_nil, or_false] at hz
      rcases hz with rfl | rfl | rfl
      · exact f8 _ (List.mem_of_getElem? (i := 0) rfl)
      · exact f8 _ (List.mem_of_getElem? (i := 1) rfl)
      · exact hc⟩⟩, hbt, Or.inl rfl⟩, r3⟩
  · refine Back.mono (backOf (own_sapw l Z a0 hW b t k 3 2 _ c h n0 hn0 O0 (by decide) (by decide) rfl f1 f2 f3 f4 f5 f6 g1 g2 hbt) hZ (tw_ hw 97 rfl) (tw_ hw 39 rfl) (by show 7 + 1 ≤ R.frames; omega) (by show W + (2 + 11) + 144 ≤ R.locals; omega)) (fun _ _ q => q) ?_
    rintro P a v B - ⟨L, ⟨rfl, q2, q3, q4, q5, q6, q7, q8, q9⟩, r3⟩
    obtain ⟨z, hz, hz2⟩ := f8
    exact ⟨L, ⟨rfl, q2, q3, t, ⟨_, _, _, _, q4, q5, q6, q7, q8, q9, f7, Or.inr ⟨rfl, rfl, rfl, z, List.mem_append_left [c] hz, hz2⟩⟩, hbt, Or.inl rfl⟩, r3⟩
end OwnAp
abbrev own_c35 : ByteArray := jdk_65_method_132_code
def own_cor_Q (Z : State) (t1 : Nat) (k1 : ClassId) (N : Int32) (vs : List Value) (h0 : Heap) (n0 : Nat) (v : Option Value) (h : Heap) (L : List Loc) : Prop := ∃ t : Nat, v = some (.ref t) ∧ Fr n0 L ∧ Keep h0 h [] ∧ Arv Z h t k1 .byte N vs (.int (0 : Int32)) ∧ h0.size ≤ t
theorem pn_java_util_Arrays : plainName "java/util/Arrays" = true := by first | (simp [plainName, overriddenIn]; done) | decide +kernel
theorem ef_own_cor (m : MethodId) (x0 : Nat) (x1 : Int32) (x2 : Int32) : entryFrame m #[(.ref x0), (.int x1), (.int x2)] 3 = mkF m 0 #[vr x0, vi x1, vi x2] [] := by first | (simp [entryFrame, mkF, argsToLocals, Value.category]; done) | rfl
abbrev own_y35 : MethodName := ⟨"java/util/Arrays", "copyOfRange", "([BII)[B"⟩
theorem d35_0 : decode own_c35 0 = .ok (.iload_n 1, 1) := by decide +kernel
theorem d35_1 : decode own_c35 1 = .ok (.ifCond .ne 9, 3) := by decide +kernel
theorem d35_4 : decode own_c35 4 = .ok (.iload_n 2, 1) := by decide +kernel
theorem d35_5 : decode own_c35 5 = .ok (.aload_n 0, 1) := by decide +kernel
theorem d35_6 : decode own_c35 6 = .ok (.arraylength, 1) := by decide +kernel
theorem d35_7 : decode own_c35 7 = .ok (.if_icmp .eq 10, 3) := by decide +kernel
theorem d35_17 : decode own_c35 17 = .ok (.aload_n 0, 1) := by decide +kernel
theorem d35_18 : decode own_c35 18 = .ok (.invokevirtual 310, 3) := by decide +kernel
theorem d35_21 : decode own_c35 21 = .ok (.checkcast 311, 3) := by decide +kernel
theorem d35_24 : decode own_c35 24 = .ok (.areturn, 1) := by decide +kernel
set_option maxRecDepth 65536 in
set_option maxHeartbeats 40000000 in
theorem own_cor (l : Launch) (Z : State) (a0 : Array Value) (hW : own_W Z a0) (t1 : Nat) (k1 : ClassId) (N : Int32) (vs : List Value) (h0 : Heap) (n0 : Nat) (Z0 : n0 ≤ h0.size) (O0 : Old Z n0 h0) (V1 : Arv Z h0 t1 k1 .byte N vs (.int (0 : Int32))) (hfc : Z.vm.findClass "[B" = some k1) (hN : N.toNatClampNeg ≤ 6) :
    own_M l own_y35 own_c35 3 (some (.array .byte)) (own_r 1 1 6 14) #[(.ref t1), (.int (0 : Int32)), (.int N)] Z h0 (own_cor_Q Z t1 k1 N vs h0 n0) := by
  refine own_enter (own := "java/util/Arrays") rfl (plainFor_of_name pn_java_util_Arrays) (fun m => ef_own_cor m t1 (0 : Int32) N) ?_
  intro p e s m below meth c s₁ Bd hZ hh hx hby hml hown hnm X0 e0
  obtain ⟨hw, ⟨G1, O2, P5⟩, ⟨G3, O4, rG3⟩, Oa, Oh, Ol⟩ := id hW
  have N0 := Fr.nil n0
  have K0 := Keep.refl h0 []
  have lt1 := own_lt V1.lt
  refine own_gs (cur' := s₁.setTop (mkF m 6 #[vr t1, vi (0 : Int32), vi N] [(.ref t1), (.int N)])) ?_ ?_
  · refine XS.iloadN X0.here hx rfl (hb hby d35_0) rfl ?_
    refine XS.ifNo X0.here hx rfl (hb hby d35_1) rfl ((if0 _ _).trans (teq ((by decide) : (0 : Int32) = (0 : Int32))).2) ?_
    refine XS.iloadN X0.here hx rfl (hb hby d35_4) rfl ?_
    refine XS.aloadN X0.here hx rfl (hb hby d35_5) rfl rfl ?_
    exact Steps.refl _
  obtain ⟨cl11, Ar11, q11, S11, M11, Hs11, G11⟩ := id V1
  refine own_go (X0.arraylength hx (by rw [e0]; exact Ar11.1) (State.isArrayOf_alike hZ.alike Ar11.2.1) (g := (mkF m 6 #[vr t1, vi (0 : Int32), vi N] [(.ref t1), (.int N)])) rfl rfl (hb hby d35_6)) ?_
  rw [len_of S11 M11]
  show own_Fin p e below (s₁.setTop (mkF m 7 #[vr t1, vi (0 : Int32), vi N] [(.int N), (.int N)])) _
  refine own_gs (cur' := s₁.setTop (mkF m 18 #[vr t1, vi (0 : Int32), vi N] [(.ref t1)])) ?_ ?_
  · refine XS.icmpYes X0.here hx rfl (pc0 := 7) (pc' := 17) rfl (hb hby d35_7) rfl (teq (rfl : N = N)).1 (by decide) (by decide) ?_
    refine XS.aloadN X0.here hx rfl (hb hby d35_17) rfl rfl ?_
    exact Steps.refl _
  obtain ⟨T12, h12, X12, e12, E12, V12, Eb12, st12⟩ := cloneH X0 hx hZ hown (tw_ hw 146 rfl) (tw_ hw 147 rfl) (tw_ hw 151 rfl) (tw_ hw 149 rfl) (tw_ hw 150 rfl) (tw_ hw 152 rfl) e0 (Arv.arh V1) (own_exaB V1 hfc) (g := (mkF m 18 #[vr t1, vi (0 : Int32), vi N] [(.ref t1)])) rfl (by rw [hml]; rfl) rfl (hb hby d35_18) (by decide) (W := 0) (by show 2 * 0 + _ ≤ _; exact Nat.le_of_eq rfl) (by decide) (cap := 6) hN (by decide) (by decide)
  obtain ⟨b12, g12⟩ : ∃ z, z = h0.size := ⟨_, rfl⟩
  rw [← g12] at V12 Eb12 st12
  have lt12 := own_lt V12.lt
  refine own_go st12 ?_
  have z13 := E12.1
  have K13 := K0.ext E12
  have O13 := O0.ext E12
  obtain ⟨T14, X14, e14, st14⟩ := castY X12 hx hZ hown (tw_ hw 153 rfl) e12 (Ins.self Eb12) (g := (mkF m 21 #[vr t1, vi (0 : Int32), vi N] [(.ref b12)])) rfl rfl (hb hby d35_21)
  refine own_go st14 ?_
  exact own_rA X14 Bd rfl (v := (.ref b12)) rfl (hb hby d35_24) e14 (⟨_, rfl, N0, K13, (show Arv Z h12 b12 k1 .byte N vs (.int (0 : Int32)) from V12), (by omega)⟩) rfl rfl
abbrev own_c36 : ByteArray := jdk_68_method_64_code
def own_gv_Q (Z : State) (b1 t1 : Nat) (h0 : Heap) (n0 : Nat) (v : Option Value) (h : Heap) (L : List Loc) : Prop := v = (some (.ref t1)) ∧ Fr n0 L ∧ h = h0
theorem ef_own_gv (m : MethodId) (x0 : Nat) : entryFrame m #[(.ref x0)] 1 = mkF m 0 #[vr x0] [] := by first | (simp [entryFrame, mkF, argsToLocals, Value.category]; done) | rfl
abbrev own_y36 : MethodName := ⟨"java/lang/AbstractStringBuilder", "getValue", "()[B"⟩
theorem d36_0 : decode own_c36 0 = .ok (.aload_n 0, 1) := by decide +kernel
theorem d36_1 : decode own_c36 1 = .ok (.getfield 15, 3) := by decide +kernel
theorem d36_4 : decode own_c36 4 = .ok (.areturn, 1) := by decide +kernel
set_option maxRecDepth 65536 in
set_option maxHeartbeats 40000000 in
theorem own_gv (l : Launch) (Z : State) (a0 : Array Value) (hW : own_W Z a0) (b1 t1 : Nat) (h0 : Heap) (n0 : Nat) (Z0 : n0 ≤ h0.size) (O0 : Old Z n0 h0) (Fv1 : Fld Z h0 b1 "java/lang/AbstractStringBuilder" "value" "[B" (.ref t1)) :
    own_M l own_y36 own_c36 1 (some (.array .byte)) (own_r 0 0 0 0) #[(.ref b1)] Z h0 (own_gv_Q Z b1 t1 h0 n0) := by
  refine own_enter (own := "java/lang/AbstractStringBuilder") rfl (plainFor_of_name pn_java_lang_AbstractStringBuilder) (fun m => ef_own_gv m b1) ?_
  intro p e s m below meth c s₁ Bd hZ hh hx hby hml hown hnm X0 e0
  obtain ⟨hw, ⟨G1, O2, P5⟩, ⟨G3, O4, rG3⟩, Oa, Oh, Ol⟩ := id hW
  have N0 := Fr.nil n0
  have K0 := Keep.refl h0 []
  refine own_gs (cur' := s₁.setTop (mkF m 1 #[vr b1] [(.ref b1)])) ?_ ?_
  · refine XS.aloadN X0.here hx rfl (hb hby d36_0) rfl rfl ?_
    exact Steps.refl _
  obtain ⟨T11, X11, e11, st11⟩ := getF X0 hx hZ hown (host := "") (Or.inl (tw_ hw 61 rfl)) Via.refl e0 Fv1 (g := (mkF m 1 #[vr b1] [(.ref b1)])) rfl rfl (hb hby d36_1)
  refine own_go st11 ?_
  exact own_rA X11 Bd rfl (v := (.ref t1)) rfl (hb hby d36_4) e11 (⟨rfl, N0, rfl⟩) rfl rfl
abbrev own_c37 : ByteArray := jdk_68_method_6_code
def own_alen_Q (Z : State) (b1 : Nat) (mm : Int32) (h0 : Heap) (n0 : Nat) (v : Option Value) (h : Heap) (L : List Loc) : Prop := v = (some (.int mm)) ∧ Fr n0 L ∧ h = h0
theorem ef_own_alen (m : MethodId) (x0 : Nat) : entryFrame m #[(.ref x0)] 1 = mkF m 0 #[vr x0] [] := by first | (simp [entryFrame, mkF, argsToLocals, Value.category]; done) | rfl
abbrev own_y37 : MethodName := ⟨"java/lang/AbstractStringBuilder", "length", "()I"⟩
theorem d37_0 : decode own_c37 0 = .ok (.aload_n 0, 1) := by decide +kernel
theorem d37_1 : decode own_c37 1 = .ok (.getfield 79, 3) := by decide +kernel
theorem d37_4 : decode own_c37 4 = .ok (.ireturn, 1) := by decide +kernel
set_option maxRecDepth 65536 in
set_option maxHeartbeats 40000000 in
theorem own_alen (l : Launch) (Z : State) (a0 : Array Value) (hW : own_W Z a0) (b1 : Nat) (mm : Int32) (h0 : Heap) (n0 : Nat) (Z0 : n0 ≤ h0.size) (O0 : Old Z n0 h0) (E1 : Exa Z h0 b1 "java/lang/StringBuilder") (Fn1 : Fld Z h0 b1 "java/lang/AbstractStringBuilder" "count" "I" (.int mm)) :
    own_M l own_y37 own_c37 1 (some .int) (own_r 0 0 0 0) #[(.ref b1)] Z h0 (own_alen_Q Z b1 mm h0 n0) := by
  refine own_enter (own := "java/lang/AbstractStringBuilder") rfl (plainFor_of_name pn_java_lang_AbstractStringBuilder) (fun m => ef_own_alen m b1) ?_
  intro p e s m below meth c s₁ Bd hZ hh hx hby hml hown hnm X0 e0
  obtain ⟨hw, ⟨G1, O2, P5⟩, ⟨G3, O4, rG3⟩, Oa, Oh, Ol⟩ := id hW
  have N0 := Fr.nil n0
  have K0 := Keep.refl h0 []
  refine own_gs (cur' := s₁.setTop (mkF m 1 #[vr b1] [(.ref b1)])) ?_ ?_
  · refine XS.aloadN X0.here hx rfl (hb hby d37_0) rfl rfl ?_
    exact Steps.refl _
  obtain ⟨T11, X11, e11, st11⟩ := getF X0 hx hZ hown (host := "") (Or.inl (tw_ hw 103 rfl)) Via.refl e0 Fn1 (g := (mkF m 1 #[vr b1] [(.ref b1)])) rfl rfl (hb hby d37_1)
  refine own_go st11 ?_
  exact own_rI X11 Bd (hb hby d37_4) e11 (⟨rfl, N0, rfl⟩) rfl rfl
abbrev own_c38 : ByteArray := jdk_67_method_93_code
def own_slen_Q (Z : State) (b1 : Nat) (mm : Int32) (h0 : Heap) (n0 : Nat) (v : Option Value) (h : Heap) (L : List Loc) : Prop := v = (some (.int mm)) ∧ Fr n0 L ∧ h = h0
theorem ef_own_slen (m : MethodId) (x0 : Nat) : entryFrame m #[(.ref x0)] 1 = mkF m 0 #[vr x0] [] := by first | (simp [entryFrame, mkF, argsToLocals, Value.category]; done) | rfl
abbrev own_y38 : MethodName := ⟨"java/lang/StringBuilder", "length", "()I"⟩
theorem d38_0 : decode own_c38 0 = .ok (.aload_n 0, 1) := by decide +kernel
theorem d38_1 : decode own_c38 1 = .ok (.invokespecial 343, 3) := by decide +kernel
theorem pd_23 : parseMethodDescriptor "()I" = some ⟨[], some .int⟩ := by decide +kernel
theorem d38_4 : decode own_c38 4 = .ok (.ireturn, 1) := by decide +kernel
set_option maxRecDepth 65536 in
set_option maxHeartbeats 40000000 in
theorem own_slen (l : Launch) (Z : State) (a0 : Array Value) (hW : own_W Z a0) (b1 : Nat) (mm : Int32) (h0 : Heap) (n0 : Nat) (Z0 : n0 ≤ h0.size) (O0 : Old Z n0 h0) (E1 : Exa Z h0 b1 "java/lang/StringBuilder") (Fn1 : Fld Z h0 b1 "java/lang/AbstractStringBuilder" "count" "I" (.int mm)) :
    own_M l own_y38 own_c38 1 (some .int) (own_r 1 0 0 18) #[(.ref b1)] Z h0 (own_slen_Q Z b1 mm h0 n0) := by
  refine own_enter (own := "java/lang/StringBuilder") rfl (plainFor_of_name pn_java_lang_StringBuilder) (fun m => ef_own_slen m b1) ?_
  intro p e s m below meth c s₁ Bd hZ hh hx hby hml hown hnm X0 e0
  obtain ⟨hw, ⟨G1, O2, P5⟩, ⟨G3, O4, rG3⟩, Oa, Oh, Ol⟩ := id hW
  have N0 := Fr.nil n0
  have K0 := Keep.refl h0 []
  refine own_gs (cur' := s₁.setTop (mkF m 1 #[vr b1] [(.ref b1)])) ?_ ?_
  · refine XS.aloadN X0.here hx rfl (hb hby d38_0) rfl rfl ?_
    exact Steps.refl _
  obtain ⟨_, _, ⟨T11, L11, k11, n11⟩, -, X11, ⟨Lc11, hQ11, l11, y11, z11⟩, st11⟩ := superBack X0 hx hZ (y := own_y37) hown (tw_ hw 139 rfl) (own_sameM (own_nf (notFace_of_selects (tw_ hw 108 rfl)) (tw_ hw 106 rfl) rfl) (tw_ hw 135 rfl) (by decide)) (tw_ hw 135 rfl) (tw_ hw 100 rfl) (by decide) (backOf (W := 0) (own_alen l Z a0 hW b1 mm h0 n0 (by omega) O0 E1 Fn1) hZ (tw_ hw 140 rfl) (tw_ hw 57 rfl) (by decide) (by decide)) e0 (Ins.self E1) (g := (mkF m 1 #[vr b1] [(.ref b1)])) rfl (by rw [hml]; rfl) (tw_ hw 140 rfl) (argsL := []) (rest := []) (lenOf pd_23 rfl) rfl (own_le rfl) (hb hby d38_1) (fun _ _ => ⟨rfl, e0, own_le rfl, own_le rfl⟩)
  dsimp only [Pt.U, Pt.locs, Pt.cells, Pt.slots] at X11 l11 y11 z11 st11 hQ11
  subst l11 y11 z11
  obtain ⟨rfl, Nq11, eh11⟩ := hQ11
  have N11 := Fr.app N0 Nq11
  refine own_gs st11 ?_
  exact own_rI X11 Bd (hb hby d38_4) eh11 (⟨rfl, N11, rfl⟩) rfl rfl
abbrev own_c39 : ByteArray := jdk_42_method_150_code
def own_nab0_Q (Z : State) (x1 b1 t1 : Nat) (k1 : ClassId) (vs : List Value) (cs : List Int32) (v0 u0 : Value) (h0 : Heap) (n0 : Nat) (v : Option Value) (h : Heap) (L : List Loc) : Prop := ∃ t : Nat, v = none ∧ Fr n0 L ∧ Keep h0 h [x1] ∧ Exa Z h x1 "java/lang/String" ∧ Fld Z h x1 "java/lang/String" "value" "[B" (.ref t) ∧ Fld Z h x1 "java/lang/String" "coder" "B" (.int (0 : Int32)) ∧ Arv Z h t k1 .byte (Int32.ofNat cs.length) vs (.int (0 : Int32)) ∧ h0.size ≤ t
theorem ef_own_nab0 (m : MethodId) (x0 : Nat) (x1 : Nat) : entryFrame m #[(.ref x0), (.ref x1), .null] 5 = mkF m 0 #[vr x0, vr x1, vn, .unset, .unset] [] := by first | (simp [entryFrame, mkF, argsToLocals, Value.category]; done) | rfl
abbrev own_y39 : MethodName := ⟨"java/lang/String", "<init>", "(Ljava/lang/AbstractStringBuilder;Ljava/lang/Void;)V"⟩
theorem d39_0 : decode own_c39 0 = .ok (.aload_n 0, 1) := by decide +kernel
theorem d39_1 : decode own_c39 1 = .ok (.invokespecial 1, 3) := by decide +kernel
theorem d39_4 : decode own_c39 4 = .ok (.aload_n 1, 1) := by decide +kernel
theorem d39_5 : decode own_c39 5 = .ok (.invokevirtual 552, 3) := by decide +kernel
theorem pd_24 : parseMethodDescriptor "()[B" = some ⟨[], some (.array .byte)⟩ := by decide +kernel
theorem d39_8 : decode own_c39 8 = .ok (.astore_n 3, 1) := by decide +kernel
theorem d39_9 : decode own_c39 9 = .ok (.aload_n 1, 1) := by decide +kernel
theorem d39_10 : decode own_c39 10 = .ok (.invokevirtual 549, 3) := by decide +kernel
theorem d39_13 : decode own_c39 13 = .ok (.istore 4, 2) := by decide +kernel
theorem d39_15 : decode own_c39 15 = .ok (.aload_n 1, 1) := by decide +kernel
theorem d39_16 : decode own_c39 16 = .ok (.invokevirtual 1047, 3) := by decide +kernel
theorem d39_19 : decode own_c39 19 = .ok (.ifCond .eq 22, 3) := by decide +kernel
theorem d39_22 : decode own_c39 22 = .ok (.aload_n 0, 1) := by decide +kernel
theorem d39_23 : decode own_c39 23 = .ok (.iconst 0, 1) := by decide +kernel
theorem d39_24 : decode own_c39 24 = .ok (.putfield 15, 3) := by decide +kernel
theorem d39_27 : decode own_c39 27 = .ok (.aload_n 0, 1) := by decide +kernel
theorem d39_28 : decode own_c39 28 = .ok (.aload_n 3, 1) := by decide +kernel
theorem d39_29 : decode own_c39 29 = .ok (.iconst 0, 1) := by decide +kernel
theorem d39_30 : decode own_c39 30 = .ok (.iload 4, 2) := by decide +kernel
theorem d39_32 : decode own_c39 32 = .ok (.invokestatic 54, 3) := by decide +kernel
theorem pd_25 : parseMethodDescriptor "([BII)[B" = some ⟨[(.array .byte), .int, .int], some (.array .byte)⟩ := by decide +kernel
theorem d39_35 : decode own_c39 35 = .ok (.putfield 9, 3) := by decide +kernel
theorem d39_38 : decode own_c39 38 = .ok (.goto 59, 3) := by decide +kernel
theorem d39_97 : decode own_c39 97 = .ok (.return_, 1) := by decide +kernel
set_option maxRecDepth 65536 in
set_option maxHeartbeats 40000000 in
theorem own_nab0 (l : Launch) (Z : State) (a0 : Array Value) (hW : own_W Z a0) (x1 b1 t1 : Nat) (k1 : ClassId) (vs : List Value) (cs : List Int32) (v0 u0 : Value) (h0 : Heap) (n0 : Nat) (Z0 : n0 ≤ h0.size) (O0 : Old Z n0 h0) (Ex1 : Exa Z h0 x1 "java/lang/String") (Fw1 : Fld Z h0 x1 "java/lang/String" "value" "[B" v0) (Fd1 : Fld Z h0 x1 "java/lang/String" "coder" "B" u0) (g1 : n0 ≤ x1) (hxb : x1 ≠ b1) (hxt : x1 ≠ t1) (E1 : Exa Z h0 b1 "java/lang/StringBuilder") (Fv1 : Fld Z h0 b1 "java/lang/AbstractStringBuilder" "value" "[B" (.ref t1)) (Fc1 : Fld Z h0 b1 "java/lang/AbstractStringBuilder" "coder" "B" (.int (0 : Int32))) (Fn1 : Fld Z h0 b1 "java/lang/AbstractStringBuilder" "count" "I" (.int (Int32.ofNat cs.length))) (Fm1 : Fld Z h0 b1 "java/lang/AbstractStringBuilder" "maybeLatin1" "Z" (.int (0 : Int32))) (V1 : Arv Z h0 t1 k1 .byte (Int32.ofNat cs.length) vs (.int (0 : Int32))) (hfc : Z.vm.findClass "[B" = some k1) (hl : cs.length ≤ 3) :
    own_M l own_y39 own_c39 5 none (own_r 2 1 6 36) #[(.ref x1), (.ref b1), .null] Z h0 (own_nab0_Q Z x1 b1 t1 k1 vs cs v0 u0 h0 n0) := by
  refine own_enter (own := "java/lang/String") rfl (plainFor_of_name pn_java_lang_String) (fun m => ef_own_nab0 m x1 b1) ?_
  intro p e s m below meth c s₁ Bd hZ hh hx hby hml hown hnm X0 e0
  obtain ⟨hw, ⟨G1, O2, P5⟩, ⟨G3, O4, rG3⟩, Oa, Oh, Ol⟩ := id hW
  have N0 := Fr.nil n0
  have K0 := Keep.refl h0 [x1]
  have lt3 := own_lt Ex1.lt
  have lt1 := own_lt E1.lt
  have lt2 := own_lt V1.lt
  refine own_gs (cur' := s₁.setTop (mkF m 1 #[vr x1, vr b1, vn, uu, uu] [(.ref x1)])) ?_ ?_
  · refine XS.aloadN X0.here hx rfl (hb hby d39_0) rfl rfl ?_
    exact Steps.refl _
  obtain ⟨T11, X11, e11, st11⟩ := initO X0 hx hZ hown (tw_ hw 26 rfl) (tw_ hw 27 rfl) (tw_ hw 28 rfl) e0 (g := (mkF m 1 #[vr x1, vr b1, vn, uu, uu] [(.ref x1)])) rfl (by rw [hml]; rfl) rfl (hb hby d39_1) (by decide) (W := 0) (own_le rfl) (by decide)
  refine own_go st11 ?_
  refine own_gs (cur' := T11.setTop (mkF m 5 #[vr x1, vr b1, vn, uu, uu] [(.ref b1)])) ?_ ?_
  · refine XS.aloadN X11.here hx rfl (hb hby d39_4) rfl rfl ?_
    exact Steps.refl _
  obtain ⟨cq12, kq12, q12a, q12b, q12c⟩ := isOf hZ e11 E1
  obtain ⟨_, _, ⟨T12, L12, k12, n12⟩, -, X12, ⟨Lc12, hQ12, l12, y12, z12⟩, st12⟩ := X11.virtualBack hx (y := own_y36) (z := own_y36) hown (mvT hZ (tw_ hw 128 rfl)) (mvT hZ (tw_ hw 129 rfl)) (notFace_of_selects (args := #[]) (mvT hZ (tw_ hw 131 rfl))) (mvT hZ (tw_ hw 131 rfl)) (mvT hZ (tw_ hw 130 rfl)) (by decide) (backOf (W := 0) (own_gv l Z a0 hW b1 t1 h0 n0 (by omega) O0 Fv1) hZ (tw_ hw 132 rfl) (tw_ hw 57 rfl) (by decide) (by decide)) q12a q12c (g := (mkF m 5 #[vr x1, vr b1, vn, uu, uu] [(.ref b1)])) rfl (by rw [hml]; rfl) (Steps.refl _) (argsL := []) (rest := []) (lenOf pd_24 rfl) rfl (own_le rfl) (hb hby d39_5) (fun _ _ => ⟨rfl, e11, own_le rfl, own_le rfl⟩)
  dsimp only [Pt.U, Pt.locs, Pt.cells, Pt.slots] at X12 l12 y12 z12 st12 hQ12
  subst l12 y12 z12
  obtain ⟨rfl, Nq12, eh12⟩ := hQ12
  have N12 := Fr.app N0 Nq12
  refine own_gs st12 ?_
  refine own_gs (cur' := T12.setTop (mkF m 10 #[vr x1, vr b1, vn, vr t1, uu] [(.ref b1)])) ?_ ?_
  · refine XS.astoreN X12.here hx rfl (hb hby d39_8) rfl rfl (l' := #[vr x1, vr b1, vn, vr t1, uu]) rfl ?_
    refine XS.aloadN X12.here hx rfl (hb hby d39_9) rfl rfl ?_
    exact Steps.refl _
  obtain ⟨cq13, kq13, q13a, q13b, q13c⟩ := isOf hZ eh12 E1
  obtain ⟨_, _, ⟨T13, L13, k13, n13⟩, -, X13, ⟨Lc13, hQ13, l13, y13, z13⟩, st13⟩ := X12.virtualBack hx (y := own_y37) (z := own_y38) hown (mvT hZ (tw_ hw 133 rfl)) (mvT hZ (tw_ hw 134 rfl)) (own_nf (args := #[]) (notFace_of_selects (args := #[]) (mvT hZ (tw_ hw 108 rfl))) (mvT hZ (tw_ hw 106 rfl)) rfl) (mvT hZ (tw_ hw 136 rfl)) (mvT hZ (tw_ hw 137 rfl)) (by decide) (backOf (W := 0) (own_slen l Z a0 hW b1 (Int32.ofNat cs.length) h0 n0 (by omega) O0 E1 Fn1) hZ (tw_ hw 138 rfl) (tw_ hw 39 rfl) (by decide) (by decide)) q13a q13c (g := (mkF m 10 #[vr x1, vr b1, vn, vr t1, uu] [(.ref b1)])) rfl (by rw [hml]; rfl) (Steps.refl _) (argsL := []) (rest := []) (lenOf pd_23 rfl) rfl (own_le rfl) (hb hby d39_10) (fun _ _ => ⟨rfl, eh12, own_le rfl, own_le rfl⟩)
  dsimp only [Pt.U, Pt.locs, Pt.cells, Pt.slots] at X13 l13 y13 z13 st13 hQ13
  subst l13 y13 z13
  obtain ⟨rfl, Nq13, eh13⟩ := hQ13
  have N13 := Fr.app N12 Nq13
  refine own_gs st13 ?_
  refine own_gs (cur' := T13.setTop (mkF m 16 #[vr x1, vr b1, vn, vr t1, vi (Int32.ofNat cs.length)] [(.ref b1)])) ?_ ?_
  · refine XS.istore X13.here hx rfl (hb hby d39_13) rfl (l' := #[vr x1, vr b1, vn, vr t1, vi (Int32.ofNat cs.length)]) rfl ?_
    refine XS.aloadN X13.here hx rfl (hb hby d39_15) rfl rfl ?_
    exact Steps.refl _
  obtain ⟨cq14, kq14, q14a, q14b, q14c⟩ := isOf hZ eh13 E1
  obtain ⟨_, _, ⟨T14, L14, k14, n14⟩, -, X14, ⟨Lc14, hQ14, l14, y14, z14⟩, st14⟩ := X13.virtualBack hx (y := own_y24) (z := own_y24) hown (mvT hZ (tw_ hw 141 rfl)) (mvT hZ (tw_ hw 111 rfl)) (notFace_of_selects (args := #[]) (mvT hZ (tw_ hw 113 rfl))) (mvT hZ (tw_ hw 113 rfl)) (mvT hZ (tw_ hw 112 rfl)) (by decide) (backOf (W := 0) (own_ais0 l Z a0 hW b1 h0 n0 (by omega) O0 Fc1) hZ (tw_ hw 114 rfl) (tw_ hw 57 rfl) (by decide) (by decide)) q14a q14c (g := (mkF m 16 #[vr x1, vr b1, vn, vr t1, vi (Int32.ofNat cs.length)] [(.ref b1)])) rfl (by rw [hml]; rfl) (Steps.refl _) (argsL := []) (rest := []) (lenOf pd_6 rfl) rfl (own_le rfl) (hb hby d39_16) (fun _ _ => ⟨rfl, eh13, own_le rfl, own_le rfl⟩)
  dsimp only [Pt.U, Pt.locs, Pt.cells, Pt.slots] at X14 l14 y14 z14 st14 hQ14
  subst l14 y14 z14
  obtain ⟨rfl, Nq14, eh14⟩ := hQ14
  have N14 := Fr.app N13 Nq14
  refine own_gs st14 ?_
  refine own_gs (cur' := T14.setTop (mkF m 24 #[vr x1, vr b1, vn, vr t1, vi (Int32.ofNat cs.length)] [(.int (0 : Int32)), (.ref x1)])) ?_ ?_
  · refine XS.ifNo X14.here hx rfl (hb hby d39_19) rfl ((if0 _ _).trans (feq ((by decide) : ¬ ((1 : Int32) = (0 : Int32)))).1) ?_
    refine XS.aloadN X14.here hx rfl (hb hby d39_22) rfl rfl ?_
    refine XS.iconst X14.here hx rfl (hb hby d39_23) ?_
    exact Steps.refl _
  obtain ⟨T15, h15, X15, e15, W15, st15⟩ := putF X14 hx hZ hown (host := "") (Or.inl (tw_ hw 31 rfl)) Via.refl eh14 Fd1 Ex1 (Or.inr ⟨(tw_ hw 32 rfl), rfl, hnm⟩) (tw_ hw 17 rfl) (ty := .byte) (by decide) rfl rfl (g := (mkF m 24 #[vr x1, vr b1, vn, vr t1, vi (Int32.ofNat cs.length)] [(.int (0 : Int32)), (.ref x1)])) rfl rfl (hb hby d39_24)
  have F15 := Fd1.same W15
  refine own_go st15 ?_
  have z16 := W15.size
  have K16 := K0.wr W15 (Or.inl (List.mem_of_getElem? (i := 0) rfl))
  have O16 := O0.wr W15 (by omega)
  have N16 := Fr.snoc X15 N14 (by omega)
  have f17 := (V1.other W15 (own_ne (a := t1) (b := x1) (by omega)))
  refine own_gs (cur' := T15.setTop (mkF m 32 #[vr x1, vr b1, vn, vr t1, vi (Int32.ofNat cs.length)] [(.int (Int32.ofNat cs.length)), (.int (0 : Int32)), (.ref t1), (.ref x1)])) ?_ ?_
  · refine XS.aloadN X15.here hx rfl (hb hby d39_27) rfl rfl ?_
    refine XS.aloadN X15.here hx rfl (hb hby d39_28) rfl rfl ?_
    refine XS.iconst X15.here hx rfl (hb hby d39_29) ?_
    refine XS.iload X15.here hx rfl (hb hby d39_30) rfl ?_
    exact Steps.refl _
  obtain ⟨_, _, ⟨T18, L18, k18, n18⟩, -, X18, ⟨Lc18, hQ18, l18, y18, z18⟩, st18⟩ := Jvm.LawKit.callS X15 hx (y := own_y35) hown (mvT hZ (tw_ hw 142 rfl)) (mvT hZ (tw_ hw 143 rfl)) (mvT hZ (tw_ hw 144 rfl)) (mvT hZ (tw_ hw 145 rfl)) (by decide) (backOf (W := 1) (own_cor l Z a0 hW t1 k1 (Int32.ofNat cs.length) vs h15 n0 (by omega) O16 f17 hfc (by rw [own_nat (by omega)]; omega)) hZ (tw_ hw 145 rfl) (tw_ hw 144 rfl) (by decide) (by decide)) (g := (mkF m 32 #[vr x1, vr b1, vn, vr t1, vi (Int32.ofNat cs.length)] [(.int (Int32.ofNat cs.length)), (.int (0 : Int32)), (.ref t1), (.ref x1)])) rfl (by rw [hml]; rfl) (argsL := [(.ref t1), (.int (0 : Int32)), (.int (Int32.ofNat cs.length))]) (rest := [(.ref x1)]) (lenOf pd_25 rfl) rfl (own_le rfl) (hb hby d39_32) (fun _ _ => ⟨rfl, e15, own_le rfl, own_le rfl⟩)
  dsimp only [Pt.U, Pt.locs, Pt.cells, Pt.slots] at X18 l18 y18 z18 st18 hQ18
  subst l18 y18 z18
  obtain ⟨t18, rfl, Nq18, Kq18, Vt18, ge18⟩ := hQ18
  have N18 := Fr.app N16 Nq18
  have z19 := Kq18.1
  have K19 := K16.trans Kq18 all0
  have O19 := O16.keep Kq18 all0
  have lt18 := own_lt Vt18.lt
  refine own_go st18 ?_
  have f21 := ((Fw1.other W15 (Or.inr (slot_ne (Or.inr (tw_ hw 30 rfl)) (Or.inr (tw_ hw 32 rfl)) (by decide) (t := (.array .byte)) (t' := .byte) (by decide) (by decide)))).keep Kq18 nin0)
  have f22 := ((Ex1.wr W15).keep Kq18)
  obtain ⟨T20, h20, X20, e20, W20, st20⟩ := putF X18 hx hZ hown (host := "") (Or.inl (tw_ hw 29 rfl)) Via.refl rfl f21 f22 (Or.inr ⟨(tw_ hw 30 rfl), rfl, hnm⟩) (tw_ hw 17 rfl) (ty := (.array .byte)) (by decide) rfl rfl (g := (mkF m 35 #[vr x1, vr b1, vn, vr t1, vi (Int32.ofNat cs.length)] [(.ref t18), (.ref x1)])) rfl rfl (hb hby d39_35)
  have F20 := f21.same W20
  refine own_go st20 ?_
  have z23 := W20.size
  have K23 := K19.wr W20 (Or.inl (List.mem_of_getElem? (i := 0) rfl))
  have O23 := O19.wr W20 (by omega)
  have N23 := Fr.snoc X20 N18 (by omega)
  have f24 := (f22.wr W20)
  have f25 := ((F15.keep Kq18 nin0).other W20 (Or.inr (slot_ne (Or.inr (tw_ hw 32 rfl)) (Or.inr (tw_ hw 30 rfl)) (by decide) (t := .byte) (t' := (.array .byte)) (by decide) (by decide))))
  have f26 := (Vt18.other W20 (own_ne (a := t18) (b := x1) (by omega)))
  refine own_gs (cur' := T20.setTop (mkF m 97 #[vr x1, vr b1, vn, vr t1, vi (Int32.ofNat cs.length)] [])) ?_ ?_
  · refine XS.goto X20.here hx rfl (pc0 := 38) (pc' := 97) rfl (hb hby d39_38) (by decide) (by decide) ?_
    exact Steps.refl _
  exact own_rV X20 Bd (hb hby d39_97) e20 (⟨_, rfl, N23, K23, f24, F20, f25, f26, (by omega)⟩) rfl rfl
abbrev own_c40 : ByteArray := jdk_42_method_53_code
def own_nsb0_Q (Z : State) (x1 b1 t1 : Nat) (k1 : ClassId) (vs : List Value) (cs : List Int32) (v0 u0 : Value) (h0 : Heap) (n0 : Nat) (v : Option Value) (h : Heap) (L : List Loc) : Prop := ∃ t : Nat, v = none ∧ Fr n0 L ∧ Keep h0 h [x1] ∧ Exa Z h x1 "java/lang/String" ∧ Fld Z h x1 "java/lang/String" "value" "[B" (.ref t) ∧ Fld Z h x1 "java/lang/String" "coder" "B" (.int (0 : Int32)) ∧ Arv Z h t k1 .byte (Int32.ofNat cs.length) vs (.int (0 : Int32)) ∧ h0.size ≤ t
theorem ef_own_nsb0 (m : MethodId) (x0 : Nat) (x1 : Nat) : entryFrame m #[(.ref x0), (.ref x1)] 2 = mkF m 0 #[vr x0, vr x1] [] := by first | (simp [entryFrame, mkF, argsToLocals, Value.category]; done) | rfl
abbrev own_y40 : MethodName := ⟨"java/lang/String", "<init>", "(Ljava/lang/StringBuilder;)V"⟩
theorem d40_0 : decode own_c40 0 = .ok (.aload_n 0, 1) := by decide +kernel
theorem d40_1 : decode own_c40 1 = .ok (.aload_n 1, 1) := by decide +kernel
theorem d40_2 : decode own_c40 2 = .ok (.aconst_null, 1) := by decide +kernel
theorem d40_3 : decode own_c40 3 = .ok (.invokespecial 489, 3) := by decide +kernel
theorem pd_26 : parseMethodDescriptor "(Ljava/lang/AbstractStringBuilder;Ljava/lang/Void;)V" = some ⟨[(.object "java/lang/AbstractStringBuilder"), (.object "java/lang/Void")], none⟩ := by decide +kernel
theorem d40_6 : decode own_c40 6 = .ok (.return_, 1) := by decide +kernel
set_option maxRecDepth 65536 in
set_option maxHeartbeats 40000000 in
theorem own_nsb0 (l : Launch) (Z : State) (a0 : Array Value) (hW : own_W Z a0) (x1 b1 t1 : Nat) (k1 : ClassId) (vs : List Value) (cs : List Int32) (v0 u0 : Value) (h0 : Heap) (n0 : Nat) (Z0 : n0 ≤ h0.size) (O0 : Old Z n0 h0) (Ex1 : Exa Z h0 x1 "java/lang/String") (Fw1 : Fld Z h0 x1 "java/lang/String" "value" "[B" v0) (Fd1 : Fld Z h0 x1 "java/lang/String" "coder" "B" u0) (g1 : n0 ≤ x1) (hxb : x1 ≠ b1) (hxt : x1 ≠ t1) (E1 : Exa Z h0 b1 "java/lang/StringBuilder") (Fv1 : Fld Z h0 b1 "java/lang/AbstractStringBuilder" "value" "[B" (.ref t1)) (Fc1 : Fld Z h0 b1 "java/lang/AbstractStringBuilder" "coder" "B" (.int (0 : Int32))) (Fn1 : Fld Z h0 b1 "java/lang/AbstractStringBuilder" "count" "I" (.int (Int32.ofNat cs.length))) (Fm1 : Fld Z h0 b1 "java/lang/AbstractStringBuilder" "maybeLatin1" "Z" (.int (0 : Int32))) (V1 : Arv Z h0 t1 k1 .byte (Int32.ofNat cs.length) vs (.int (0 : Int32))) (hfc : Z.vm.findClass "[B" = some k1) (hl : cs.length ≤ 3) :
    own_M l own_y40 own_c40 2 none (own_r 3 1 6 58) #[(.ref x1), (.ref b1)] Z h0 (own_nsb0_Q Z x1 b1 t1 k1 vs cs v0 u0 h0 n0) := by
  refine own_enter (own := "java/lang/String") rfl (plainFor_of_name pn_java_lang_String) (fun m => ef_own_nsb0 m x1 b1) ?_
  intro p e s m below meth c s₁ Bd hZ hh hx hby hml hown hnm X0 e0
  obtain ⟨hw, ⟨G1, O2, P5⟩, ⟨G3, O4, rG3⟩, Oa, Oh, Ol⟩ := id hW
  have N0 := Fr.nil n0
  have K0 := Keep.refl h0 [x1]
  have lt3 := own_lt Ex1.lt
  have lt1 := own_lt E1.lt
  have lt2 := own_lt V1.lt
  refine own_gs (cur' := s₁.setTop (mkF m 3 #[vr x1, vr b1] [.null, (.ref b1), (.ref x1)])) ?_ ?_
  · refine XS.aloadN X0.here hx rfl (hb hby d40_0) rfl rfl ?_
    refine XS.aloadN X0.here hx rfl (hb hby d40_1) rfl rfl ?_
    refine XS.aconstNull X0.here hx rfl (hb hby d40_2) ?_
    exact Steps.refl _
  obtain ⟨_, _, ⟨T11, L11, k11, n11⟩, -, X11, ⟨Lc11, hQ11, l11, y11, z11⟩, st11⟩ := X0.specialBack hx (y := own_y39) rfl hown (mvT hZ (tw_ hw 125 rfl)) (mvT hZ (tw_ hw 126 rfl)) (mvT hZ (tw_ hw 127 rfl)) (by decide) (backOf (W := 0) (own_nab0 l Z a0 hW x1 b1 t1 k1 vs cs v0 u0 h0 n0 (by omega) O0 Ex1 Fw1 Fd1 g1 hxb hxt E1 Fv1 Fc1 Fn1 Fm1 V1 hfc hl) hZ (tw_ hw 127 rfl) (tw_ hw 9 rfl) (by decide) (by decide)) (g := (mkF m 3 #[vr x1, vr b1] [.null, (.ref b1), (.ref x1)])) rfl (by rw [hml]; rfl) (Steps.refl _) (a := x1) (argsL := [(.ref b1), .null]) (rest := []) (lenOf pd_26 rfl) rfl (own_le rfl) (hb hby d40_3) (fun _ _ => ⟨rfl, e0, own_le rfl, own_le rfl⟩)
  dsimp only [Pt.U, Pt.locs, Pt.cells, Pt.slots] at X11 l11 y11 z11 st11 hQ11
  subst l11 y11 z11
  obtain ⟨t11, rfl, Nq11, Kq11, a11, b11, c11, V11, ge11⟩ := hQ11
  have N11 := Fr.app N0 Nq11
  have z12 := Kq11.1
  have K12 := K0.trans Kq11 (allS (Or.inl (List.mem_of_getElem? (i := 0) rfl)) all0)
  have O12 := O0.keep Kq11 (allS (by omega) all0)
  refine own_gs st11 ?_
  exact own_rV X11 Bd (hb hby d40_6) rfl (⟨_, rfl, N11, K12, a11, b11, c11, V11, (by omega)⟩) rfl rfl
abbrev own_c41 : ByteArray := jdk_67_method_42_code
def own_tos0_Q (Z : State) (b1 t1 : Nat) (k1 : ClassId) (vs : List Value) (cs : List Int32) (h0 : Heap) (n0 : Nat) (v : Option Value) (h : Heap) (L : List Loc) : Prop := ∃ a t : Nat, v = some (.ref a) ∧ Fr n0 L ∧ Keep h0 h [] ∧ own_Str Z h a t cs ∧ h0.size ≤ a
theorem ef_own_tos0 (m : MethodId) (x0 : Nat) : entryFrame m #[(.ref x0)] 1 = mkF m 0 #[vr x0] [] := by first | (simp [entryFrame, mkF, argsToLocals, Value.category]; done) | rfl
abbrev own_y41 : MethodName := ⟨"java/lang/StringBuilder", "toString", "()Ljava/lang/String;"⟩
theorem d41_0 : decode own_c41 0 = .ok (.new 18, 3) := by decide +kernel
theorem d41_3 : decode own_c41 3 = .ok (.dup, 1) := by decide +kernel
theorem d41_4 : decode own_c41 4 = .ok (.aload_n 0, 1) := by decide +kernel
theorem d41_5 : decode own_c41 5 = .ok (.invokespecial 137, 3) := by decide +kernel
theorem pd_27 : parseMethodDescriptor "(Ljava/lang/StringBuilder;)V" = some ⟨[(.object "java/lang/StringBuilder")], none⟩ := by decide +kernel
theorem d41_8 : decode own_c41 8 = .ok (.areturn, 1) := by decide +kernel
set_option maxRecDepth 65536 in
set_option maxHeartbeats 40000000 in
theorem own_tos0 (l : Launch) (Z : State) (a0 : Array Value) (hW : own_W Z a0) (b1 t1 : Nat) (k1 : ClassId) (vs : List Value) (cs : List Int32) (h0 : Heap) (n0 : Nat) (Z0 : n0 ≤ h0.size) (O0 : Old Z n0 h0) (E1 : Exa Z h0 b1 "java/lang/StringBuilder") (Fv1 : Fld Z h0 b1 "java/lang/AbstractStringBuilder" "value" "[B" (.ref t1)) (Fc1 : Fld Z h0 b1 "java/lang/AbstractStringBuilder" "coder" "B" (.int (0 : Int32))) (Fn1 : Fld Z h0 b1 "java/lang/AbstractStringBuilder" "count" "I" (.int (Int32.ofNat cs.length))) (Fm1 : Fld Z h0 b1 "java/lang/AbstractStringBuilder" "maybeLatin1" "Z" (.int (0 : Int32))) (V1 : Arv Z h0 t1 k1 .byte (Int32.ofNat cs.length) vs (.int (0 : Int32))) (hfc : Z.vm.findClass "[B" = some k1) (hl : cs.length ≤ 3) (hcod : StrChars.Road.CodA cs 0 (Int32.ofNat cs.length) vs) (hbd : ∀ c ∈ cs, ¬ c < 0 ∧ ¬ (65535 : Int32) < c) :
    own_M l own_y41 own_c41 1 (some (.object "java/lang/String")) (own_r 4 2 10 77) #[(.ref b1)] Z h0 (own_tos0_Q Z b1 t1 k1 vs cs h0 n0) := by
  refine own_enter (own := "java/lang/StringBuilder") rfl (plainFor_of_name pn_java_lang_StringBuilder) (fun m => ef_own_tos0 m b1) ?_
  intro p e s m below meth c s₁ Bd hZ hh hx hby hml hown hnm X0 e0
  obtain ⟨hw, ⟨G1, O2, P5⟩, ⟨G3, O4, rG3⟩, Oa, Oh, Ol⟩ := id hW
  have N0 := Fr.nil n0
  have K0 := Keep.refl h0 []
  have lt1 := own_lt E1.lt
  have lt2 := own_lt V1.lt
  obtain ⟨T11, h11, X11, e11, E11, A11, D11, -, st11⟩ := newO X0 hx hZ hown (tw_ hw 121 rfl) (tw_ hw 17 rfl) (tw_ hw 9 rfl) e0 (g := (mkF m 0 #[vr b1] [])) rfl (hb hby d41_0) (by decide) (by decide)
  obtain ⟨b11, g11⟩ : ∃ z, z = h0.size := ⟨_, rfl⟩
  rw [← g11] at A11 D11 st11
  have lt11 := own_lt A11.lt
  refine own_go st11 ?_
  have z12 := E11.1
  have K12 := K0.ext E11
  have O12 := O0.ext E11
  have F11_value : Fld Z h11 b11 "java/lang/String" "value" "[B" .null := D11 (Or.inr (tw_ hw 30 rfl)) (ty := (.array .byte)) (by decide)
  have F11_coder : Fld Z h11 b11 "java/lang/String" "coder" "B" (.int (0 : Int32)) := D11 (Or.inr (tw_ hw 32 rfl)) (ty := .byte) (by decide)
  have f13 := (E1.ext E11)
  have f14 := (Fv1.ext E11)
  have f15 := (Fc1.ext E11)
  have f16 := (Fn1.ext E11)
  have f17 := (Fm1.ext E11)
  have f18 := (V1.ext E11)
  refine own_gs (cur' := T11.setTop (mkF m 5 #[vr b1] [(.ref b1), (.ref b11), (.ref b11)])) ?_ ?_
  · refine XS.dup X11.here hx rfl (hb hby d41_3) rfl rfl ?_
    refine XS.aloadN X11.here hx rfl (hb hby d41_4) rfl rfl ?_
    exact Steps.refl _
  obtain ⟨_, _, ⟨T19, L19, k19, n19⟩, -, X19, ⟨Lc19, hQ19, l19, y19, z19⟩, st19⟩ := X11.specialBack hx (y := own_y40) rfl hown (mvT hZ (tw_ hw 122 rfl)) (mvT hZ (tw_ hw 123 rfl)) (mvT hZ (tw_ hw 124 rfl)) (by decide) (backOf (W := 1) (own_nsb0 l Z a0 hW b11 b1 t1 k1 vs cs .null (.int (0 : Int32)) h11 n0 (by omega) O12 A11 F11_value F11_coder (by omega) (by omega) (by omega) f13 f14 f15 f16 f17 f18 hfc hl) hZ (tw_ hw 124 rfl) (tw_ hw 9 rfl) (by decide) (by decide)) (g := (mkF m 5 #[vr b1] [(.ref b1), (.ref b11), (.ref b11)])) rfl (by rw [hml]; rfl) (Steps.refl _) (a := b11) (argsL := [(.ref b1)]) (rest := [(.ref b11)]) (lenOf pd_27 rfl) rfl (own_le rfl) (hb hby d41_5) (fun _ _ => ⟨rfl, e11, own_le rfl, own_le rfl⟩)
  dsimp only [Pt.U, Pt.locs, Pt.cells, Pt.slots] at X19 l19 y19 z19 st19 hQ19
  subst l19 y19 z19
  obtain ⟨t19, rfl, Nq19, Kq19, a19, b19, c19, V19, ge19⟩ := hQ19
  have N19 := Fr.app N0 Nq19
  have z20 := Kq19.1
  have K20 := K12.trans Kq19 (allS (Or.inr (by omega)) all0)
  have O20 := O12.keep Kq19 (allS (by omega) all0)
  refine own_gs st19 ?_
  exact own_rA X19 Bd rfl (v := (.ref b11)) rfl (hb hby d41_8) rfl (⟨_, _, rfl, N19, K20, ⟨_, _, _, _, a19, b19, c19, V19, hcod, hbd, (by omega)⟩, (by omega)⟩) rfl rfl
def own_nab1_Q (Z : State) (x1 b1 t1 : Nat) (k1 : ClassId) (vs : List Value) (cs : List Int32) (v0 u0 : Value) (h0 : Heap) (n0 : Nat) (v : Option Value) (h : Heap) (L : List Loc) : Prop := ∃ t : Nat, v = none ∧ Fr n0 L ∧ Keep h0 h [x1] ∧ Exa Z h x1 "java/lang/String" ∧ Fld Z h x1 "java/lang/String" "value" "[B" (.ref t) ∧ Fld Z h x1 "java/lang/String" "coder" "B" (.int (1 : Int32)) ∧ Arv Z h t k1 .byte (Int32.ofNat (2 * cs.length)) vs (.int (0 : Int32)) ∧ h0.size ≤ t
theorem ef_own_nab1 (m : MethodId) (x0 : Nat) (x1 : Nat) : entryFrame m #[(.ref x0), (.ref x1), .null] 5 = mkF m 0 #[vr x0, vr x1, vn, .unset, .unset] [] := by first | (simp [entryFrame, mkF, argsToLocals, Value.category]; done) | rfl
theorem d39_41 : decode own_c39 41 = .ok (.getstatic 38, 3) := by decide +kernel
theorem d39_44 : decode own_c39 44 = .ok (.ifCond .eq 35, 3) := by decide +kernel
theorem d39_47 : decode own_c39 47 = .ok (.aload_n 1, 1) := by decide +kernel
theorem d39_48 : decode own_c39 48 = .ok (.getfield 1048, 3) := by decide +kernel
theorem d39_51 : decode own_c39 51 = .ok (.ifCond .eq 28, 3) := by decide +kernel
theorem d39_79 : decode own_c39 79 = .ok (.aload_n 0, 1) := by decide +kernel
theorem d39_80 : decode own_c39 80 = .ok (.iconst 1, 1) := by decide +kernel
theorem d39_81 : decode own_c39 81 = .ok (.putfield 15, 3) := by decide +kernel
theorem d39_84 : decode own_c39 84 = .ok (.aload_n 0, 1) := by decide +kernel
theorem d39_85 : decode own_c39 85 = .ok (.aload_n 3, 1) := by decide +kernel
theorem d39_86 : decode own_c39 86 = .ok (.iconst 0, 1) := by decide +kernel
theorem d39_87 : decode own_c39 87 = .ok (.iload 4, 2) := by decide +kernel
theorem d39_89 : decode own_c39 89 = .ok (.iconst 1, 1) := by decide +kernel
theorem d39_90 : decode own_c39 90 = .ok (.ishl, 1) := by decide +kernel
theorem d39_91 : decode own_c39 91 = .ok (.invokestatic 54, 3) := by decide +kernel
theorem d39_94 : decode own_c39 94 = .ok (.putfield 9, 3) := by decide +kernel
set_option maxRecDepth 65536 in
set_option maxHeartbeats 40000000 in
theorem own_nab1 (l : Launch) (Z : State) (a0 : Array Value) (hW : own_W Z a0) (x1 b1 t1 : Nat) (k1 : ClassId) (vs : List Value) (cs : List Int32) (v0 u0 : Value) (h0 : Heap) (n0 : Nat) (Z0 : n0 ≤ h0.size) (O0 : Old Z n0 h0) (Ex1 : Exa Z h0 x1 "java/lang/String") (Fw1 : Fld Z h0 x1 "java/lang/String" "value" "[B" v0) (Fd1 : Fld Z h0 x1 "java/lang/String" "coder" "B" u0) (g1 : n0 ≤ x1) (hxb : x1 ≠ b1) (hxt : x1 ≠ t1) (E1 : Exa Z h0 b1 "java/lang/StringBuilder") (Fv1 : Fld Z h0 b1 "java/lang/AbstractStringBuilder" "value" "[B" (.ref t1)) (Fc1 : Fld Z h0 b1 "java/lang/AbstractStringBuilder" "coder" "B" (.int (1 : Int32))) (Fn1 : Fld Z h0 b1 "java/lang/AbstractStringBuilder" "count" "I" (.int (Int32.ofNat cs.length))) (Fm1 : Fld Z h0 b1 "java/lang/AbstractStringBuilder" "maybeLatin1" "Z" (.int (0 : Int32))) (V1 : Arv Z h0 t1 k1 .byte (Int32.ofNat (2 * cs.length)) vs (.int (0 : Int32))) (hfc : Z.vm.findClass "[B" = some k1) (hl : cs.length ≤ 3) :
    own_M l own_y39 own_c39 5 none (own_r 2 1 6 36) #[(.ref x1), (.ref b1), .null] Z h0 (own_nab1_Q Z x1 b1 t1 k1 vs cs v0 u0 h0 n0) := by
  refine own_enter (own := "java/lang/String") rfl (plainFor_of_name pn_java_lang_String) (fun m => ef_own_nab1 m x1 b1) ?_
  intro p e s m below meth c s₁ Bd hZ hh hx hby hml hown hnm X0 e0
  obtain ⟨hw, ⟨G1, O2, P5⟩, ⟨G3, O4, rG3⟩, Oa, Oh, Ol⟩ := id hW
  have N0 := Fr.nil n0
  have K0 := Keep.refl h0 [x1]
  have lt3 := own_lt Ex1.lt
  have lt1 := own_lt E1.lt
  have lt2 := own_lt V1.lt
  refine own_gs (cur' := s₁.setTop (mkF m 1 #[vr x1, vr b1, vn, uu, uu] [(.ref x1)])) ?_ ?_
  · refine XS.aloadN X0.here hx rfl (hb hby d39_0) rfl rfl ?_
    exact Steps.refl _
  obtain ⟨T11, X11, e11, st11⟩ := initO X0 hx hZ hown (tw_ hw 26 rfl) (tw_ hw 27 rfl) (tw_ hw 28 rfl) e0 (g := (mkF m 1 #[vr x1, vr b1, vn, uu, uu] [(.ref x1)])) rfl (by rw [hml]; rfl) rfl (hb hby d39_1) (by decide) (W := 0) (own_le rfl) (by decide)
  refine own_go st11 ?_
  refine own_gs (cur' := T11.setTop (mkF m 5 #[vr x1, vr b1, vn, uu, uu] [(.ref b1)])) ?_ ?_
  · refine XS.aloadN X11.here hx rfl (hb hby d39_4) rfl rfl ?_
    exact Steps.refl _
  obtain ⟨cq12, kq12, q12a, q12b, q12c⟩ := isOf hZ e11 E1
  obtain ⟨_, _, ⟨T12, L12, k12, n12⟩, -, X12, ⟨Lc12, hQ12, l12, y12, z12⟩, st12⟩ := X11.virtualBack hx (y := own_y36) (z := own_y36) hown (mvT hZ (tw_ hw 128 rfl)) (mvT hZ (tw_ hw 129 rfl)) (notFace_of_selects (args := #[]) (mvT hZ (tw_ hw 131 rfl))) (mvT hZ (tw_ hw 131 rfl)) (mvT hZ (tw_ hw 130 rfl)) (by decide) (backOf (W := 0) (own_gv l Z a0 hW b1 t1 h0 n0 (by omega) O0 Fv1) hZ (tw_ hw 132 rfl) (tw_ hw 57 rfl) (by decide) (by decide)) q12a q12c (g := (mkF m 5 #[vr x1, vr b1, vn, uu, uu] [(.ref b1)])) rfl (by rw [hml]; rfl) (Steps.refl _) (argsL := []) (rest := []) (lenOf pd_24 rfl) rfl (own_le rfl) (hb hby d39_5) (fun _ _ => ⟨rfl, e11, own_le rfl, own_le rfl⟩)
  dsimp only [Pt.U, Pt.locs, Pt.cells, Pt.slots] at X12 l12 y12 z12 st12 hQ12
  subst l12 y12 z12
  obtain ⟨rfl, Nq12, eh12⟩ := hQ12
  have N12 := Fr.app N0 Nq12
  refine own_gs st12 ?_
  refine own_gs (cur' := T12.setTop (mkF m 10 #[vr x1, vr b1, vn, vr t1, uu] [(.ref b1)])) ?_ ?_
  · refine XS.astoreN X12.here hx rfl (hb hby d39_8) rfl rfl (l' := #[vr x1, vr b1, vn, vr t1, uu]) rfl ?_
    refine XS.aloadN X12.here hx rfl (hb hby d39_9) rfl rfl ?_
    exact Steps.refl _
  obtain ⟨cq13, kq13, q13a, q13b, q13c⟩ := isOf hZ eh12 E1
  obtain ⟨_, _, ⟨T13, L13, k13, n13⟩, -, X13, ⟨Lc13, hQ13, l13, y13, z13⟩, st13⟩ := X12.virtualBack hx (y := own_y37) (z := own_y38) hown (mvT hZ (tw_ hw 133 rfl)) (mvT hZ (tw_ hw 134 rfl)) (own_nf (args := #[]) (notFace_of_selects (args := #[]) (mvT hZ (tw_ hw 108 rfl))) (mvT hZ (tw_ hw 106 rfl)) rfl) (mvT hZ (tw_ hw 136 rfl)) (mvT hZ (tw_ hw 137 rfl)) (by decide) (backOf (W := 0) (own_slen l Z a0 hW b1 (Int32.ofNat cs.length) h0 n0 (by omega) O0 E1 Fn1) hZ (tw_ hw 138 rfl) (tw_ hw 39 rfl) (by decide) (by decide)) q13a q13c (g := (mkF m 10 #[vr x1, vr b1, vn, vr t1, uu] [(.ref b1)])) rfl (by rw [hml]; rfl) (Steps.refl _) (argsL := []) (rest := []) (lenOf pd_23 rfl) rfl (own_le rfl) (hb hby d39_10) (fun _ _ => ⟨rfl, eh12, own_le rfl, own_le rfl⟩)
  dsimp only [Pt.U, Pt.locs, Pt.cells, Pt.slots] at X13 l13 y13 z13 st13 hQ13
  subst l13 y13 z13
  obtain ⟨rfl, Nq13, eh13⟩ := hQ13
  have N13 := Fr.app N12 Nq13
  refine own_gs st13 ?_
  refine own_gs (cur' := T13.setTop (mkF m 16 #[vr x1, vr b1, vn, vr t1, vi (Int32.ofNat cs.length)] [(.ref b1)])) ?_ ?_
  · refine XS.istore X13.here hx rfl (hb hby d39_13) rfl (l' := #[vr x1, vr b1, vn, vr t1, vi (Int32.ofNat cs.length)]) rfl ?_
    refine XS.aloadN X13.here hx rfl (hb hby d39_15) rfl rfl ?_
    exact Steps.refl _
  obtain ⟨cq14, kq14, q14a, q14b, q14c⟩ := isOf hZ eh13 E1
  obtain ⟨_, _, ⟨T14, L14, k14, n14⟩, -, X14, ⟨Lc14, hQ14, l14, y14, z14⟩, st14⟩ := X13.virtualBack hx (y := own_y24) (z := own_y24) hown (mvT hZ (tw_ hw 141 rfl)) (mvT hZ (tw_ hw 111 rfl)) (notFace_of_selects (args := #[]) (mvT hZ (tw_ hw 113 rfl))) (mvT hZ (tw_ hw 113 rfl)) (mvT hZ (tw_ hw 112 rfl)) (by decide) (backOf (W := 0) (own_ais1 l Z a0 hW b1 h0 n0 (by omega) O0 Fc1) hZ (tw_ hw 114 rfl) (tw_ hw 57 rfl) (by decide) (by decide)) q14a q14c (g := (mkF m 16 #[vr x1, vr b1, vn, vr t1, vi (Int32.ofNat cs.length)] [(.ref b1)])) rfl (by rw [hml]; rfl) (Steps.refl _) (argsL := []) (rest := []) (lenOf pd_6 rfl) rfl (own_le rfl) (hb hby d39_16) (fun _ _ => ⟨rfl, eh13, own_le rfl, own_le rfl⟩)
  dsimp only [Pt.U, Pt.locs, Pt.cells, Pt.slots] at X14 l14 y14 z14 st14 hQ14
  subst l14 y14 z14
  obtain ⟨rfl, Nq14, eh14⟩ := hQ14
  have N14 := Fr.app N13 Nq14
  refine own_gs st14 ?_
  refine own_gs (cur' := T14.setTop (mkF m 41 #[vr x1, vr b1, vn, vr t1, vi (Int32.ofNat cs.length)] [])) ?_ ?_
  · refine XS.ifYes X14.here hx rfl (pc0 := 19) (pc' := 41) rfl (hb hby d39_19) rfl ((if0 _ _).trans (teq ((by decide) : (0 : Int32) = (0 : Int32))).1) (by decide) (by decide) ?_
    exact Steps.refl _
  obtain ⟨T15, X15, e15, st15⟩ := getS2 X14 hx hZ hown (host := "") (Or.inl (tw_ hw 11 rfl)) Via.refl eh14 (O2.ext O0.2) (g := (mkF m 41 #[vr x1, vr b1, vn, vr t1, vi (Int32.ofNat cs.length)] [])) rfl (hb hby d39_41)
  refine own_go st15 ?_
  refine own_gs (cur' := T15.setTop (mkF m 48 #[vr x1, vr b1, vn, vr t1, vi (Int32.ofNat cs.length)] [(.ref b1)])) ?_ ?_
  · refine XS.ifNo X15.here hx rfl (hb hby d39_44) rfl ((if0 _ _).trans (feq (P5 : ¬ (G1 = (0 : Int32)))).1) ?_
    refine XS.aloadN X15.here hx rfl (hb hby d39_47) rfl rfl ?_
    exact Steps.refl _
  obtain ⟨T16, X16, e16, st16⟩ := getF X15 hx hZ hown (host := "") (Or.inl (tw_ hw 235 rfl)) Via.refl e15 Fm1 (g := (mkF m 48 #[vr x1, vr b1, vn, vr t1, vi (Int32.ofNat cs.length)] [(.ref b1)])) rfl rfl (hb hby d39_48)
  refine own_go st16 ?_
  refine own_gs (cur' := T16.setTop (mkF m 81 #[vr x1, vr b1, vn, vr t1, vi (Int32.ofNat cs.length)] [(.int (1 : Int32)), (.ref x1)])) ?_ ?_
  · refine XS.ifYes X16.here hx rfl (pc0 := 51) (pc' := 79) rfl (hb hby d39_51) rfl ((if0 _ _).trans (teq ((by decide) : (0 : Int32) = (0 : Int32))).1) (by decide) (by decide) ?_
    refine XS.aloadN X16.here hx rfl (hb hby d39_79) rfl rfl ?_
    refine XS.iconst X16.here hx rfl (hb hby d39_80) ?_
    exact Steps.refl _
  obtain ⟨T17, h17, X17, e17, W17, st17⟩ := putF X16 hx hZ hown (host := "") (Or.inl (tw_ hw 31 rfl)) Via.refl e16 Fd1 Ex1 (Or.inr ⟨(tw_ hw 32 rfl), rfl, hnm⟩) (tw_ hw 17 rfl) (ty := .byte) (by decide) rfl rfl (g := (mkF m 81 #[vr x1, vr b1, vn, vr t1, vi (Int32.ofNat cs.length)] [(.int (1 : Int32)), (.ref x1)])) rfl rfl (hb hby d39_81)
  have F17 := Fd1.same W17
  refine own_go st17 ?_
  have z18 := W17.size
  have K18 := K0.wr W17 (Or.inl (List.mem_of_getElem? (i := 0) rfl))
  have O18 := O0.wr W17 (by omega)
  have N18 := Fr.snoc X17 N14 (by omega)
  refine own_gs (cur' := T17.setTop (mkF m 91 #[vr x1, vr b1, vn, vr t1, vi (Int32.ofNat cs.length)] [(.int ((Int32.ofNat cs.length) <<< ((1 : Int32) &&& 31))), (.int (0 : Int32)), (.ref t1), (.ref x1)])) ?_ ?_
  · refine XS.aloadN X17.here hx rfl (hb hby d39_84) rfl rfl ?_
    refine XS.aloadN X17.here hx rfl (hb hby d39_85) rfl rfl ?_
    refine XS.iconst X17.here hx rfl (hb hby d39_86) ?_
    refine XS.iload X17.here hx rfl (hb hby d39_87) rfl ?_
    refine XS.iconst X17.here hx rfl (hb hby d39_89) ?_
    refine XS.ishl X17.here hx rfl (hb hby d39_90) rfl ?_
    exact Steps.refl _
  rw [own_shl1 (by omega)]
  show own_Fin p e below (T17.setTop (mkF m 91 #[vr x1, vr b1, vn, vr t1, vi (Int32.ofNat cs.length)] [(.int (Int32.ofNat (2 * cs.length))), (.int (0 : Int32)), (.ref t1), (.ref x1)])) _
  have f19 := (V1.other W17 (own_ne (a := t1) (b := x1) (by omega)))
  obtain ⟨_, _, ⟨T20, L20, k20, n20⟩, -, X20, ⟨Lc20, hQ20, l20, y20, z20⟩, st20⟩ := Jvm.LawKit.callS X17 hx (y := own_y35) hown (mvT hZ (tw_ hw 142 rfl)) (mvT hZ (tw_ hw 143 rfl)) (mvT hZ (tw_ hw 144 rfl)) (mvT hZ (tw_ hw 145 rfl)) (by decide) (backOf (W := 1) (own_cor l Z a0 hW t1 k1 (Int32.ofNat (2 * cs.length)) vs h17 n0 (by omega) O18 f19 hfc (by rw [own_nat (by omega)]; omega)) hZ (tw_ hw 145 rfl) (tw_ hw 144 rfl) (by decide) (by decide)) (g := (mkF m 91 #[vr x1, vr b1, vn, vr t1, vi (Int32.ofNat cs.length)] [(.int (Int32.ofNat (2 * cs.length))), (.int (0 : Int32)), (.ref t1), (.ref x1)])) rfl (by rw [hml]; rfl) (argsL := [(.ref t1), (.int (0 : Int32)), (.int (Int32.ofNat (2 * cs.length)))]) (rest := [(.ref x1)]) (lenOf pd_25 rfl) rfl (own_le rfl) (hb hby d39_91) (fun _ _ => ⟨rfl, e17, own_le rfl, own_le rfl⟩)
  dsimp only [Pt.U, Pt.locs, Pt.cells, Pt.slots] at X20 l20 y20 z20 st20 hQ20
  subst l20 y20 z20
  obtain ⟨t20, rfl, Nq20, Kq20, Vt20, ge20⟩ := hQ20
  have N20 := Fr.app N18 Nq20
  have z21 := Kq20.1
  have K21 := K18.trans Kq20 all0
  have O21 := O18.keep Kq20 all0
  have lt20 := own_lt Vt20.lt
  refine own_go st20 ?_
  have f23 := ((Fw1.other W17 (Or.inr (slot_ne (Or.inr (tw_ hw 30 rfl)) (Or.inr (tw_ hw 32 rfl)) (by decide) (t := (.array .byte)) (t' := .byte) (by decide) (by decide)))).keep Kq20 nin0)
  have f24 := ((Ex1.wr W17).keep Kq20)
  obtain ⟨T22, h22, X22, e22, W22, st22⟩ := putF X20 hx hZ hown (host := "") (Or.inl (tw_ hw 29 rfl)) Via.refl rfl f23 f24 (Or.inr ⟨(tw_ hw 30 rfl), rfl, hnm⟩) (tw_ hw 17 rfl) (ty := (.array .byte)) (by decide) rfl rfl (g := (mkF m 94 #[vr x1, vr b1, vn, vr t1, vi (Int32.ofNat cs.length)] [(.ref t20), (.ref x1)])) rfl rfl (hb hby d39_94)
  have F22 := f23.same W22
  refine own_go st22 ?_
  have z25 := W22.size
  have K25 := K21.wr W22 (Or.inl (List.mem_of_getElem? (i := 0) rfl))
  have O25 := O21.wr W22 (by omega)
  have N25 := Fr.snoc X22 N20 (by omega)
  have f26 := (f24.wr W22)
  have f27 := ((F17.keep Kq20 nin0).other W22 (Or.inr (slot_ne (Or.inr (tw_ hw 32 rfl)) (Or.inr (tw_ hw 30 rfl)) (by decide) (t := .byte) (t' := (.array .byte)) (by decide) (by decide))))
  have f28 := (Vt20.other W22 (own_ne (a := t20) (b := x1) (by omega)))
  exact own_rV X22 Bd (hb hby d39_97) e22 (⟨_, rfl, N25, K25, f26, F22, f27, f28, (by omega)⟩) rfl rfl
def own_nsb1_Q (Z : State) (x1 b1 t1 : Nat) (k1 : ClassId) (vs : List Value) (cs : List Int32) (v0 u0 : Value) (h0 : Heap) (n0 : Nat) (v : Option Value) (h : Heap) (L : List Loc) : Prop := ∃ t : Nat, v = none ∧ Fr n0 L ∧ Keep h0 h [x1] ∧ Exa Z h x1 "java/lang/String" ∧ Fld Z h x1 "java/lang/String" "value" "[B" (.ref t) ∧ Fld Z h x1 "java/lang/String" "coder" "B" (.int (1 : Int32)) ∧ Arv Z h t k1 .byte (Int32.ofNat (2 * cs.length)) vs (.int (0 : Int32)) ∧ h0.size ≤ t
theorem ef_own_nsb1 (m : MethodId) (x0 : Nat) (x1 : Nat) : entryFrame m #[(.ref x0), (.ref x1)] 2 = mkF m 0 #[vr x0, vr x1] [] := by first | (simp [entryFrame, mkF, argsToLocals, Value.category]; done) | rfl
set_option maxRecDepth 65536 in
set_option maxHeartbeats 40000000 in
theorem own_nsb1 (l : Launch) (Z : State) (a0 : Array Value) (hW : own_W Z a0) (x1 b1 t1 : Nat) (k1 : ClassId) (vs : List Value) (cs : List Int32) (v0 u0 : Value) (h0 : Heap) (n0 : Nat) (Z0 : n0 ≤ h0.size) (O0 : Old Z n0 h0) (Ex1 : Exa Z h0 x1 "java/lang/String") (Fw1 : Fld Z h0 x1 "java/lang/String" "value" "[B" v0) (Fd1 : Fld Z h0 x1 "java/lang/String" "coder" "B" u0) (g1 : n0 ≤ x1) (hxb : x1 ≠ b1) (hxt : x1 ≠ t1) (E1 : Exa Z h0 b1 "java/lang/StringBuilder") (Fv1 : Fld Z h0 b1 "java/lang/AbstractStringBuilder" "value" "[B" (.ref t1)) (Fc1 : Fld Z h0 b1 "java/lang/AbstractStringBuilder" "coder" "B" (.int (1 : Int32))) (Fn1 : Fld Z h0 b1 "java/lang/AbstractStringBuilder" "count" "I" (.int (Int32.ofNat cs.length))) (Fm1 : Fld Z h0 b1 "java/lang/AbstractStringBuilder" "maybeLatin1" "Z" (.int (0 : Int32))) (V1 : Arv Z h0 t1 k1 .byte (Int32.ofNat (2 * cs.length)) vs (.int (0 : Int32))) (hfc : Z.vm.findClass "[B" = some k1) (hl : cs.length ≤ 3) :
    own_M l own_y40 own_c40 2 none (own_r 3 1 6 58) #[(.ref x1), (.ref b1)] Z h0 (own_nsb1_Q Z x1 b1 t1 k1 vs cs v0 u0 h0 n0) := by
  refine own_enter (own := "java/lang/String") rfl (plainFor_of_name pn_java_lang_String) (fun m => ef_own_nsb1 m x1 b1) ?_
  intro p e s m below meth c s₁ Bd hZ hh hx hby hml hown hnm X0 e0
  obtain ⟨hw, ⟨G1, O2, P5⟩, ⟨G3, O4, rG3⟩, Oa, Oh, Ol⟩ := id hW
  have N0 := Fr.nil n0
  have K0 := Keep.refl h0 [x1]
  have lt3 := own_lt Ex1.lt
  have lt1 := own_lt E1.lt
  have lt2 := own_lt V1.lt
  refine own_gs (cur' := s₁.setTop (mkF m 3 #[vr x1, vr b1] [.null, (.ref b1), (.ref x1)])) ?_ ?_
  · refine XS.aloadN X0.here hx rfl (hb hby d40_0) rfl rfl ?_
    refine XS.aloadN X0.here hx rfl (hb hby d40_1) rfl rfl ?_
    refine XS.aconstNull X0.here hx rfl (hb hby d40_2) ?_
    exact Steps.refl _
  obtain ⟨_, _, ⟨T11, L11, k11, n11⟩, -, X11, ⟨Lc11, hQ11, l11, y11, z11⟩, st11⟩ := X0.specialBack hx (y := own_y39) rfl hown (mvT hZ (tw_ hw 125 rfl)) (mvT hZ (tw_ hw 126 rfl)) (mvT hZ (tw_ hw 127 rfl)) (by decide) (backOf (W := 0) (own_nab1 l Z a0 hW x1 b1 t1 k1 vs cs v0 u0 h0 n0 (by omega) O0 Ex1 Fw1 Fd1 g1 hxb hxt E1 Fv1 Fc1 Fn1 Fm1 V1 hfc hl) hZ (tw_ hw 127 rfl) (tw_ hw 9 rfl) (by decide) (by decide)) (g := (mkF m 3 #[vr x1, vr b1] [.null, (.ref b1), (.ref x1)])) rfl (by rw [hml]; rfl) (Steps.refl _) (a := x1) (argsL := [(.ref b1), .null]) (rest := []) (lenOf pd_26 rfl) rfl (own_le rfl) (hb hby d40_3) (fun _ _ => ⟨rfl, e0, own_le rfl, own_le rfl⟩)
  dsimp only [Pt.U, Pt.locs, Pt.cells, Pt.slots] at X11 l11 y11 z11 st11 hQ11
  subst l11 y11 z11
  obtain ⟨t11, rfl, Nq11, Kq11, a11, b11, c11, V11, ge11⟩ := hQ11
  have N11 := Fr.app N0 Nq11
  have z12 := Kq11.1
  have K12 := K0.trans Kq11 (allS (Or.inl (List.mem_of_getElem? (i := 0) rfl)) all0)
  have O12 := O0.keep Kq11 (allS (by omega) all0)
  refine own_gs st11 ?_
  exact own_rV X11 Bd (hb hby d40_6) rfl (⟨_, rfl, N11, K12, a11, b11, c11, V11, (by omega)⟩) rfl rfl
def own_tos1_Q (Z : State) (b1 t1 : Nat) (k1 : ClassId) (vs : List Value) (cs : List Int32) (h0 : Heap) (n0 : Nat) (v : Option Value) (h : Heap) (L : List Loc) : Prop := ∃ a t : Nat, v = some (.ref a) ∧ Fr n0 L ∧ Keep h0 h [] ∧ own_Str Z h a t cs ∧ h0.size ≤ a
theorem ef_own_tos1 (m : MethodId) (x0 : Nat) : entryFrame m #[(.ref x0)] 1 = mkF m 0 #[vr x0] [] := by first | (simp [entryFrame, mkF, argsToLocals, Value.category]; done) | rfl
set_option maxRecDepth 65536 in
set_option maxHeartbeats 40000000 in
theorem own_tos1 (l : Launch) (Z : State) (a0 : Array Value) (hW : own_W Z a0) (b1 t1 : Nat) (k1 : ClassId) (vs : List Value) (cs : List Int32) (h0 : Heap) (n0 : Nat) (Z0 : n0 ≤ h0.size) (O0 : Old Z n0 h0) (E1 : Exa Z h0 b1 "java/lang/StringBuilder") (Fv1 : Fld Z h0 b1 "java/lang/AbstractStringBuilder" "value" "[B" (.ref t1)) (Fc1 : Fld Z h0 b1 "java/lang/AbstractStringBuilder" "coder" "B" (.int (1 : Int32))) (Fn1 : Fld Z h0 b1 "java/lang/AbstractStringBuilder" "count" "I" (.int (Int32.ofNat cs.length))) (Fm1 : Fld Z h0 b1 "java/lang/AbstractStringBuilder" "maybeLatin1" "Z" (.int (0 : Int32))) (V1 : Arv Z h0 t1 k1 .byte (Int32.ofNat (2 * cs.length)) vs (.int (0 : Int32))) (hfc : Z.vm.findClass "[B" = some k1) (hl : cs.length ≤ 3) (hcod : StrChars.Road.CodA cs 1 (Int32.ofNat (2 * cs.length)) vs) (hbd : ∀ c ∈ cs, ¬ c < 0 ∧ ¬ (65535 : Int32) < c) :
    own_M l own_y41 own_c41 1 (some (.object "java/lang/String")) (own_r 4 2 10 77) #[(.ref b1)] Z h0 (own_tos1_Q Z b1 t1 k1 vs cs h0 n0) := by
  refine own_enter (own := "java/lang/StringBuilder") rfl (plainFor_of_name pn_java_lang_StringBuilder) (fun m => ef_own_tos1 m b1) ?_
  intro p e s m below meth c s₁ Bd hZ hh hx hby hml hown hnm X0 e0
  obtain ⟨hw, ⟨G1, O2, P5⟩, ⟨G3, O4, rG3⟩, Oa, Oh, Ol⟩ := id hW
  have N0 := Fr.nil n0
  have K0 := Keep.refl h0 []
  have lt1 := own_lt E1.lt
  have lt2 := own_lt V1.lt
  obtain ⟨T11, h11, X11, e11, E11, A11, D11, -, st11⟩ := newO X0 hx hZ hown (tw_ hw 121 rfl) (tw_ hw 17 rfl) (tw_ hw 9 rfl) e0 (g := (mkF m 0 #[vr b1] [])) rfl (hb hby d41_0) (by decide) (by decide)
  obtain ⟨b11, g11⟩ : ∃ z, z = h0.size := ⟨_, rfl⟩
  rw [← g11] at A11 D11 st11
  have lt11 := own_lt A11.lt
  refine own_go st11 ?_
  have z12 := E11.1
  have K12 := K0.ext E11
  have O12 := O0.ext E11
  have F11_value : Fld Z h11 b11 "java/lang/String" "value" "[B" .null := D11 (Or.inr (tw_ hw 30 rfl)) (ty := (.array .byte)) (by decide)
  have F11_coder : Fld Z h11 b11 "java/lang/String" "coder" "B" (.int (0 : Int32)) := D11 (Or.inr (tw_ hw 32 rfl)) (ty := .byte) (by decide)
  have f13 := (E1.ext E11)
  have f14 := (Fv1.ext E11)
  have f15 := (Fc1.ext E11)
  have f16 := (Fn1.ext E11)
  have f17 := (Fm1.ext E11)
  have f18 := (V1.ext E11)
  refine own_gs (cur' := T11.setTop (mkF m 5 #[vr b1] [(.ref b1), (.ref b11), (.ref b11)])) ?_ ?_
  · refine XS.dup X11.here hx rfl (hb hby d41_3) rfl rfl ?_
    refine XS.aloadN X11.here hx rfl (hb hby d41_4) rfl rfl ?_
    exact Steps.refl _
  obtain ⟨_, _, ⟨T19, L19, k19, n19⟩, -, X19, ⟨Lc19, hQ19, l19, y19, z19⟩, st19⟩ := X11.specialBack hx (y := own_y40) rfl hown (mvT hZ (tw_ hw 122 rfl)) (mvT hZ (tw_ hw 123 rfl)) (mvT hZ (tw_ hw 124 rfl)) (by decide) (backOf (W := 1) (own_nsb1 l Z a0 hW b11 b1 t1 k1 vs cs .null (.int (0 : Int32)) h11 n0 (by omega) O12 A11 F11_value F11_coder (by omega) (by omega) (by omega) f13 f14 f15 f16 f17 f18 hfc hl) hZ (tw_ hw 124 rfl) (tw_ hw 9 rfl) (by decide) (by decide)) (g := (mkF m 5 #[vr b1] [(.ref b1), (.ref b11), (.ref b11)])) rfl (by rw [hml]; rfl) (Steps.refl _) (a := b11) (argsL := [(.ref b1)]) (rest := [(.ref b11)]) (lenOf pd_27 rfl) rfl (own_le rfl) (hb hby d41_5) (fun _ _ => ⟨rfl, e11, own_le rfl, own_le rfl⟩)
  dsimp only [Pt.U, Pt.locs, Pt.cells, Pt.slots] at X19 l19 y19 z19 st19 hQ19
  subst l19 y19 z19
  obtain ⟨t19, rfl, Nq19, Kq19, a19, b19, c19, V19, ge19⟩ := hQ19
  have N19 := Fr.app N0 Nq19
  have z20 := Kq19.1
  have K20 := K12.trans Kq19 (allS (Or.inr (by omega)) all0)
  have O20 := O12.keep Kq19 (allS (by omega) all0)
  refine own_gs st19 ?_
  exact own_rA X19 Bd rfl (v := (.ref b11)) rfl (hb hby d41_8) rfl (⟨_, _, rfl, N19, K20, ⟨_, _, _, _, a19, b19, c19, V19, hcod, hbd, (by omega)⟩, (by omega)⟩) rfl rfl
section OwnTs
variable {p : Program} {l : Launch} {e : Env} {R : Room} {s : State} {args : Array Value} {below : List Frame} {Z : State} {a0 : Array Value} {h : Heap}
theorem own_ts {len W : Nat} (hZ : Z.Warmed39 s.vm) (hW : own_W Z a0) {b t n : Nat} {cs : List Int32} (F : own_SB Z h b t n cs) (hlat : own_lat n cs = cs.map fun c => Value.int (StrChars.lo8 c)) (hwid : own_wid n cs = StrChars.Road.wideBytes cs) (hn : n = cs.length) (hl : cs.length ≤ 3) (hbd : ∀ c ∈ cs, ¬ c < 0 ∧ ¬ (65535 : Int32) < c) {n0 : Nat} (hn0 : n0 ≤ h.size) (O0 : Old Z n0 h) (hfr : 5 ≤ R.frames) (hlo : W + 89 ≤ R.locals) :
    Back l R p e below s args (⟨"java/lang/StringBuilder", "toString", "()Ljava/lang/String;"⟩ : MethodName) len W (fun P a => a = #[.ref b] ∧ P.U.heap = h ∧ P.cells + 2 ≤ R.cells ∧ P.slots + 10 ≤ R.slots)
      (fun P _ v B => ∃ L, (∃ a t' : Nat, v = some (.ref a) ∧ Fr n0 L ∧ Keep h B.U.heap [] ∧ own_Str Z B.U.heap a t' cs ∧ h.size ≤ a) ∧ B.locs = P.locs ++ L ∧ B.cells = P.cells + 2 ∧ B.slots = P.slots + 10) := by
  have hw := hW.1
  obtain ⟨k, cd, N, vs, f1, f2, f3, f4, f5, f6, f7, f8⟩ := F
  subst hn
  rcases f8 with ⟨rfl, rfl, rfl, f8⟩ | ⟨rfl, rfl, rfl, f8⟩
  · exact backOf (own_tos0 l Z a0 hW b t k _ cs h n0 hn0 O0 f1 f2 f3 f4 f5 f6 f7 hl (Or.inl ⟨rfl, rfl, hlat, f8⟩) hbd) hZ (tw_ hw 120 rfl) (tw_ hw 39 rfl) (by show 4 + 1 ≤ R.frames; omega) (by show W + (1 + 11) + 77 ≤ R.locals; omega)
  · exact backOf (own_tos1 l Z a0 hW b t k _ cs h n0 hn0 O0 f1 f2 f3 f4 f5 f6 f7 hl (Or.inr ⟨rfl, rfl, hwid, f8⟩) hbd) hZ (tw_ hw 120 rfl) (tw_ hw 39 rfl) (by show 4 + 1 ≤ R.frames; omega) (by show W + (1 + 11) + 77 ≤ R.locals; omega)
end OwnTs
abbrev own_c42 : ByteArray := jdk_89_method_89_code
def own_isoi_Q (Z : State) (c0 : Int32) (h0 : Heap) (n0 : Nat) (v : Option Value) (h : Heap) (L : List Loc) : Prop := ((v = some (.int (1 : Int32)) ∧ own_sh c0 = 32) ∨ (v = some (.int (0 : Int32)) ∧ own_sh c0 = c0)) ∧ Fr n0 L ∧ h = h0
theorem pn_java_lang_Character : plainName "java/lang/Character" = true := by first | (simp [plainName, overriddenIn]; done) | decide +kernel
theorem ef_own_isoi (m : MethodId) (x0 : Int32) : entryFrame m #[(.int x0)] 1 = mkF m 0 #[vi x0] [] := by first | (simp [entryFrame, mkF, argsToLocals, Value.category]; done) | rfl
abbrev own_y42 : MethodName := ⟨"java/lang/Character", "isISOControl", "(I)Z"⟩
theorem d42_0 : decode own_c42 0 = .ok (.iload_n 0, 1) := by decide +kernel
theorem d42_1 : decode own_c42 1 = .ok (.sipush 159, 3) := by decide +kernel
theorem d42_4 : decode own_c42 4 = .ok (.if_icmp .gt 19, 3) := by decide +kernel
theorem d42_23 : decode own_c42 23 = .ok (.iconst 0, 1) := by decide +kernel
theorem d42_24 : decode own_c42 24 = .ok (.ireturn, 1) := by decide +kernel
theorem d42_7 : decode own_c42 7 = .ok (.iload_n 0, 1) := by decide +kernel
theorem d42_8 : decode own_c42 8 = .ok (.bipush 127, 2) := by decide +kernel
theorem d42_10 : decode own_c42 10 = .ok (.if_icmp .ge 9, 3) := by decide +kernel
theorem d42_13 : decode own_c42 13 = .ok (.iload_n 0, 1) := by decide +kernel
theorem d42_14 : decode own_c42 14 = .ok (.iconst 5, 1) := by decide +kernel
theorem d42_15 : decode own_c42 15 = .ok (.iushr, 1) := by decide +kernel
theorem d42_16 : decode own_c42 16 = .ok (.ifCond .ne 7, 3) := by decide +kernel
theorem d42_19 : decode own_c42 19 = .ok (.iconst 1, 1) := by decide +kernel
theorem d42_20 : decode own_c42 20 = .ok (.goto 4, 3) := by decide +kernel
set_option maxRecDepth 65536 in
set_option maxHeartbeats 40000000 in
theorem own_isoi (l : Launch) (Z : State) (a0 : Array Value) (hW : own_W Z a0) (c0 : Int32) (h0 : Heap) (n0 : Nat) (Z0 : n0 ≤ h0.size) (O0 : Old Z n0 h0) (hbd : ¬ c0 < 0 ∧ ¬ (65535 : Int32) < c0) :
    own_M l own_y42 own_c42 1 (some .boolean) (own_r 0 0 0 0) #[(.int c0)] Z h0 (own_isoi_Q Z c0 h0 n0) := by
  refine own_enter (own := "java/lang/Character") rfl (plainFor_of_name pn_java_lang_Character) (fun m => ef_own_isoi m c0) ?_
  intro p e s m below meth c s₁ Bd hZ hh hx hby hml hown hnm X0 e0
  obtain ⟨hw, ⟨G1, O2, P5⟩, ⟨G3, O4, rG3⟩, Oa, Oh, Ol⟩ := id hW
  have N0 := Fr.nil n0
  have K0 := Keep.refl h0 []
  refine own_gs (cur' := s₁.setTop (mkF m 4 #[vi c0] [(.int (159 : Int32)), (.int c0)])) ?_ ?_
  · refine XS.iloadN X0.here hx rfl (hb hby d42_0) rfl ?_
    refine XS.sipush X0.here hx rfl (hb hby d42_1) ?_
    exact Steps.refl _
  by_cases hc4_11 : (159 : Int32) < c0
  · refine own_gs (cur' := s₁.setTop (mkF m 24 #[vi c0] [(.int (0 : Int32))])) ?_ ?_
    · refine XS.icmpYes X0.here hx rfl (pc0 := 4) (pc' := 23) rfl (hb hby d42_4) rfl (tlt (hc4_11 : (159 : Int32) < c0)).2.2.1 (by decide) (by decide) ?_
      refine XS.iconst X0.here hx rfl (hb hby d42_23) ?_
      exact Steps.refl _
    exact own_rN X0 Bd (by simp) (v := (0 : Int32)) rfl (hb hby d42_24) e0 (⟨Or.inr ⟨rfl, own_sh_a hc4_11⟩, N0, rfl⟩) rfl rfl
  · refine own_gs (cur' := s₁.setTop (mkF m 10 #[vi c0] [(.int (127 : Int32)), (.int c0)])) ?_ ?_
    · refine XS.icmpNo X0.here hx rfl (hb hby d42_4) rfl (flt (hc4_11 : ¬ ((159 : Int32) < c0))).2.2.1 ?_
      refine XS.iloadN X0.here hx rfl (hb hby d42_7) rfl ?_
      refine XS.bipush X0.here hx rfl (hb hby d42_8) ?_
      exact Steps.refl _
    by_cases hc10_12 : c0 < (127 : Int32)
    · refine own_gs (cur' := s₁.setTop (mkF m 16 #[vi c0] [(.int ((c0.toUInt32 >>> ((5 : Int32) &&& 31).toUInt32).toInt32))])) ?_ ?_
      · refine XS.icmpNo X0.here hx rfl (hb hby d42_10) rfl (tlt (hc10_12 : c0 < (127 : Int32))).2.1 ?_
        refine XS.iloadN X0.here hx rfl (hb hby d42_13) rfl ?_
        refine XS.iconst X0.here hx rfl (hb hby d42_14) ?_
        refine XS.iushr X0.here hx rfl (hb hby d42_15) rfl ?_
        exact Steps.refl _
      by_cases hc16_13 : ((c0.toUInt32 >>> ((5 : Int32) &&& 31).toUInt32).toInt32) = (0 : Int32)
      · refine own_gs (cur' := s₁.setTop (mkF m 24 #[vi c0] [(.int (1 : Int32))])) ?_ ?_
        · refine XS.ifNo X0.here hx rfl (hb hby d42_16) rfl ((if0 _ _).trans (teq (hc16_13 : ((c0.toUInt32 >>> ((5 : Int32) &&& 31).toUInt32).toInt32) = (0 : Int32))).2) ?_
          refine XS.iconst X0.here hx rfl (hb hby d42_19) ?_
          refine XS.goto X0.here hx rfl (pc0 := 20) (pc' := 24) rfl (hb hby d42_20) (by decide) (by decide) ?_
          exact Steps.refl _
        exact own_rN X0 Bd (by simp) (v := (1 : Int32)) rfl (hb hby d42_24) e0 (⟨Or.inl ⟨rfl, own_sh_c hbd.1 hc16_13⟩, N0, rfl⟩) rfl rfl
      · refine own_gs (cur' := s₁.setTop (mkF m 24 #[vi c0] [(.int (0 : Int32))])) ?_ ?_
        · refine XS.ifYes X0.here hx rfl (pc0 := 16) (pc' := 23) rfl (hb hby d42_16) rfl ((if0 _ _).trans (feq (hc16_13 : ¬ (((c0.toUInt32 >>> ((5 : Int32) &&& 31).toUInt32).toInt32) = (0 : Int32)))).2) (by decide) (by decide) ?_
          refine XS.iconst X0.here hx rfl (hb hby d42_23) ?_
          exact Steps.refl _
        exact own_rN X0 Bd (by simp) (v := (0 : Int32)) rfl (hb hby d42_24) e0 (⟨Or.inr ⟨rfl, own_sh_d hbd.1 hc10_12 hc16_13⟩, N0, rfl⟩) rfl rfl
    · refine own_gs (cur' := s₁.setTop (mkF m 24 #[vi c0] [(.int (1 : Int32))])) ?_ ?_
      · refine XS.icmpYes X0.here hx rfl (pc0 := 10) (pc' := 19) rfl (hb hby d42_10) rfl (flt (hc10_12 : ¬ (c0 < (127 : Int32)))).2.1 (by decide) (by decide) ?_
        refine XS.iconst X0.here hx rfl (hb hby d42_19) ?_
        refine XS.goto X0.here hx rfl (pc0 := 20) (pc' := 24) rfl (hb hby d42_20) (by decide) (by decide) ?_
        exact Steps.refl _
      exact own_rN X0 Bd (by simp) (v := (1 : Int32)) rfl (hb hby d42_24) e0 (⟨Or.inl ⟨rfl, own_sh_b hc4_11 hc10_12⟩, N0, rfl⟩) rfl rfl
abbrev own_c43 : ByteArray := jdk_89_method_88_code
def own_isoc_Q (Z : State) (c0 : Int32) (h0 : Heap) (n0 : Nat) (v : Option Value) (h : Heap) (L : List Loc) : Prop := ((v = some (.int (1 : Int32)) ∧ own_sh c0 = 32) ∨ (v = some (.int (0 : Int32)) ∧ own_sh c0 = c0)) ∧ Fr n0 L ∧ h = h0
theorem ef_own_isoc (m : MethodId) (x0 : Int32) : entryFrame m #[(.int x0)] 1 = mkF m 0 #[vi x0] [] := by first | (simp [entryFrame, mkF, argsToLocals, Value.category]; done) | rfl
abbrev own_y43 : MethodName := ⟨"java/lang/Character", "isISOControl", "(C)Z"⟩
theorem d43_0 : decode own_c43 0 = .ok (.iload_n 0, 1) := by decide +kernel
theorem d43_1 : decode own_c43 1 = .ok (.invokestatic 266, 3) := by decide +kernel
theorem pd_28 : parseMethodDescriptor "(I)Z" = some ⟨[.int], some .boolean⟩ := by decide +kernel
theorem d43_4 : decode own_c43 4 = .ok (.ireturn, 1) := by decide +kernel
set_option maxRecDepth 65536 in
set_option maxHeartbeats 40000000 in
theorem own_isoc (l : Launch) (Z : State) (a0 : Array Value) (hW : own_W Z a0) (c0 : Int32) (h0 : Heap) (n0 : Nat) (Z0 : n0 ≤ h0.size) (O0 : Old Z n0 h0) (hbd : ¬ c0 < 0 ∧ ¬ (65535 : Int32) < c0) :
    own_M l own_y43 own_c43 1 (some .boolean) (own_r 1 0 0 18) #[(.int c0)] Z h0 (own_isoc_Q Z c0 h0 n0) := by
  refine own_enter (own := "java/lang/Character") rfl (plainFor_of_name pn_java_lang_Character) (fun m => ef_own_isoc m c0) ?_
  intro p e s m below meth c s₁ Bd hZ hh hx hby hml hown hnm X0 e0
  obtain ⟨hw, ⟨G1, O2, P5⟩, ⟨G3, O4, rG3⟩, Oa, Oh, Ol⟩ := id hW
  have N0 := Fr.nil n0
  have K0 := Keep.refl h0 []
  refine own_gs (cur' := s₁.setTop (mkF m 1 #[vi c0] [(.int c0)])) ?_ ?_
  · refine XS.iloadN X0.here hx rfl (hb hby d43_0) rfl ?_
    exact Steps.refl _
  obtain ⟨_, _, ⟨T11, L11, k11, n11⟩, -, X11, ⟨Lc11, hQ11, l11, y11, z11⟩, st11⟩ := Jvm.LawKit.callS X0 hx (y := own_y42) hown (mvT hZ (tw_ hw 90 rfl)) (mvT hZ (tw_ hw 91 rfl)) (mvT hZ (tw_ hw 88 rfl)) (mvT hZ (tw_ hw 92 rfl)) (by decide) (backOf (W := 0) (own_isoi l Z a0 hW c0 h0 n0 (by omega) O0 hbd) hZ (tw_ hw 92 rfl) (tw_ hw 88 rfl) (by decide) (by decide)) (g := (mkF m 1 #[vi c0] [(.int c0)])) rfl (by rw [hml]; rfl) (argsL := [(.int c0)]) (rest := []) (lenOf pd_28 rfl) rfl (own_le rfl) (hb hby d43_1) (fun _ _ => ⟨rfl, e0, own_le rfl, own_le rfl⟩)
  dsimp only [Pt.U, Pt.locs, Pt.cells, Pt.slots] at X11 l11 y11 z11 st11 hQ11
  subst l11 y11 z11
  obtain ⟨hor11, Nq11, eh11⟩ := hQ11
  have N11 := Fr.app N0 Nq11
  rcases hor11 with ⟨rfl, hs11⟩ | ⟨rfl, hs11⟩
  · refine own_go st11 ?_
    show own_Fin p e below (T11.setTop (mkF m 4 #[vi c0] [(.int (1 : Int32))])) _
    exact own_rN X11 Bd (by simp) (v := (1 : Int32)) rfl (hb hby d43_4) eh11 (⟨Or.inl ⟨rfl, hs11⟩, N11, rfl⟩) rfl rfl
  · refine own_go st11 ?_
    show own_Fin p e below (T11.setTop (mkF m 4 #[vi c0] [(.int (0 : Int32))])) _
    exact own_rN X11 Bd (by simp) (v := (0 : Int32)) rfl (hb hby d43_4) eh11 (⟨Or.inr ⟨rfl, hs11⟩, N11, rfl⟩) rfl rfl
abbrev own_c44 : ByteArray := method_4_code
def own_shn_Q (Z : State) (c0 s0 : Int32) (h0 : Heap) (n0 : Nat) (v : Option Value) (h : Heap) (L : List Loc) : Prop := v = (some (.int s0)) ∧ Fr n0 L ∧ h = h0
theorem pn_com_example_firmhold_firmhold_io_InputRefusedExceptionOneLinePinLaw : plainName "com/example/firmhold/firmhold/io/InputRefusedExceptionOneLinePinLaw" = true := by first | (simp [plainName, overriddenIn]; done) | decide +kernel
theorem ef_own_shn (m : MethodId) (x0 : Int32) : entryFrame m #[(.int x0)] 1 = mkF m 0 #[vi x0] [] := by first | (simp [entryFrame, mkF, argsToLocals, Value.category]; done) | rfl
abbrev own_y44 : MethodName := ⟨"com/example/firmhold/firmhold/io/InputRefusedExceptionOneLinePinLaw", "shown", "(C)C"⟩
theorem d44_0 : decode own_c44 0 = .ok (.iload_n 0, 1) := by decide +kernel
theorem d44_1 : decode own_c44 1 = .ok (.bipush 31, 2) := by decide +kernel
theorem d44_3 : decode own_c44 3 = .ok (.if_icmp .gt 6, 3) := by decide +kernel
theorem d44_9 : decode own_c44 9 = .ok (.iload_n 0, 1) := by decide +kernel
theorem d44_10 : decode own_c44 10 = .ok (.bipush 127, 2) := by decide +kernel
theorem d44_12 : decode own_c44 12 = .ok (.if_icmp .lt 13, 3) := by decide +kernel
theorem d44_25 : decode own_c44 25 = .ok (.iload_n 0, 1) := by decide +kernel
theorem d44_26 : decode own_c44 26 = .ok (.ireturn, 1) := by decide +kernel
theorem d44_15 : decode own_c44 15 = .ok (.iload_n 0, 1) := by decide +kernel
theorem d44_16 : decode own_c44 16 = .ok (.sipush 159, 3) := by decide +kernel
theorem d44_19 : decode own_c44 19 = .ok (.if_icmp .gt 6, 3) := by decide +kernel
theorem d44_22 : decode own_c44 22 = .ok (.bipush 32, 2) := by decide +kernel
theorem d44_24 : decode own_c44 24 = .ok (.ireturn, 1) := by decide +kernel
theorem d44_6 : decode own_c44 6 = .ok (.bipush 32, 2) := by decide +kernel
theorem d44_8 : decode own_c44 8 = .ok (.ireturn, 1) := by decide +kernel
set_option maxRecDepth 65536 in
set_option maxHeartbeats 40000000 in
theorem own_shn (l : Launch) (Z : State) (a0 : Array Value) (hW : own_W Z a0) (c0 s0 : Int32) (h0 : Heap) (n0 : Nat) (Z0 : n0 ≤ h0.size) (O0 : Old Z n0 h0) (hbd : ¬ c0 < 0 ∧ ¬ (65535 : Int32) < c0) (q0 : own_sh c0 = s0) :
    own_M l own_y44 own_c44 1 (some .char) (own_r 0 0 0 0) #[(.int c0)] Z h0 (own_shn_Q Z c0 s0 h0 n0) := by
  refine own_enter (own := "com/example/firmhold/firmhold/io/InputRefusedExceptionOneLinePinLaw") rfl (plainFor_of_name pn_com_example_firmhold_firmhold_io_InputRefusedExceptionOneLinePinLaw) (fun m => ef_own_shn m c0) ?_
  intro p e s m below meth c s₁ Bd hZ hh hx hby hml hown hnm X0 e0
  obtain ⟨hw, ⟨G1, O2, P5⟩, ⟨G3, O4, rG3⟩, Oa, Oh, Ol⟩ := id hW
  have N0 := Fr.nil n0
  have K0 := Keep.refl h0 []
  refine own_gs (cur' := s₁.setTop (mkF m 3 #[vi c0] [(.int (31 : Int32)), (.int c0)])) ?_ ?_
  · refine XS.iloadN X0.here hx rfl (hb hby d44_0) rfl ?_
    refine XS.bipush X0.here hx rfl (hb hby d44_1) ?_
    exact Steps.refl _
  by_cases hc3_11 : (31 : Int32) < c0
  · refine own_gs (cur' := s₁.setTop (mkF m 12 #[vi c0] [(.int (127 : Int32)), (.int c0)])) ?_ ?_
    · refine XS.icmpYes X0.here hx rfl (pc0 := 3) (pc' := 9) rfl (hb hby d44_3) rfl (tlt (hc3_11 : (31 : Int32) < c0)).2.2.1 (by decide) (by decide) ?_
      refine XS.iloadN X0.here hx rfl (hb hby d44_9) rfl ?_
      refine XS.bipush X0.here hx rfl (hb hby d44_10) ?_
      exact Steps.refl _
    by_cases hc12_12 : c0 < (127 : Int32)
    · refine own_gs (cur' := s₁.setTop (mkF m 26 #[vi c0] [(.int c0)])) ?_ ?_
      · refine XS.icmpYes X0.here hx rfl (pc0 := 12) (pc' := 25) rfl (hb hby d44_12) rfl (tlt (hc12_12 : c0 < (127 : Int32))).1 (by decide) (by decide) ?_
        refine XS.iloadN X0.here hx rfl (hb hby d44_25) rfl ?_
        exact Steps.refl _
      exact own_rN X0 Bd (by simp) (v := (nar .char c0)) rfl (hb hby d44_26) e0 (⟨by rw [own_nar hbd.1 hbd.2, ← q0]; simp [own_sh, hc3_11, hc12_12], N0, rfl⟩) rfl rfl
    · refine own_gs (cur' := s₁.setTop (mkF m 19 #[vi c0] [(.int (159 : Int32)), (.int c0)])) ?_ ?_
      · refine XS.icmpNo X0.here hx rfl (hb hby d44_12) rfl (flt (hc12_12 : ¬ (c0 < (127 : Int32)))).1 ?_
        refine XS.iloadN X0.here hx rfl (hb hby d44_15) rfl ?_
        refine XS.sipush X0.here hx rfl (hb hby d44_16) ?_
        exact Steps.refl _
      by_cases hc19_13 : (159 : Int32) < c0
      · refine own_gs (cur' := s₁.setTop (mkF m 26 #[vi c0] [(.int c0)])) ?_ ?_
        · refine XS.icmpYes X0.here hx rfl (pc0 := 19) (pc' := 25) rfl (hb hby d44_19) rfl (tlt (hc19_13 : (159 : Int32) < c0)).2.2.1 (by decide) (by decide) ?_
          refine XS.iloadN X0.here hx rfl (hb hby d44_25) rfl ?_
          exact Steps.refl _
        exact own_rN X0 Bd (by simp) (v := (nar .char c0)) rfl (hb hby d44_26) e0 (⟨by rw [own_nar hbd.1 hbd.2, ← q0]; simp [own_sh, hc3_11, hc12_12, hc19_13], N0, rfl⟩) rfl rfl
      · refine own_gs (cur' := s₁.setTop (mkF m 24 #[vi c0] [(.int (32 : Int32))])) ?_ ?_
        · refine XS.icmpNo X0.here hx rfl (hb hby d44_19) rfl (flt (hc19_13 : ¬ ((159 : Int32) < c0))).2.2.1 ?_
          refine XS.bipush X0.here hx rfl (hb hby d44_22) ?_
          exact Steps.refl _
        exact own_rN X0 Bd (by simp) (v := (32 : Int32)) rfl (hb hby d44_24) e0 (⟨by rw [← q0]; simp [own_sh, hc3_11, hc12_12, hc19_13], N0, rfl⟩) rfl rfl
  · refine own_gs (cur' := s₁.setTop (mkF m 8 #[vi c0] [(.int (32 : Int32))])) ?_ ?_
    · refine XS.icmpNo X0.here hx rfl (hb hby d44_3) rfl (flt (hc3_11 : ¬ ((31 : Int32) < c0))).2.2.1 ?_
      refine XS.bipush X0.here hx rfl (hb hby d44_6) ?_
      exact Steps.refl _
    exact own_rN X0 Bd (by simp) (v := (32 : Int32)) rfl (hb hby d44_8) e0 (⟨by rw [← q0]; simp [own_sh, hc3_11], N0, rfl⟩) rfl rfl
abbrev own_c45 : ByteArray := method_3_code
def own_draw_Q (Z : State) (p0 : Int32) (h0 : Heap) (n0 : Nat) (v : Option Value) (h : Heap) (L : List Loc) : Prop := ∃ c : Int32, v = some (.int c) ∧ (¬ c < 0 ∧ ¬ (65535 : Int32) < c) ∧ Fr n0 L ∧ h = h0
theorem ef_own_draw (m : MethodId) (x0 : Int32) : entryFrame m #[(.int x0)] 1 = mkF m 0 #[vi x0] [] := by first | (simp [entryFrame, mkF, argsToLocals, Value.category]; done) | rfl
abbrev own_y45 : MethodName := ⟨"com/example/firmhold/firmhold/io/InputRefusedExceptionOneLinePinLaw", "draw", "(I)C"⟩
theorem d45_0 : decode own_c45 0 = .ok (.iload_n 0, 1) := by decide +kernel
theorem d45_1 : decode own_c45 1 = .ok (.bipush 16, 2) := by decide +kernel
theorem d45_3 : decode own_c45 3 = .ok (.iushr, 1) := by decide +kernel
theorem d45_4 : decode own_c45 4 = .ok (.iconst 1, 1) := by decide +kernel
theorem d45_5 : decode own_c45 5 = .ok (.iand, 1) := by decide +kernel
theorem d45_6 : decode own_c45 6 = .ok (.ifCond .eq 9, 3) := by decide +kernel
theorem d45_15 : decode own_c45 15 = .ok (.iload_n 0, 1) := by decide +kernel
theorem d45_16 : decode own_c45 16 = .ok (.sipush 255, 3) := by decide +kernel
theorem d45_19 : decode own_c45 19 = .ok (.iand, 1) := by decide +kernel
theorem d45_20 : decode own_c45 20 = .ok (.i2c, 1) := by decide +kernel
theorem d45_21 : decode own_c45 21 = .ok (.ireturn, 1) := by decide +kernel
theorem d45_9 : decode own_c45 9 = .ok (.iload_n 0, 1) := by decide +kernel
theorem d45_10 : decode own_c45 10 = .ok (.ldc 36, 2) := by decide +kernel
theorem d45_12 : decode own_c45 12 = .ok (.iand, 1) := by decide +kernel
theorem d45_13 : decode own_c45 13 = .ok (.i2c, 1) := by decide +kernel
theorem d45_14 : decode own_c45 14 = .ok (.ireturn, 1) := by decide +kernel
set_option maxRecDepth 65536 in
set_option maxHeartbeats 40000000 in
theorem own_draw (l : Launch) (Z : State) (a0 : Array Value) (hW : own_W Z a0) (p0 : Int32) (h0 : Heap) (n0 : Nat) (Z0 : n0 ≤ h0.size) (O0 : Old Z n0 h0)  :
    own_M l own_y45 own_c45 1 (some .char) (own_r 0 0 0 0) #[(.int p0)] Z h0 (own_draw_Q Z p0 h0 n0) := by
  refine own_enter (own := "com/example/firmhold/firmhold/io/InputRefusedExceptionOneLinePinLaw") rfl (plainFor_of_name pn_com_example_firmhold_firmhold_io_InputRefusedExceptionOneLinePinLaw) (fun m => ef_own_draw m p0) ?_
  intro p e s m below meth c s₁ Bd hZ hh hx hby hml hown hnm X0 e0
  obtain ⟨hw, ⟨G1, O2, P5⟩, ⟨G3, O4, rG3⟩, Oa, Oh, Ol⟩ := id hW
  have N0 := Fr.nil n0
  have K0 := Keep.refl h0 []
  refine own_gs (cur' := s₁.setTop (mkF m 6 #[vi p0] [(.int (((p0.toUInt32 >>> ((16 : Int32) &&& 31).toUInt32).toInt32) &&& (1 : Int32)))])) ?_ ?_
  · refine XS.iloadN X0.here hx rfl (hb hby d45_0) rfl ?_
    refine XS.bipush X0.here hx rfl (hb hby d45_1) ?_
    refine XS.iushr X0.here hx rfl (hb hby d45_3) rfl ?_
    refine XS.iconst X0.here hx rfl (hb hby d45_4) ?_
    refine XS.iand X0.here hx rfl (hb hby d45_5) rfl ?_
    exact Steps.refl _
  by_cases hc6_11 : (((p0.toUInt32 >>> ((16 : Int32) &&& 31).toUInt32).toInt32) &&& (1 : Int32)) = (0 : Int32)
  · refine own_gs (cur' := s₁.setTop (mkF m 21 #[vi p0] [(.int ((p0 &&& (255 : Int32)).toUInt32.toUInt16.toUInt32.toInt32))])) ?_ ?_
    · refine XS.ifYes X0.here hx rfl (pc0 := 6) (pc' := 15) rfl (hb hby d45_6) rfl ((if0 _ _).trans (teq (hc6_11 : (((p0.toUInt32 >>> ((16 : Int32) &&& 31).toUInt32).toInt32) &&& (1 : Int32)) = (0 : Int32))).1) (by decide) (by decide) ?_
      refine XS.iloadN X0.here hx rfl (hb hby d45_15) rfl ?_
      refine XS.sipush X0.here hx rfl (hb hby d45_16) ?_
      refine XS.iand X0.here hx rfl (hb hby d45_19) rfl ?_
      refine XS.i2c X0.here hx rfl (hb hby d45_20) rfl ?_
      exact Steps.refl _
    exact own_rN X0 Bd (by simp) (v := (nar .char ((p0 &&& (255 : Int32)).toUInt32.toUInt16.toUInt32.toInt32))) rfl (hb hby d45_21) e0 (⟨_, rfl, own_narb _, N0, rfl⟩) rfl rfl
  · refine own_gs (cur' := s₁.setTop (mkF m 14 #[vi p0] [(.int ((p0 &&& (65535 : Int32)).toUInt32.toUInt16.toUInt32.toInt32))])) ?_ ?_
    · refine XS.ifNo X0.here hx rfl (hb hby d45_6) rfl ((if0 _ _).trans (feq (hc6_11 : ¬ ((((p0.toUInt32 >>> ((16 : Int32) &&& 31).toUInt32).toInt32) &&& (1 : Int32)) = (0 : Int32)))).1) ?_
      refine XS.iloadN X0.here hx rfl (hb hby d45_9) rfl ?_
      refine X0.ldcInt hx hown (mvT hZ (tw_ hw 178 rfl)) (g := (mkF m 10 #[vi p0] [(.int p0)])) rfl (hb hby d45_10) _ ?_
      refine XS.iand X0.here hx rfl (hb hby d45_12) rfl ?_
      refine XS.i2c X0.here hx rfl (hb hby d45_13) rfl ?_
      exact Steps.refl _
    exact own_rN X0 Bd (by simp) (v := (nar .char ((p0 &&& (65535 : Int32)).toUInt32.toUInt16.toUInt32.toInt32))) rfl (hb hby d45_14) e0 (⟨_, rfl, own_narb _, N0, rfl⟩) rfl rfl
abbrev own_c46 : ByteArray := prog_71_method_2_code
def own_one0_Q (Z : State) (a1 t1 : Nat)  (h0 : Heap) (n0 : Nat) (v : Option Value) (h : Heap) (L : List Loc) : Prop := ∃ a t : Nat, v = some (.ref a) ∧ Fr n0 L ∧ Keep h0 h [] ∧ own_Str Z h a t [] ∧ h0.size ≤ a
theorem pn_com_example_firmhold_firmhold_io_InputRefusedException : plainName "com/example/firmhold/firmhold/io/InputRefusedException" = true := by first | (simp [plainName, overriddenIn]; done) | decide +kernel
theorem ef_own_one0 (m : MethodId) (x0 : Nat) : entryFrame m #[(.ref x0)] 4 = mkF m 0 #[vr x0, .unset, .unset, .unset] [] := by first | (simp [entryFrame, mkF, argsToLocals, Value.category]; done) | rfl
abbrev own_y46 : MethodName := ⟨"com/example/firmhold/firmhold/io/InputRefusedException", "oneLine", "(Ljava/lang/String;)Ljava/lang/String;"⟩
theorem d46_0 : decode own_c46 0 = .ok (.new 17, 3) := by decide +kernel
theorem d46_3 : decode own_c46 3 = .ok (.dup, 1) := by decide +kernel
theorem d46_4 : decode own_c46 4 = .ok (.aload_n 0, 1) := by decide +kernel
theorem d46_5 : decode own_c46 5 = .ok (.invokevirtual 19, 3) := by decide +kernel
abbrev own_y47 : MethodName := ⟨"java/lang/String", "length", "()I"⟩
theorem d46_8 : decode own_c46 8 = .ok (.invokespecial 25, 3) := by decide +kernel
theorem d46_11 : decode own_c46 11 = .ok (.astore_n 1, 1) := by decide +kernel
theorem d46_12 : decode own_c46 12 = .ok (.iconst 0, 1) := by decide +kernel
theorem d46_13 : decode own_c46 13 = .ok (.istore_n 2, 1) := by decide +kernel
theorem d46_14 : decode own_c46 14 = .ok (.iload_n 2, 1) := by decide +kernel
theorem d46_15 : decode own_c46 15 = .ok (.aload_n 0, 1) := by decide +kernel
theorem d46_16 : decode own_c46 16 = .ok (.invokevirtual 19, 3) := by decide +kernel
theorem d46_19 : decode own_c46 19 = .ok (.if_icmp .ge 33, 3) := by decide +kernel
theorem d46_52 : decode own_c46 52 = .ok (.aload_n 1, 1) := by decide +kernel
theorem d46_53 : decode own_c46 53 = .ok (.invokevirtual 42, 3) := by decide +kernel
theorem pd_29 : parseMethodDescriptor "()Ljava/lang/String;" = some ⟨[], some (.object "java/lang/String")⟩ := by decide +kernel
theorem d46_56 : decode own_c46 56 = .ok (.areturn, 1) := by decide +kernel
set_option maxRecDepth 65536 in
set_option maxHeartbeats 40000000 in
theorem own_one0 (l : Launch) (Z : State) (a0 : Array Value) (hW : own_W Z a0) (a1 t1 : Nat)  (h0 : Heap) (n0 : Nat) (Z0 : n0 ≤ h0.size) (O0 : Old Z n0 h0) (F1 : own_Str Z h0 a1 t1 []) :
    own_M l own_y46 own_c46 4 (some (.object "java/lang/String")) (own_r 8 4 17 163) #[(.ref a1)] Z h0 (own_one0_Q Z a1 t1 h0 n0) := by
  refine own_enter (own := "com/example/firmhold/firmhold/io/InputRefusedException") rfl (plainFor_of_name pn_com_example_firmhold_firmhold_io_InputRefusedException) (fun m => ef_own_one0 m a1) ?_
  intro p e s m below meth c s₁ Bd hZ hh hx hby hml hown hnm X0 e0
  obtain ⟨hw, ⟨G1, O2, P5⟩, ⟨G3, O4, rG3⟩, Oa, Oh, Ol⟩ := id hW
  have N0 := Fr.nil n0
  have K0 := Keep.refl h0 []
  have E1 := F1.exa
  have lt1 := F1.lt
  obtain ⟨T11, h11, X11, e11, E11, A11, D11, -, st11⟩ := newO X0 hx hZ hown (tw_ hw 37 rfl) (tw_ hw 38 rfl) (tw_ hw 39 rfl) e0 (g := (mkF m 0 #[vr a1, uu, uu, uu] [])) rfl (hb hby d46_0) (by decide) (by decide)
  obtain ⟨b11, g11⟩ : ∃ z, z = h0.size := ⟨_, rfl⟩
  rw [← g11] at A11 D11 st11
  have lt11 := own_lt A11.lt
  refine own_go st11 ?_
  have z12 := E11.1
  have K12 := K0.ext E11
  have O12 := O0.ext E11
  have F11_value : Fld Z h11 b11 "java/lang/AbstractStringBuilder" "value" "[B" .null := D11 (Or.inl (tw_ hw 62 rfl)) (ty := (.array .byte)) (by decide)
  have F11_coder : Fld Z h11 b11 "java/lang/AbstractStringBuilder" "coder" "B" (.int (0 : Int32)) := D11 (Or.inl (tw_ hw 64 rfl)) (ty := .byte) (by decide)
  have F11_count : Fld Z h11 b11 "java/lang/AbstractStringBuilder" "count" "I" (.int (0 : Int32)) := D11 (Or.inl (tw_ hw 104 rfl)) (ty := .int) (by decide)
  have F11_maybeLatin1 : Fld Z h11 b11 "java/lang/AbstractStringBuilder" "maybeLatin1" "Z" (.int (0 : Int32)) := D11 (Or.inl (tw_ hw 236 rfl)) (ty := .boolean) (by decide)
  have f13 := (F1.ext E11)
  refine own_gs (cur' := T11.setTop (mkF m 5 #[vr a1, uu, uu, uu] [(.ref a1), (.ref b11), (.ref b11)])) ?_ ?_
  · refine XS.dup X11.here hx rfl (hb hby d46_3) rfl rfl ?_
    refine XS.aloadN X11.here hx rfl (hb hby d46_4) rfl rfl ?_
    exact Steps.refl _
  have f15 := (E1.ext E11)
  obtain ⟨cq14, kq14, q14a, q14b, q14c⟩ := isOf hZ e11 f15
  obtain ⟨_, _, ⟨T14, L14, k14, n14⟩, -, X14, ⟨Lc14, hQ14, l14, y14, z14⟩, st14⟩ := X11.virtualBack hx (y := own_y47) (z := own_y47) hown (mvT hZ (tw_ hw 40 rfl)) (mvT hZ (tw_ hw 41 rfl)) (notFace_of_selects (args := #[]) (mvT hZ (tw_ hw 43 rfl))) (mvT hZ (tw_ hw 43 rfl)) (mvT hZ (tw_ hw 42 rfl)) (by decide) (own_lenB (W := 2) hZ hw f13 (O2.ext O12.2) P5 (by decide) (by decide)) q14a q14c (g := (mkF m 5 #[vr a1, uu, uu, uu] [(.ref a1), (.ref b11), (.ref b11)])) rfl (by rw [hml]; rfl) (Steps.refl _) (argsL := []) (rest := [(.ref b11), (.ref b11)]) (lenOf pd_23 rfl) rfl (own_le rfl) (hb hby d46_5) (fun _ _ => ⟨rfl, e11, own_le rfl, own_le rfl⟩)
  dsimp only [Pt.U, Pt.locs, Pt.cells, Pt.slots] at X14 l14 y14 z14 st14 hQ14
  subst l14 y14 z14
  obtain ⟨rfl, rfl, eh14⟩ := hQ14
  have N14 := Fr.app N0 (Fr.nil n0)
  refine own_gs st14 ?_
  obtain ⟨_, _, ⟨T16, L16, k16, n16⟩, -, X16, ⟨Lc16, hQ16, l16, y16, z16⟩, st16⟩ := X14.specialBack hx (y := own_y23) rfl hown (mvT hZ (tw_ hw 50 rfl)) (mvT hZ (tw_ hw 51 rfl)) (mvT hZ (tw_ hw 52 rfl)) (by decide) (backOf (W := 1) (own_sbi l Z a0 hW b11 .null (.int (0 : Int32)) 0 h11 n0 (by omega) O12 (by decide) A11 F11_value F11_coder F11_count F11_maybeLatin1 (by omega)) hZ (tw_ hw 52 rfl) (tw_ hw 39 rfl) (by decide) (by decide)) (g := (mkF m 8 #[vr a1, uu, uu, uu] [(.int (0 : Int32)), (.ref b11), (.ref b11)])) rfl (by rw [hml]; rfl) (Steps.refl _) (a := b11) (argsL := [(.int (0 : Int32))]) (rest := [(.ref b11)]) (lenOf pd_16 rfl) rfl (own_le rfl) (hb hby d46_8) (fun _ _ => ⟨rfl, eh14, own_le rfl, own_le rfl⟩)
  dsimp only [Pt.U, Pt.locs, Pt.cells, Pt.slots] at X16 l16 y16 z16 st16 hQ16
  subst l16 y16 z16
  obtain ⟨t16, k16, rfl, Nq16, Kq16, a16, b16, c16, d16, f16m, V16, fcq, ge16⟩ := hQ16
  have N16 := Fr.app N14 Nq16
  have z17 := Kq16.1
  have K17 := K12.trans Kq16 (allS (Or.inr (by omega)) all0)
  have O17 := O12.keep Kq16 (allS (by omega) all0)
  have F16 : own_SB Z T16.heap b11 t16 0 [] := ⟨_, _, _, _, a16, b16, c16, d16, f16m, V16, fcq, Or.inl ⟨rfl, rfl, rfl, by simp⟩⟩
  have lt16 := F16.lt
  refine own_gs st16 ?_
  have f18 := (f13.keep Kq16 (ninS (own_ne (a := a1) (b := b11) (by omega)) nin0) (ninS (own_ne (a := t1) (b := b11) (by omega)) nin0))
  refine own_gs (cur' := T16.setTop (mkF m 16 #[vr a1, vr b11, vi (0 : Int32), uu] [(.ref a1), (.int (0 : Int32))])) ?_ ?_
  · refine XS.astoreN X16.here hx rfl (hb hby d46_11) rfl rfl (l' := #[vr a1, vr b11, uu, uu]) rfl ?_
    refine XS.iconst X16.here hx rfl (hb hby d46_12) ?_
    refine XS.istoreN X16.here hx rfl (hb hby d46_13) rfl (l' := #[vr a1, vr b11, vi (0 : Int32), uu]) rfl ?_
    refine XS.iloadN X16.here hx rfl (hb hby d46_14) rfl ?_
    refine XS.aloadN X16.here hx rfl (hb hby d46_15) rfl rfl ?_
    exact Steps.refl _
  have f20 := (f15.keep Kq16)
  obtain ⟨cq19, kq19, q19a, q19b, q19c⟩ := isOf hZ rfl f20
  obtain ⟨_, _, ⟨T19, L19, k19, n19⟩, -, X19, ⟨Lc19, hQ19, l19, y19, z19⟩, st19⟩ := X16.virtualBack hx (y := own_y47) (z := own_y47) hown (mvT hZ (tw_ hw 40 rfl)) (mvT hZ (tw_ hw 41 rfl)) (notFace_of_selects (args := #[]) (mvT hZ (tw_ hw 43 rfl))) (mvT hZ (tw_ hw 43 rfl)) (mvT hZ (tw_ hw 42 rfl)) (by decide) (own_lenB (W := 1) hZ hw f18 (O2.ext O17.2) P5 (by decide) (by decide)) q19a q19c (g := (mkF m 16 #[vr a1, vr b11, vi (0 : Int32), uu] [(.ref a1), (.int (0 : Int32))])) rfl (by rw [hml]; rfl) (Steps.refl _) (argsL := []) (rest := [(.int (0 : Int32))]) (lenOf pd_23 rfl) rfl (own_le rfl) (hb hby d46_16) (fun _ _ => ⟨rfl, rfl, own_le rfl, own_le rfl⟩)
  dsimp only [Pt.U, Pt.locs, Pt.cells, Pt.slots] at X19 l19 y19 z19 st19 hQ19
  subst l19 y19 z19
  obtain ⟨rfl, rfl, eh19⟩ := hQ19
  have N19 := Fr.app N16 (Fr.nil n0)
  refine own_gs st19 ?_
  have hds21 : ∀ d ∈ ([] : List Int32), ¬ d < 0 ∧ ¬ (65535 : Int32) < d := (by simp)
  refine own_gs (cur' := T19.setTop (mkF m 53 #[vr a1, vr b11, vi (0 : Int32), uu] [(.ref b11)])) ?_ ?_
  · refine XS.icmpYes X19.here hx rfl (pc0 := 19) (pc' := 52) rfl (hb hby d46_19) rfl (flt ((by decide) : ¬ ((0 : Int32) < (0 : Int32)))).2.1 (by decide) (by decide) ?_
    refine XS.aloadN X19.here hx rfl (hb hby d46_52) rfl rfl ?_
    exact Steps.refl _
  obtain ⟨cq22, kq22, q22a, q22b, q22c⟩ := isOf hZ eh19 a16
  obtain ⟨_, _, ⟨T22, L22, k22, n22⟩, -, X22, ⟨Lc22, hQ22, l22, y22, z22⟩, st22⟩ := X19.virtualBack hx (y := own_y41) (z := own_y41) hown (mvT hZ (tw_ hw 116 rfl)) (mvT hZ (tw_ hw 117 rfl)) (notFace_of_selects (args := #[]) (mvT hZ (tw_ hw 119 rfl))) (mvT hZ (tw_ hw 119 rfl)) (mvT hZ (tw_ hw 118 rfl)) (by decide) (own_ts (W := 0) hZ hW F16 rfl rfl rfl (Nat.le_of_ble_eq_true rfl) hds21 (n0 := n0) (by omega) O17 (by decide) (by decide)) q22a q22c (g := (mkF m 53 #[vr a1, vr b11, vi (0 : Int32), uu] [(.ref b11)])) rfl (by rw [hml]; rfl) (Steps.refl _) (argsL := []) (rest := []) (lenOf pd_29 rfl) rfl (own_le rfl) (hb hby d46_53) (fun _ _ => ⟨rfl, eh19, own_le rfl, own_le rfl⟩)
  dsimp only [Pt.U, Pt.locs, Pt.cells, Pt.slots] at X22 l22 y22 z22 st22 hQ22
  subst l22 y22 z22
  obtain ⟨a22, t22, rfl, Nq22, Kq22, F22, ge22⟩ := hQ22
  have N22 := Fr.app N19 Nq22
  have z23 := Kq22.1
  have K23 := K17.trans Kq22 all0
  have O23 := O17.keep Kq22 all0
  refine own_gs st22 ?_
  exact own_rA X22 Bd rfl (v := (.ref a22)) rfl (hb hby d46_56) rfl (⟨_, _, rfl, N22, K23, F22, (by omega)⟩) rfl rfl
def own_one1_Q (Z : State) (a1 t1 : Nat) (c0 s0 : Int32) (h0 : Heap) (n0 : Nat) (v : Option Value) (h : Heap) (L : List Loc) : Prop := ∃ a t : Nat, v = some (.ref a) ∧ Fr n0 L ∧ Keep h0 h [] ∧ own_Str Z h a t [s0] ∧ h0.size ≤ a
theorem ef_own_one1 (m : MethodId) (x0 : Nat) : entryFrame m #[(.ref x0)] 4 = mkF m 0 #[vr x0, .unset, .unset, .unset] [] := by first | (simp [entryFrame, mkF, argsToLocals, Value.category]; done) | rfl
theorem d46_22 : decode own_c46 22 = .ok (.aload_n 0, 1) := by decide +kernel
theorem d46_23 : decode own_c46 23 = .ok (.iload_n 2, 1) := by decide +kernel
theorem d46_24 : decode own_c46 24 = .ok (.invokevirtual 28, 3) := by decide +kernel
theorem pd_30 : parseMethodDescriptor "(I)C" = some ⟨[.int], some .char⟩ := by decide +kernel
theorem d46_27 : decode own_c46 27 = .ok (.istore_n 3, 1) := by decide +kernel
theorem d46_28 : decode own_c46 28 = .ok (.aload_n 1, 1) := by decide +kernel
theorem d46_29 : decode own_c46 29 = .ok (.iload_n 3, 1) := by decide +kernel
theorem d46_30 : decode own_c46 30 = .ok (.invokestatic 32, 3) := by decide +kernel
theorem d46_42 : decode own_c46 42 = .ok (.invokevirtual 38, 3) := by decide +kernel
theorem pd_31 : parseMethodDescriptor "(C)Ljava/lang/StringBuilder;" = some ⟨[.char], some (.object "java/lang/StringBuilder")⟩ := by decide +kernel
theorem d46_45 : decode own_c46 45 = .ok (.pop, 1) := by decide +kernel
theorem d46_46 : decode own_c46 46 = .ok (.iinc 2 1, 3) := by decide +kernel
theorem d46_49 : decode own_c46 49 = .ok (.goto (-35), 3) := by decide +kernel
theorem d46_33 : decode own_c46 33 = .ok (.ifCond .eq 8, 3) := by decide +kernel
theorem d46_36 : decode own_c46 36 = .ok (.bipush 32, 2) := by decide +kernel
theorem d46_38 : decode own_c46 38 = .ok (.goto 4, 3) := by decide +kernel
theorem d46_41 : decode own_c46 41 = .ok (.iload_n 3, 1) := by decide +kernel
set_option maxRecDepth 65536 in
set_option maxHeartbeats 40000000 in
theorem own_one1 (l : Launch) (Z : State) (a0 : Array Value) (hW : own_W Z a0) (a1 t1 : Nat) (c0 s0 : Int32) (h0 : Heap) (n0 : Nat) (Z0 : n0 ≤ h0.size) (O0 : Old Z n0 h0) (F1 : own_Str Z h0 a1 t1 [c0]) (q0 : own_sh c0 = s0) :
    own_M l own_y46 own_c46 4 (some (.object "java/lang/String")) (own_r 8 5 23 163) #[(.ref a1)] Z h0 (own_one1_Q Z a1 t1 c0 s0 h0 n0) := by
  refine own_enter (own := "com/example/firmhold/firmhold/io/InputRefusedException") rfl (plainFor_of_name pn_com_example_firmhold_firmhold_io_InputRefusedException) (fun m => ef_own_one1 m a1) ?_
  intro p e s m below meth c s₁ Bd hZ hh hx hby hml hown hnm X0 e0
  obtain ⟨hw, ⟨G1, O2, P5⟩, ⟨G3, O4, rG3⟩, Oa, Oh, Ol⟩ := id hW
  have N0 := Fr.nil n0
  have K0 := Keep.refl h0 []
  have E1 := F1.exa
  have lt1 := F1.lt
  have hb0 := F1.bd _ (List.mem_of_getElem? (i := 0) rfl)
  have hs0 : ¬ s0 < 0 ∧ ¬ (65535 : Int32) < s0 := q0 ▸ own_sh_bd hb0
  obtain ⟨T11, h11, X11, e11, E11, A11, D11, -, st11⟩ := newO X0 hx hZ hown (tw_ hw 37 rfl) (tw_ hw 38 rfl) (tw_ hw 39 rfl) e0 (g := (mkF m 0 #[vr a1, uu, uu, uu] [])) rfl (hb hby d46_0) (by decide) (by decide)
  obtain ⟨b11, g11⟩ : ∃ z, z = h0.size := ⟨_, rfl⟩
  rw [← g11] at A11 D11 st11
  have lt11 := own_lt A11.lt
  refine own_go st11 ?_
  have z12 := E11.1
  have K12 := K0.ext E11
  have O12 := O0.ext E11
  have F11_value : Fld Z h11 b11 "java/lang/AbstractStringBuilder" "value" "[B" .null := D11 (Or.inl (tw_ hw 62 rfl)) (ty := (.array .byte)) (by decide)
  have F11_coder : Fld Z h11 b11 "java/lang/AbstractStringBuilder" "coder" "B" (.int (0 : Int32)) := D11 (Or.inl (tw_ hw 64 rfl)) (ty := .byte) (by decide)
  have F11_count : Fld Z h11 b11 "java/lang/AbstractStringBuilder" "count" "I" (.int (0 : Int32)) := D11 (Or.inl (tw_ hw 104 rfl)) (ty := .int) (by decide)
  have F11_maybeLatin1 : Fld Z h11 b11 "java/lang/AbstractStringBuilder" "maybeLatin1" "Z" (.int (0 : Int32)) := D11 (Or.inl (tw_ hw 236 rfl)) (ty := .boolean) (by decide)
  have f13 := (F1.ext E11)
  refine own_gs (cur' := T11.setTop (mkF m 5 #[vr a1, uu, uu, uu] [(.ref a1), (.ref b11), (.ref b11)])) ?_ ?_
  · refine XS.dup X11.here hx rfl (hb hby d46_3) rfl rfl ?_
    refine XS.aloadN X11.here hx rfl (hb hby d46_4) rfl rfl ?_
    exact Steps.refl _
  have f15 := (E1.ext E11)
  obtain ⟨cq14, kq14, q14a, q14b, q14c⟩ := isOf hZ e11 f15
  obtain ⟨_, _, ⟨T14, L14, k14, n14⟩, -, X14, ⟨Lc14, hQ14, l14, y14, z14⟩, st14⟩ := X11.virtualBack hx (y := own_y47) (z := own_y47) hown (mvT hZ (tw_ hw 40 rfl)) (mvT hZ (tw_ hw 41 rfl)) (notFace_of_selects (args := #[]) (mvT hZ (tw_ hw 43 rfl))) (mvT hZ (tw_ hw 43 rfl)) (mvT hZ (tw_ hw 42 rfl)) (by decide) (own_lenB (W := 2) hZ hw f13 (O2.ext O12.2) P5 (by decide) (by decide)) q14a q14c (g := (mkF m 5 #[vr a1, uu, uu, uu] [(.ref a1), (.ref b11), (.ref b11)])) rfl (by rw [hml]; rfl) (Steps.refl _) (argsL := []) (rest := [(.ref b11), (.ref b11)]) (lenOf pd_23 rfl) rfl (own_le rfl) (hb hby d46_5) (fun _ _ => ⟨rfl, e11, own_le rfl, own_le rfl⟩)
  dsimp only [Pt.U, Pt.locs, Pt.cells, Pt.slots] at X14 l14 y14 z14 st14 hQ14
  subst l14 y14 z14
  obtain ⟨rfl, rfl, eh14⟩ := hQ14
  have N14 := Fr.app N0 (Fr.nil n0)
  refine own_gs st14 ?_
  obtain ⟨_, _, ⟨T16, L16, k16, n16⟩, -, X16, ⟨Lc16, hQ16, l16, y16, z16⟩, st16⟩ := X14.specialBack hx (y := own_y23) rfl hown (mvT hZ (tw_ hw 50 rfl)) (mvT hZ (tw_ hw 51 rfl)) (mvT hZ (tw_ hw 52 rfl)) (by decide) (backOf (W := 1) (own_sbi l Z a0 hW b11 .null (.int (0 : Int32)) 1 h11 n0 (by omega) O12 (by decide) A11 F11_value F11_coder F11_count F11_maybeLatin1 (by omega)) hZ (tw_ hw 52 rfl) (tw_ hw 39 rfl) (by decide) (by decide)) (g := (mkF m 8 #[vr a1, uu, uu, uu] [(.int (1 : Int32)), (.ref b11), (.ref b11)])) rfl (by rw [hml]; rfl) (Steps.refl _) (a := b11) (argsL := [(.int (1 : Int32))]) (rest := [(.ref b11)]) (lenOf pd_16 rfl) rfl (own_le rfl) (hb hby d46_8) (fun _ _ => ⟨rfl, eh14, own_le rfl, own_le rfl⟩)
  dsimp only [Pt.U, Pt.locs, Pt.cells, Pt.slots] at X16 l16 y16 z16 st16 hQ16
  subst l16 y16 z16
  obtain ⟨t16, k16, rfl, Nq16, Kq16, a16, b16, c16, d16, f16m, V16, fcq, ge16⟩ := hQ16
  have N16 := Fr.app N14 Nq16
  have z17 := Kq16.1
  have K17 := K12.trans Kq16 (allS (Or.inr (by omega)) all0)
  have O17 := O12.keep Kq16 (allS (by omega) all0)
  have F16 : own_SB Z T16.heap b11 t16 1 [] := ⟨_, _, _, _, a16, b16, c16, d16, f16m, V16, fcq, Or.inl ⟨rfl, rfl, rfl, by simp⟩⟩
  have lt16 := F16.lt
  refine own_gs st16 ?_
  have f18 := (f13.keep Kq16 (ninS (own_ne (a := a1) (b := b11) (by omega)) nin0) (ninS (own_ne (a := t1) (b := b11) (by omega)) nin0))
  refine own_gs (cur' := T16.setTop (mkF m 16 #[vr a1, vr b11, vi (0 : Int32), uu] [(.ref a1), (.int (0 : Int32))])) ?_ ?_
  · refine XS.astoreN X16.here hx rfl (hb hby d46_11) rfl rfl (l' := #[vr a1, vr b11, uu, uu]) rfl ?_
    refine XS.iconst X16.here hx rfl (hb hby d46_12) ?_
    refine XS.istoreN X16.here hx rfl (hb hby d46_13) rfl (l' := #[vr a1, vr b11, vi (0 : Int32), uu]) rfl ?_
    refine XS.iloadN X16.here hx rfl (hb hby d46_14) rfl ?_
    refine XS.aloadN X16.here hx rfl (hb hby d46_15) rfl rfl ?_
    exact Steps.refl _
  have f20 := (f15.keep Kq16)
  obtain ⟨cq19, kq19, q19a, q19b, q19c⟩ := isOf hZ rfl f20
  obtain ⟨_, _, ⟨T19, L19, k19, n19⟩, -, X19, ⟨Lc19, hQ19, l19, y19, z19⟩, st19⟩ := X16.virtualBack hx (y := own_y47) (z := own_y47) hown (mvT hZ (tw_ hw 40 rfl)) (mvT hZ (tw_ hw 41 rfl)) (notFace_of_selects (args := #[]) (mvT hZ (tw_ hw 43 rfl))) (mvT hZ (tw_ hw 43 rfl)) (mvT hZ (tw_ hw 42 rfl)) (by decide) (own_lenB (W := 1) hZ hw f18 (O2.ext O17.2) P5 (by decide) (by decide)) q19a q19c (g := (mkF m 16 #[vr a1, vr b11, vi (0 : Int32), uu] [(.ref a1), (.int (0 : Int32))])) rfl (by rw [hml]; rfl) (Steps.refl _) (argsL := []) (rest := [(.int (0 : Int32))]) (lenOf pd_23 rfl) rfl (own_le rfl) (hb hby d46_16) (fun _ _ => ⟨rfl, rfl, own_le rfl, own_le rfl⟩)
  dsimp only [Pt.U, Pt.locs, Pt.cells, Pt.slots] at X19 l19 y19 z19 st19 hQ19
  subst l19 y19 z19
  obtain ⟨rfl, rfl, eh19⟩ := hQ19
  have N19 := Fr.app N16 (Fr.nil n0)
  refine own_gs st19 ?_
  refine own_gs (cur' := T19.setTop (mkF m 24 #[vr a1, vr b11, vi (0 : Int32), uu] [(.int (0 : Int32)), (.ref a1)])) ?_ ?_
  · refine XS.icmpNo X19.here hx rfl (hb hby d46_19) rfl (tlt ((by decide) : (0 : Int32) < (1 : Int32))).2.1 ?_
    refine XS.aloadN X19.here hx rfl (hb hby d46_22) rfl rfl ?_
    refine XS.iloadN X19.here hx rfl (hb hby d46_23) rfl ?_
    exact Steps.refl _
  obtain ⟨cq21, kq21, q21a, q21b, q21c⟩ := isOf hZ eh19 f20
  obtain ⟨_, _, ⟨T21, L21, k21, n21⟩, -, X21, ⟨Lc21, hQ21, l21, y21, z21⟩, st21⟩ := X19.virtualBack hx (y := own_y9) (z := own_y9) hown (mvT hZ (tw_ hw 65 rfl)) (mvT hZ (tw_ hw 66 rfl)) (notFace_of_selects (args := #[]) (mvT hZ (tw_ hw 68 rfl))) (mvT hZ (tw_ hw 68 rfl)) (mvT hZ (tw_ hw 67 rfl)) (by decide) (own_chB (W := 0) hZ hW f18 (i := 0) (j := (0 : Int32)) (Nat.le_of_ble_eq_true rfl) rfl (n0 := n0) (by omega) O17 (by decide) (by decide)) q21a q21c (g := (mkF m 24 #[vr a1, vr b11, vi (0 : Int32), uu] [(.int (0 : Int32)), (.ref a1)])) rfl (by rw [hml]; rfl) (Steps.refl _) (argsL := [(.int (0 : Int32))]) (rest := []) (lenOf pd_30 rfl) rfl (own_le rfl) (hb hby d46_24) (fun _ _ => ⟨rfl, eh19, own_le rfl, own_le rfl⟩)
  dsimp only [Pt.U, Pt.locs, Pt.cells, Pt.slots] at X21 l21 y21 z21 st21 hQ21
  subst l21 y21 z21
  obtain ⟨rfl, Nq21, eh21⟩ := hQ21
  have N21 := Fr.app N19 Nq21
  refine own_gs st21 ?_
  refine own_gs (cur' := T21.setTop (mkF m 30 #[vr a1, vr b11, vi (0 : Int32), vi c0] [(.int c0), (.ref b11)])) ?_ ?_
  · refine XS.istoreN X21.here hx rfl (hb hby d46_27) rfl (l' := #[vr a1, vr b11, vi (0 : Int32), vi c0]) rfl ?_
    refine XS.aloadN X21.here hx rfl (hb hby d46_28) rfl rfl ?_
    refine XS.iloadN X21.here hx rfl (hb hby d46_29) rfl ?_
    exact Steps.refl _
  obtain ⟨_, _, ⟨T22, L22, k22, n22⟩, -, X22, ⟨Lc22, hQ22, l22, y22, z22⟩, st22⟩ := Jvm.LawKit.callS X21 hx (y := own_y43) hown (mvT hZ (tw_ hw 86 rfl)) (mvT hZ (tw_ hw 87 rfl)) (mvT hZ (tw_ hw 88 rfl)) (mvT hZ (tw_ hw 89 rfl)) (by decide) (backOf (W := 1) (own_isoc l Z a0 hW c0 T16.heap n0 (by omega) O17 hb0) hZ (tw_ hw 89 rfl) (tw_ hw 88 rfl) (by decide) (by decide)) (g := (mkF m 30 #[vr a1, vr b11, vi (0 : Int32), vi c0] [(.int c0), (.ref b11)])) rfl (by rw [hml]; rfl) (argsL := [(.int c0)]) (rest := [(.ref b11)]) (lenOf pd_13 rfl) rfl (own_le rfl) (hb hby d46_30) (fun _ _ => ⟨rfl, eh21, own_le rfl, own_le rfl⟩)
  dsimp only [Pt.U, Pt.locs, Pt.cells, Pt.slots] at X22 l22 y22 z22 st22 hQ22
  subst l22 y22 z22
  obtain ⟨hor22, Nq22, eh22⟩ := hQ22
  have N22 := Fr.app N21 Nq22
  refine own_merge (d0 := s0) (cur := fun d => T22.setTop (mkF m 42 #[vr a1, vr b11, vi (0 : Int32), vi c0] [(.int d), (.ref b11)])) ?_ (fun key => ?_)
  · show own_Fin p e below (T22.setTop (mkF m 42 #[vr a1, vr b11, vi (0 : Int32), vi c0] [(.int s0), (.ref b11)])) _
    have hds23 : ∀ d ∈ ([] : List Int32), ¬ d < 0 ∧ ¬ (65535 : Int32) < d := (by simp)
    obtain ⟨cq24, kq24, q24a, q24b, q24c⟩ := isOf hZ eh22 a16
    obtain ⟨_, _, ⟨T24, L24, k24, n24⟩, -, X24, ⟨Lc24, hQ24, l24, y24, z24⟩, st24⟩ := X22.virtualBack hx (y := own_y34) (z := own_y34) hown (mvT hZ (tw_ hw 93 rfl)) (mvT hZ (tw_ hw 94 rfl)) (notFace_of_selects (args := #[]) (mvT hZ (tw_ hw 96 rfl))) (mvT hZ (tw_ hw 96 rfl)) (mvT hZ (tw_ hw 95 rfl)) (by decide) (own_ap10 (W := 0) hZ hW F16 hds23 (n0 := n0) (by omega) O17 (by omega) (by omega) (by omega) (by decide) (by decide)) q24a q24c (g := (mkF m 42 #[vr a1, vr b11, vi (0 : Int32), vi c0] [(.int s0), (.ref b11)])) rfl (by rw [hml]; rfl) (Steps.refl _) (argsL := [(.int s0)]) (rest := []) (lenOf pd_31 rfl) rfl (own_le rfl) (hb hby d46_42) (fun _ _ => ⟨rfl, eh22, own_le rfl, own_le rfl⟩)
    dsimp only [Pt.U, Pt.locs, Pt.cells, Pt.slots] at X24 l24 y24 z24 st24 hQ24
    subst l24 y24 z24
    obtain ⟨rfl, Nq24, Kq24, t24, F24, hbt24, hor24⟩ := hQ24
    have N24 := Fr.app N22 Nq24
    have z25 := Kq24.1
    have K25 := K17.trans Kq24 (allS (Or.inr (by omega)) (allS (Or.inr (by omega)) all0))
    have O25 := O17.keep Kq24 (allS (by omega) (allS (by omega) all0))
    have lt24 := F24.lt
    have ex24 := F24.exa
    refine own_gs st24 ?_
    have f26 := (f18.keep Kq24 (ninS (own_ne (a := a1) (b := b11) (by omega)) (ninS (own_ne (a := a1) (b := t16) (by omega)) nin0)) (ninS (own_ne (a := t1) (b := b11) (by omega)) (ninS (own_ne (a := t1) (b := t16) (by omega)) nin0)))
    refine own_gs (cur' := T24.setTop (mkF m 16 #[vr a1, vr b11, vi (1 : Int32), vi c0] [(.ref a1), (.int (1 : Int32))])) ?_ ?_
    · refine XS.pop X24.here hx rfl (hb hby d46_45) rfl rfl ?_
      refine XS.iinc X24.here hx rfl (hb hby d46_46) rfl (l' := #[vr a1, vr b11, vi (1 : Int32), vi c0]) rfl ?_
      refine XS.goto X24.here hx rfl (pc0 := 49) (pc' := 14) rfl (hb hby d46_49) (by decide) (by decide) ?_
      refine XS.iloadN X24.here hx rfl (hb hby d46_14) rfl ?_
      refine XS.aloadN X24.here hx rfl (hb hby d46_15) rfl rfl ?_
      exact Steps.refl _
    have f28 := (f20.keep Kq24)
    obtain ⟨cq27, kq27, q27a, q27b, q27c⟩ := isOf hZ rfl f28
    obtain ⟨_, _, ⟨T27, L27, k27, n27⟩, -, X27, ⟨Lc27, hQ27, l27, y27, z27⟩, st27⟩ := X24.virtualBack hx (y := own_y47) (z := own_y47) hown (mvT hZ (tw_ hw 40 rfl)) (mvT hZ (tw_ hw 41 rfl)) (notFace_of_selects (args := #[]) (mvT hZ (tw_ hw 43 rfl))) (mvT hZ (tw_ hw 43 rfl)) (mvT hZ (tw_ hw 42 rfl)) (by decide) (own_lenB (W := 1) hZ hw f26 (O2.ext O25.2) P5 (by decide) (by decide)) q27a q27c (g := (mkF m 16 #[vr a1, vr b11, vi (1 : Int32), vi c0] [(.ref a1), (.int (1 : Int32))])) rfl (by rw [hml]; rfl) (Steps.refl _) (argsL := []) (rest := [(.int (1 : Int32))]) (lenOf pd_23 rfl) rfl (own_le rfl) (hb hby d46_16) (fun _ _ => ⟨rfl, rfl, own_le rfl, own_le rfl⟩)
    dsimp only [Pt.U, Pt.locs, Pt.cells, Pt.slots] at X27 l27 y27 z27 st27 hQ27
    subst l27 y27 z27
    obtain ⟨rfl, rfl, eh27⟩ := hQ27
    have N27 := Fr.app N24 (Fr.nil n0)
    refine own_gs st27 ?_
    have hds29 : ∀ d ∈ ([s0] : List Int32), ¬ d < 0 ∧ ¬ (65535 : Int32) < d := (fun d hd => by
      simp only [List.mem_cons, List.not_mem_nil, or_false] at hd
      rcases hd with rfl
      · exact hs0)
    refine own_gs (cur' := T27.setTop (mkF m 53 #[vr a1, vr b11, vi (1 : Int32), vi c0] [(.ref b11)])) ?_ ?_
    · refine XS.icmpYes X27.here hx rfl (pc0 := 19) (pc' := 52) rfl (hb hby d46_19) rfl (flt ((by decide) : ¬ ((1 : Int32) < (1 : Int32)))).2.1 (by decide) (by decide) ?_
      refine XS.aloadN X27.here hx rfl (hb hby d46_52) rfl rfl ?_
      exact Steps.refl _
    obtain ⟨cq30, kq30, q30a, q30b, q30c⟩ := isOf hZ eh27 ex24
    obtain ⟨_, _, ⟨T30, L30, k30, n30⟩, -, X30, ⟨Lc30, hQ30, l30, y30, z30⟩, st30⟩ := X27.virtualBack hx (y := own_y41) (z := own_y41) hown (mvT hZ (tw_ hw 116 rfl)) (mvT hZ (tw_ hw 117 rfl)) (notFace_of_selects (args := #[]) (mvT hZ (tw_ hw 119 rfl))) (mvT hZ (tw_ hw 119 rfl)) (mvT hZ (tw_ hw 118 rfl)) (by decide) (own_ts (W := 0) hZ hW F24 rfl rfl rfl (Nat.le_of_ble_eq_true rfl) hds29 (n0 := n0) (by omega) O25 (by decide) (by decide)) q30a q30c (g := (mkF m 53 #[vr a1, vr b11, vi (1 : Int32), vi c0] [(.ref b11)])) rfl (by rw [hml]; rfl) (Steps.refl _) (argsL := []) (rest := []) (lenOf pd_29 rfl) rfl (own_le rfl) (hb hby d46_53) (fun _ _ => ⟨rfl, eh27, own_le rfl, own_le rfl⟩)
    dsimp only [Pt.U, Pt.locs, Pt.cells, Pt.slots] at X30 l30 y30 z30 st30 hQ30
    subst l30 y30 z30
    obtain ⟨a30, t30, rfl, Nq30, Kq30, F30, ge30⟩ := hQ30
    have N30 := Fr.app N27 Nq30
    have z31 := Kq30.1
    have K31 := K25.trans Kq30 all0
    have O31 := O25.keep Kq30 all0
    refine own_gs st30 ?_
    exact own_rA X30 Bd rfl (v := (.ref a30)) rfl (hb hby d46_56) rfl (⟨_, _, rfl, N30, K31, F30, (by omega)⟩) rfl rfl
  · rcases hor22 with ⟨rfl, hs⟩ | ⟨rfl, hs⟩
    · refine own_go st22 ?_
      show own_Fin p e below (T22.setTop (mkF m 33 #[vr a1, vr b11, vi (0 : Int32), vi c0] [(.int (1 : Int32)), (.ref b11)])) _
      refine own_gs (cur' := T22.setTop (mkF m 42 #[vr a1, vr b11, vi (0 : Int32), vi c0] [(.int (32 : Int32)), (.ref b11)])) ?_ ?_
      · refine XS.ifNo X22.here hx rfl (hb hby d46_33) rfl ((if0 _ _).trans (feq ((by decide) : ¬ ((1 : Int32) = (0 : Int32)))).1) ?_
        refine XS.bipush X22.here hx rfl (hb hby d46_36) ?_
        refine XS.goto X22.here hx rfl (pc0 := 38) (pc' := 42) rfl (hb hby d46_38) (by decide) (by decide) ?_
        exact Steps.refl _
      exact key _ (hs.symm.trans q0)
    · refine own_go st22 ?_
      show own_Fin p e below (T22.setTop (mkF m 33 #[vr a1, vr b11, vi (0 : Int32), vi c0] [(.int (0 : Int32)), (.ref b11)])) _
      refine own_gs (cur' := T22.setTop (mkF m 42 #[vr a1, vr b11, vi (0 : Int32), vi c0] [(.int c0), (.ref b11)])) ?_ ?_
      · refine XS.ifYes X22.here hx rfl (pc0 := 33) (pc' := 41) rfl (hb hby d46_33) rfl ((if0 _ _).trans (teq ((by decide) : (0 : Int32) = (0 : Int32))).1) (by decide) (by decide) ?_
        refine XS.iloadN X22.here hx rfl (hb hby d46_41) rfl ?_
        exact Steps.refl _
      exact key _ (hs.symm.trans q0)
def own_one2_Q (Z : State) (a1 t1 : Nat) (c0 c1 s0 s1 : Int32) (h0 : Heap) (n0 : Nat) (v : Option Value) (h : Heap) (L : List Loc) : Prop := ∃ a t : Nat, v = some (.ref a) ∧ Fr n0 L ∧ Keep h0 h [] ∧ own_Str Z h a t [s0, s1] ∧ h0.size ≤ a
theorem ef_own_one2 (m : MethodId) (x0 : Nat) : entryFrame m #[(.ref x0)] 4 = mkF m 0 #[vr x0, .unset, .unset, .unset] [] := by first | (simp [entryFrame, mkF, argsToLocals, Value.category]; done) | rfl
set_option maxRecDepth 65536 in
set_option maxHeartbeats 40000000 in
theorem own_one2 (l : Launch) (Z : State) (a0 : Array Value) (hW : own_W Z a0) (a1 t1 : Nat) (c0 c1 s0 s1 : Int32) (h0 : Heap) (n0 : Nat) (Z0 : n0 ≤ h0.size) (O0 : Old Z n0 h0) (F1 : own_Str Z h0 a1 t1 [c0, c1]) (q0 : own_sh c0 = s0) (q1 : own_sh c1 = s1) :
    own_M l own_y46 own_c46 4 (some (.object "java/lang/String")) (own_r 8 6 29 163) #[(.ref a1)] Z h0 (own_one2_Q Z a1 t1 c0 c1 s0 s1 h0 n0) := by
  refine own_enter (own := "com/example/firmhold/firmhold/io/InputRefusedException") rfl (plainFor_of_name pn_com_example_firmhold_firmhold_io_InputRefusedException) (fun m => ef_own_one2 m a1) ?_
  intro p e s m below meth c s₁ Bd hZ hh hx hby hml hown hnm X0 e0
  obtain ⟨hw, ⟨G1, O2, P5⟩, ⟨G3, O4, rG3⟩, Oa, Oh, Ol⟩ := id hW
  have N0 := Fr.nil n0
  have K0 := Keep.refl h0 []
  have E1 := F1.exa
  have lt1 := F1.lt
  have hb0 := F1.bd _ (List.mem_of_getElem? (i := 0) rfl)
  have hs0 : ¬ s0 < 0 ∧ ¬ (65535 : Int32) < s0 := q0 ▸ own_sh_bd hb0
  have hb1 := F1.bd _ (List.mem_of_getElem? (i := 1) rfl)
  have hs1 : ¬ s1 < 0 ∧ ¬ (65535 : Int32) < s1 := q1 ▸ own_sh_bd hb1
  obtain ⟨T11, h11, X11, e11, E11, A11, D11, -, st11⟩ := newO X0 hx hZ hown (tw_ hw 37 rfl) (tw_ hw 38 rfl) (tw_ hw 39 rfl) e0 (g := (mkF m 0 #[vr a1, uu, uu, uu] [])) rfl (hb hby d46_0) (by decide) (by decide)
  obtain ⟨b11, g11⟩ : ∃ z, z = h0.size := ⟨_, rfl⟩
  rw [← g11] at A11 D11 st11
  have lt11 := own_lt A11.lt
  refine own_go st11 ?_
  have z12 := E11.1
  have K12 := K0.ext E11
  have O12 := O0.ext E11
  have F11_value : Fld Z h11 b11 "java/lang/AbstractStringBuilder" "value" "[B" .null := D11 (Or.inl (tw_ hw 62 rfl)) (ty := (.array .byte)) (by decide)
  have F11_coder : Fld Z h11 b11 "java/lang/AbstractStringBuilder" "coder" "B" (.int (0 : Int32)) := D11 (Or.inl (tw_ hw 64 rfl)) (ty := .byte) (by decide)
  have F11_count : Fld Z h11 b11 "java/lang/AbstractStringBuilder" "count" "I" (.int (0 : Int32)) := D11 (Or.inl (tw_ hw 104 rfl)) (ty := .int) (by decide)
  have F11_maybeLatin1 : Fld Z h11 b11 "java/lang/AbstractStringBuilder" "maybeLatin1" "Z" (.int (0 : Int32)) := D11 (Or.inl (tw_ hw 236 rfl)) (ty := .boolean) (by decide)
  have f13 := (F1.ext E11)
  refine own_gs (cur' := T11.setTop (mkF m 5 #[vr a1, uu, uu, uu] [(.ref a1), (.ref b11), (.ref b11)])) ?_ ?_
  · refine XS.dup X11.here hx rfl (hb hby d46_3) rfl rfl ?_
    refine XS.aloadN X11.here hx rfl (hb hby d46_4) rfl rfl ?_
    exact Steps.refl _
  have f15 := (E1.ext E11)
  obtain ⟨cq14, kq14, q14a, q14b, q14c⟩ := isOf hZ e11 f15
  obtain ⟨_, _, ⟨T14, L14, k14, n14⟩, -, X14, ⟨Lc14, hQ14, l14, y14, z14⟩, st14⟩ := X11.virtualBack hx (y := own_y47) (z := own_y47) hown (mvT hZ (tw_ hw 40 rfl)) (mvT hZ (tw_ hw 41 rfl)) (notFace_of_selects (args := #[]) (mvT hZ (tw_ hw 43 rfl))) (mvT hZ (tw_ hw 43 rfl)) (mvT hZ (tw_ hw 42 rfl)) (by decide) (own_lenB (W := 2) hZ hw f13 (O2.ext O12.2) P5 (by decide) (by decide)) q14a q14c (g := (mkF m 5 #[vr a1, uu, uu, uu] [(.ref a1), (.ref b11), (.ref b11)])) rfl (by rw [hml]; rfl) (Steps.refl _) (argsL := []) (rest := [(.ref b11), (.ref b11)]) (lenOf pd_23 rfl) rfl (own_le rfl) (hb hby d46_5) (fun _ _ => ⟨rfl, e11, own_le rfl, own_le rfl⟩)
  dsimp only [Pt.U, Pt.locs, Pt.cells, Pt.slots] at X14 l14 y14 z14 st14 hQ14
  subst l14 y14 z14
  obtain ⟨rfl, rfl, eh14⟩ := hQ14
  have N14 := Fr.app N0 (Fr.nil n0)
  refine own_gs st14 ?_
  obtain ⟨_, _, ⟨T16, L16, k16, n16⟩, -, X16, ⟨Lc16, hQ16, l16, y16, z16⟩, st16⟩ := X14.specialBack hx (y := own_y23) rfl hown (mvT hZ (tw_ hw 50 rfl)) (mvT hZ (tw_ hw 51 rfl)) (mvT hZ (tw_ hw 52 rfl)) (by decide) (backOf (W := 1) (own_sbi l Z a0 hW b11 .null (.int (0 : Int32)) 2 h11 n0 (by omega) O12 (by decide) A11 F11_value F11_coder F11_count F11_maybeLatin1 (by omega)) hZ (tw_ hw 52 rfl) (tw_ hw 39 rfl) (by decide) (by decide)) (g := (mkF m 8 #[vr a1, uu, uu, uu] [(.int (2 : Int32)), (.ref b11), (.ref b11)])) rfl (by rw [hml]; rfl) (Steps.refl _) (a := b11) (argsL := [(.int (2 : Int32))]) (rest := [(.ref b11)]) (lenOf pd_16 rfl) rfl (own_le rfl) (hb hby d46_8) (fun _ _ => ⟨rfl, eh14, own_le rfl, own_le rfl⟩)
  dsimp only [Pt.U, Pt.locs, Pt.cells, Pt.slots] at X16 l16 y16 z16 st16 hQ16
  subst l16 y16 z16
  obtain ⟨t16, k16, rfl, Nq16, Kq16, a16, b16, c16, d16, f16m, V16, fcq, ge16⟩ := hQ16
  have N16 := Fr.app N14 Nq16
  have z17 := Kq16.1
  have K17 := K12.trans Kq16 (allS (Or.inr (by omega)) all0)
  have O17 := O12.keep Kq16 (allS (by omega) all0)
  have F16 : own_SB Z T16.heap b11 t16 2 [] := ⟨_, _, _, _, a16, b16, c16, d16, f16m, V16, fcq, Or.inl ⟨rfl, rfl, rfl, by simp⟩⟩
  have lt16 := F16.lt
  refine own_gs st16 ?_
  have f18 := (f13.keep Kq16 (ninS (own_ne (a := a1) (b := b11) (by omega)) nin0) (ninS (own_ne (a := t1) (b := b11) (by omega)) nin0))
  refine own_gs (cur' := T16.setTop (mkF m 16 #[vr a1, vr b11, vi (0 : Int32), uu] [(.ref a1), (.int (0 : Int32))])) ?_ ?_
  · refine XS.astoreN X16.here hx rfl (hb hby d46_11) rfl rfl (l' := #[vr a1, vr b11, uu, uu]) rfl ?_
    refine XS.iconst X16.here hx rfl (hb hby d46_12) ?_
    refine XS.istoreN X16.here hx rfl (hb hby d46_13) rfl (l' := #[vr a1, vr b11, vi (0 : Int32), uu]) rfl ?_
    refine XS.iloadN X16.here hx rfl (hb hby d46_14) rfl ?_
    refine XS.aloadN X16.here hx rfl (hb hby d46_15) rfl rfl ?_
    exact Steps.refl _
  have f20 := (f15.keep Kq16)
  obtain ⟨cq19, kq19, q19a, q19b, q19c⟩ := isOf hZ rfl f20
  obtain ⟨_, _, ⟨T19, L19, k19, n19⟩, -, X19, ⟨Lc19, hQ19, l19, y19, z19⟩, st19⟩ := X16.virtualBack hx (y := own_y47) (z := own_y47) hown (mvT hZ (tw_ hw 40 rfl)) (mvT hZ (tw_ hw 41 rfl)) (notFace_of_selects (args := #[]) (mvT hZ (tw_ hw 43 rfl))) (mvT hZ (tw_ hw 43 rfl)) (mvT hZ (tw_ hw 42 rfl)) (by decide) (own_lenB (W := 1) hZ hw f18 (O2.ext O17.2) P5 (by decide) (by decide)) q19a q19c (g := (mkF m 16 #[vr a1, vr b11, vi (0 : Int32), uu] [(.ref a1), (.int (0 : Int32))])) rfl (by rw [hml]; rfl) (Steps.refl _) (argsL := []) (rest := [(.int (0 : Int32))]) (lenOf pd_23 rfl) rfl (own_le rfl) (hb hby d46_16) (fun _ _ => ⟨rfl, rfl, own_le rfl, own_le rfl⟩)
  dsimp only [Pt.U, Pt.locs, Pt.cells, Pt.slots] at X19 l19 y19 z19 st19 hQ19
  subst l19 y19 z19
  obtain ⟨rfl, rfl, eh19⟩ := hQ19
  have N19 := Fr.app N16 (Fr.nil n0)
  refine own_gs st19 ?_
  refine own_gs (cur' := T19.setTop (mkF m 24 #[vr a1, vr b11, vi (0 : Int32), uu] [(.int (0 : Int32)), (.ref a1)])) ?_ ?_
  · refine XS.icmpNo X19.here hx rfl (hb hby d46_19) rfl (tlt ((by decide) : (0 : Int32) < (2 : Int32))).2.1 ?_
    refine XS.aloadN X19.here hx rfl (hb hby d46_22) rfl rfl ?_
    refine XS.iloadN X19.here hx rfl (hb hby d46_23) rfl ?_
    exact Steps.refl _
  obtain ⟨cq21, kq21, q21a, q21b, q21c⟩ := isOf hZ eh19 f20
  obtain ⟨_, _, ⟨T21, L21, k21, n21⟩, -, X21, ⟨Lc21, hQ21, l21, y21, z21⟩, st21⟩ := X19.virtualBack hx (y := own_y9) (z := own_y9) hown (mvT hZ (tw_ hw 65 rfl)) (mvT hZ (tw_ hw 66 rfl)) (notFace_of_selects (args := #[]) (mvT hZ (tw_ hw 68 rfl))) (mvT hZ (tw_ hw 68 rfl)) (mvT hZ (tw_ hw 67 rfl)) (by decide) (own_chB (W := 0) hZ hW f18 (i := 0) (j := (0 : Int32)) (Nat.le_of_ble_eq_true rfl) rfl (n0 := n0) (by omega) O17 (by decide) (by decide)) q21a q21c (g := (mkF m 24 #[vr a1, vr b11, vi (0 : Int32), uu] [(.int (0 : Int32)), (.ref a1)])) rfl (by rw [hml]; rfl) (Steps.refl _) (argsL := [(.int (0 : Int32))]) (rest := []) (lenOf pd_30 rfl) rfl (own_le rfl) (hb hby d46_24) (fun _ _ => ⟨rfl, eh19, own_le rfl, own_le rfl⟩)
  dsimp only [Pt.U, Pt.locs, Pt.cells, Pt.slots] at X21 l21 y21 z21 st21 hQ21
  subst l21 y21 z21
  obtain ⟨rfl, Nq21, eh21⟩ := hQ21
  have N21 := Fr.app N19 Nq21
  refine own_gs st21 ?_
  refine own_gs (cur' := T21.setTop (mkF m 30 #[vr a1, vr b11, vi (0 : Int32), vi c0] [(.int c0), (.ref b11)])) ?_ ?_
  · refine XS.istoreN X21.here hx rfl (hb hby d46_27) rfl (l' := #[vr a1, vr b11, vi (0 : Int32), vi c0]) rfl ?_
    refine XS.aloadN X21.here hx rfl (hb hby d46_28) rfl rfl ?_
    refine XS.iloadN X21.here hx rfl (hb hby d46_29) rfl ?_
    exact Steps.refl _
  obtain ⟨_, _, ⟨T22, L22, k22, n22⟩, -, X22, ⟨Lc22, hQ22, l22, y22, z22⟩, st22⟩ := Jvm.LawKit.callS X21 hx (y := own_y43) hown (mvT hZ (tw_ hw 86 rfl)) (mvT hZ (tw_ hw 87 rfl)) (mvT hZ (tw_ hw 88 rfl)) (mvT hZ (tw_ hw 89 rfl)) (by decide) (backOf (W := 1) (own_isoc l Z a0 hW c0 T16.heap n0 (by omega) O17 hb0) hZ (tw_ hw 89 rfl) (tw_ hw 88 rfl) (by decide) (by decide)) (g := (mkF m 30 #[vr a1, vr b11, vi (0 : Int32), vi c0] [(.int c0), (.ref b11)])) rfl (by rw [hml]; rfl) (argsL := [(.int c0)]) (rest := [(.ref b11)]) (lenOf pd_13 rfl) rfl (own_le rfl) (hb hby d46_30) (fun _ _ => ⟨rfl, eh21, own_le rfl, own_le rfl⟩)
  dsimp only [Pt.U, Pt.locs, Pt.cells, Pt.slots] at X22 l22 y22 z22 st22 hQ22
  subst l22 y22 z22
  obtain ⟨hor22, Nq22, eh22⟩ := hQ22
  have N22 := Fr.app N21 Nq22
  refine own_merge (d0 := s0) (cur := fun d => T22.setTop (mkF m 42 #[vr a1, vr b11, vi (0 : Int32), vi c0] [(.int d), (.ref b11)])) ?_ (fun key => ?_)
  · show own_Fin p e below (T22.setTop (mkF m 42 #[vr a1, vr b11, vi (0 : Int32), vi c0] [(.int s0), (.ref b11)])) _
    have hds23 : ∀ d ∈ ([] : List Int32), ¬ d < 0 ∧ ¬ (65535 : Int32) < d := (by simp)
    obtain ⟨cq24, kq24, q24a, q24b, q24c⟩ := isOf hZ eh22 a16
    obtain ⟨_, _, ⟨T24, L24, k24, n24⟩, -, X24, ⟨Lc24, hQ24, l24, y24, z24⟩, st24⟩ := X22.virtualBack hx (y := own_y34) (z := own_y34) hown (mvT hZ (tw_ hw 93 rfl)) (mvT hZ (tw_ hw 94 rfl)) (notFace_of_selects (args := #[]) (mvT hZ (tw_ hw 96 rfl))) (mvT hZ (tw_ hw 96 rfl)) (mvT hZ (tw_ hw 95 rfl)) (by decide) (own_ap20 (W := 0) hZ hW F16 hds23 (n0 := n0) (by omega) O17 (by omega) (by omega) (by omega) (by decide) (by decide)) q24a q24c (g := (mkF m 42 #[vr a1, vr b11, vi (0 : Int32), vi c0] [(.int s0), (.ref b11)])) rfl (by rw [hml]; rfl) (Steps.refl _) (argsL := [(.int s0)]) (rest := []) (lenOf pd_31 rfl) rfl (own_le rfl) (hb hby d46_42) (fun _ _ => ⟨rfl, eh22, own_le rfl, own_le rfl⟩)
    dsimp only [Pt.U, Pt.locs, Pt.cells, Pt.slots] at X24 l24 y24 z24 st24 hQ24
    subst l24 y24 z24
    obtain ⟨rfl, Nq24, Kq24, t24, F24, hbt24, hor24⟩ := hQ24
    have N24 := Fr.app N22 Nq24
    have z25 := Kq24.1
    have K25 := K17.trans Kq24 (allS (Or.inr (by omega)) (allS (Or.inr (by omega)) all0))
    have O25 := O17.keep Kq24 (allS (by omega) (allS (by omega) all0))
    have lt24 := F24.lt
    have ex24 := F24.exa
    refine own_gs st24 ?_
    have f26 := (f18.keep Kq24 (ninS (own_ne (a := a1) (b := b11) (by omega)) (ninS (own_ne (a := a1) (b := t16) (by omega)) nin0)) (ninS (own_ne (a := t1) (b := b11) (by omega)) (ninS (own_ne (a := t1) (b := t16) (by omega)) nin0)))
    refine own_gs (cur' := T24.setTop (mkF m 16 #[vr a1, vr b11, vi (1 : Int32), vi c0] [(.ref a1), (.int (1 : Int32))])) ?_ ?_
    · refine XS.pop X24.here hx rfl (hb hby d46_45) rfl rfl ?_
      refine XS.iinc X24.here hx rfl (hb hby d46_46) rfl (l' := #[vr a1, vr b11, vi (1 : Int32), vi c0]) rfl ?_
      refine XS.goto X24.here hx rfl (pc0 := 49) (pc' := 14) rfl (hb hby d46_49) (by decide) (by decide) ?_
      refine XS.iloadN X24.here hx rfl (hb hby d46_14) rfl ?_
      refine XS.aloadN X24.here hx rfl (hb hby d46_15) rfl rfl ?_
      exact Steps.refl _
    have f28 := (f20.keep Kq24)
    obtain ⟨cq27, kq27, q27a, q27b, q27c⟩ := isOf hZ rfl f28
    obtain ⟨_, _, ⟨T27, L27, k27, n27⟩, -, X27, ⟨Lc27, hQ27, l27, y27, z27⟩, st27⟩ := X24.virtualBack hx (y := own_y47) (z := own_y47) hown (mvT hZ (tw_ hw 40 rfl)) (mvT hZ (tw_ hw 41 rfl)) (notFace_of_selects (args := #[]) (mvT hZ (tw_ hw 43 rfl))) (mvT hZ (tw_ hw 43 rfl)) (mvT hZ (tw_ hw 42 rfl)) (by decide) (own_lenB (W := 1) hZ hw f26 (O2.ext O25.2) P5 (by decide) (by decide)) q27a q27c (g := (mkF m 16 #[vr a1, vr b11, vi (1 : Int32), vi c0] [(.ref a1), (.int (1 : Int32))])) rfl (by rw [hml]; rfl) (Steps.refl _) (argsL := []) (rest := [(.int (1 : Int32))]) (lenOf pd_23 rfl) rfl (own_le rfl) (hb hby d46_16) (fun _ _ => ⟨rfl, rfl, own_le rfl, own_le rfl⟩)
    dsimp only [Pt.U, Pt.locs, Pt.cells, Pt.slots] at X27 l27 y27 z27 st27 hQ27
    subst l27 y27 z27
    obtain ⟨rfl, rfl, eh27⟩ := hQ27
    have N27 := Fr.app N24 (Fr.nil n0)
    refine own_gs st27 ?_
    refine own_gs (cur' := T27.setTop (mkF m 24 #[vr a1, vr b11, vi (1 : Int32), vi c0] [(.int (1 : Int32)), (.ref a1)])) ?_ ?_
    · refine XS.icmpNo X27.here hx rfl (hb hby d46_19) rfl (tlt ((by decide) : (1 : Int32) < (2 : Int32))).2.1 ?_
      refine XS.aloadN X27.here hx rfl (hb hby d46_22) rfl rfl ?_
      refine XS.iloadN X27.here hx rfl (hb hby d46_23) rfl ?_
      exact Steps.refl _
    obtain ⟨cq29, kq29, q29a, q29b, q29c⟩ := isOf hZ eh27 f28
    obtain ⟨_, _, ⟨T29, L29, k29, n29⟩, -, X29, ⟨Lc29, hQ29, l29, y29, z29⟩, st29⟩ := X27.virtualBack hx (y := own_y9) (z := own_y9) hown (mvT hZ (tw_ hw 65 rfl)) (mvT hZ (tw_ hw 66 rfl)) (notFace_of_selects (args := #[]) (mvT hZ (tw_ hw 68 rfl))) (mvT hZ (tw_ hw 68 rfl)) (mvT hZ (tw_ hw 67 rfl)) (by decide) (own_chB (W := 0) hZ hW f26 (i := 1) (j := (1 : Int32)) (Nat.le_of_ble_eq_true rfl) rfl (n0 := n0) (by omega) O25 (by decide) (by decide)) q29a q29c (g := (mkF m 24 #[vr a1, vr b11, vi (1 : Int32), vi c0] [(.int (1 : Int32)), (.ref a1)])) rfl (by rw [hml]; rfl) (Steps.refl _) (argsL := [(.int (1 : Int32))]) (rest := []) (lenOf pd_30 rfl) rfl (own_le rfl) (hb hby d46_24) (fun _ _ => ⟨rfl, eh27, own_le rfl, own_le rfl⟩)
    dsimp only [Pt.U, Pt.locs, Pt.cells, Pt.slots] at X29 l29 y29 z29 st29 hQ29
    subst l29 y29 z29
    obtain ⟨rfl, Nq29, eh29⟩ := hQ29
    have N29 := Fr.app N27 Nq29
    refine own_gs st29 ?_
    refine own_gs (cur' := T29.setTop (mkF m 30 #[vr a1, vr b11, vi (1 : Int32), vi c1] [(.int c1), (.ref b11)])) ?_ ?_
    · refine XS.istoreN X29.here hx rfl (hb hby d46_27) rfl (l' := #[vr a1, vr b11, vi (1 : Int32), vi c1]) rfl ?_
      refine XS.aloadN X29.here hx rfl (hb hby d46_28) rfl rfl ?_
      refine XS.iloadN X29.here hx rfl (hb hby d46_29) rfl ?_
      exact Steps.refl _
    obtain ⟨_, _, ⟨T30, L30, k30, n30⟩, -, X30, ⟨Lc30, hQ30, l30, y30, z30⟩, st30⟩ := Jvm.LawKit.callS X29 hx (y := own_y43) hown (mvT hZ (tw_ hw 86 rfl)) (mvT hZ (tw_ hw 87 rfl)) (mvT hZ (tw_ hw 88 rfl)) (mvT hZ (tw_ hw 89 rfl)) (by decide) (backOf (W := 1) (own_isoc l Z a0 hW c1 T24.heap n0 (by omega) O25 hb1) hZ (tw_ hw 89 rfl) (tw_ hw 88 rfl) (by decide) (by decide)) (g := (mkF m 30 #[vr a1, vr b11, vi (1 : Int32), vi c1] [(.int c1), (.ref b11)])) rfl (by rw [hml]; rfl) (argsL := [(.int c1)]) (rest := [(.ref b11)]) (lenOf pd_13 rfl) rfl (own_le rfl) (hb hby d46_30) (fun _ _ => ⟨rfl, eh29, own_le rfl, own_le rfl⟩)
    dsimp only [Pt.U, Pt.locs, Pt.cells, Pt.slots] at X30 l30 y30 z30 st30 hQ30
    subst l30 y30 z30
    obtain ⟨hor30, Nq30, eh30⟩ := hQ30
    have N30 := Fr.app N29 Nq30
    refine own_merge (d0 := s1) (cur := fun d => T30.setTop (mkF m 42 #[vr a1, vr b11, vi (1 : Int32), vi c1] [(.int d), (.ref b11)])) ?_ (fun key => ?_)
    · show own_Fin p e below (T30.setTop (mkF m 42 #[vr a1, vr b11, vi (1 : Int32), vi c1] [(.int s1), (.ref b11)])) _
      have hds31 : ∀ d ∈ ([s0] : List Int32), ¬ d < 0 ∧ ¬ (65535 : Int32) < d := (fun d hd => by
        simp only [List.mem_cons, List.not_mem_nil, or_false] at hd
        rcases hd with rfl
        · exact hs0)
      obtain ⟨cq32, kq32, q32a, q32b, q32c⟩ := isOf hZ eh30 ex24
      obtain ⟨_, _, ⟨T32, L32, k32, n32⟩, -, X32, ⟨Lc32, hQ32, l32, y32, z32⟩, st32⟩ := X30.virtualBack hx (y := own_y34) (z := own_y34) hown (mvT hZ (tw_ hw 93 rfl)) (mvT hZ (tw_ hw 94 rfl)) (notFace_of_selects (args := #[]) (mvT hZ (tw_ hw 96 rfl))) (mvT hZ (tw_ hw 96 rfl)) (mvT hZ (tw_ hw 95 rfl)) (by decide) (own_ap21 (W := 0) hZ hW F24 hds31 (n0 := n0) (by omega) O25 (by omega) (by omega) (by omega) (by decide) (by decide)) q32a q32c (g := (mkF m 42 #[vr a1, vr b11, vi (1 : Int32), vi c1] [(.int s1), (.ref b11)])) rfl (by rw [hml]; rfl) (Steps.refl _) (argsL := [(.int s1)]) (rest := []) (lenOf pd_31 rfl) rfl (own_le rfl) (hb hby d46_42) (fun _ _ => ⟨rfl, eh30, own_le rfl, own_le rfl⟩)
      dsimp only [Pt.U, Pt.locs, Pt.cells, Pt.slots] at X32 l32 y32 z32 st32 hQ32
      subst l32 y32 z32
      obtain ⟨rfl, Nq32, Kq32, t32, F32, hbt32, hor32⟩ := hQ32
      have N32 := Fr.app N30 Nq32
      have z33 := Kq32.1
      have K33 := K25.trans Kq32 (allS (Or.inr (by omega)) (allS (Or.inr (by omega)) all0))
      have O33 := O25.keep Kq32 (allS (by omega) (allS (by omega) all0))
      have lt32 := F32.lt
      have ex32 := F32.exa
      refine own_gs st32 ?_
      have f34 := (f26.keep Kq32 (ninS (own_ne (a := a1) (b := b11) (by omega)) (ninS (own_ne (a := a1) (b := t24) (by omega)) nin0)) (ninS (own_ne (a := t1) (b := b11) (by omega)) (ninS (own_ne (a := t1) (b := t24) (by omega)) nin0)))
      refine own_gs (cur' := T32.setTop (mkF m 16 #[vr a1, vr b11, vi (2 : Int32), vi c1] [(.ref a1), (.int (2 : Int32))])) ?_ ?_
      · refine XS.pop X32.here hx rfl (hb hby d46_45) rfl rfl ?_
        refine XS.iinc X32.here hx rfl (hb hby d46_46) rfl (l' := #[vr a1, vr b11, vi (2 : Int32), vi c1]) rfl ?_
        refine XS.goto X32.here hx rfl (pc0 := 49) (pc' := 14) rfl (hb hby d46_49) (by decide) (by decide) ?_
        refine XS.iloadN X32.here hx rfl (hb hby d46_14) rfl ?_
        refine XS.aloadN X32.here hx rfl (hb hby d46_15) rfl rfl ?_
        exact Steps.refl _
      have f36 := (f28.keep Kq32)
      obtain ⟨cq35, kq35, q35a, q35b, q35c⟩ := isOf hZ rfl f36
      obtain ⟨_, _, ⟨T35, L35, k35, n35⟩, -, X35, ⟨Lc35, hQ35, l35, y35, z35⟩, st35⟩ := X32.virtualBack hx (y := own_y47) (z := own_y47) hown (mvT hZ (tw_ hw 40 rfl)) (mvT hZ (tw_ hw 41 rfl)) (notFace_of_selects (args := #[]) (mvT hZ (tw_ hw 43 rfl))) (mvT hZ (tw_ hw 43 rfl)) (mvT hZ (tw_ hw 42 rfl)) (by decide) (own_lenB (W := 1) hZ hw f34 (O2.ext O33.2) P5 (by decide) (by decide)) q35a q35c (g := (mkF m 16 #[vr a1, vr b11, vi (2 : Int32), vi c1] [(.ref a1), (.int (2 : Int32))])) rfl (by rw [hml]; rfl) (Steps.refl _) (argsL := []) (rest := [(.int (2 : Int32))]) (lenOf pd_23 rfl) rfl (own_le rfl) (hb hby d46_16) (fun _ _ => ⟨rfl, rfl, own_le rfl, own_le rfl⟩)
      dsimp only [Pt.U, Pt.locs, Pt.cells, Pt.slots] at X35 l35 y35 z35 st35 hQ35
      subst l35 y35 z35
      obtain ⟨rfl, rfl, eh35⟩ := hQ35
      have N35 := Fr.app N32 (Fr.nil n0)
      refine own_gs st35 ?_
      have hds37 : ∀ d ∈ ([s0, s1] : List Int32), ¬ d < 0 ∧ ¬ (65535 : Int32) < d := (fun d hd => by
        simp only [List.mem_cons, List.not_mem_nil, or_false] at hd
        rcases hd with rfl | rfl
        · exact hs0
        · exact hs1)
      refine own_gs (cur' := T35.setTop (mkF m 53 #[vr a1, vr b11, vi (2 : Int32), vi c1] [(.ref b11)])) ?_ ?_
      · refine XS.icmpYes X35.here hx rfl (pc0 := 19) (pc' := 52) rfl (hb hby d46_19) rfl (flt ((by decide) : ¬ ((2 : Int32) < (2 : Int32)))).2.1 (by decide) (by decide) ?_
        refine XS.aloadN X35.here hx rfl (hb hby d46_52) rfl rfl ?_
        exact Steps.refl _
      obtain ⟨cq38, kq38, q38a, q38b, q38c⟩ := isOf hZ eh35 ex32
      obtain ⟨_, _, ⟨T38, L38, k38, n38⟩, -, X38, ⟨Lc38, hQ38, l38, y38, z38⟩, st38⟩ := X35.virtualBack hx (y := own_y41) (z := own_y41) hown (mvT hZ (tw_ hw 116 rfl)) (mvT hZ (tw_ hw 117 rfl)) (notFace_of_selects (args := #[]) (mvT hZ (tw_ hw 119 rfl))) (mvT hZ (tw_ hw 119 rfl)) (mvT hZ (tw_ hw 118 rfl)) (by decide) (own_ts (W := 0) hZ hW F32 rfl rfl rfl (Nat.le_of_ble_eq_true rfl) hds37 (n0 := n0) (by omega) O33 (by decide) (by decide)) q38a q38c (g := (mkF m 53 #[vr a1, vr b11, vi (2 : Int32), vi c1] [(.ref b11)])) rfl (by rw [hml]; rfl) (Steps.refl _) (argsL := []) (rest := []) (lenOf pd_29 rfl) rfl (own_le rfl) (hb hby d46_53) (fun _ _ => ⟨rfl, eh35, own_le rfl, own_le rfl⟩)
      dsimp only [Pt.U, Pt.locs, Pt.cells, Pt.slots] at X38 l38 y38 z38 st38 hQ38
      subst l38 y38 z38
      obtain ⟨a38, t38, rfl, Nq38, Kq38, F38, ge38⟩ := hQ38
      have N38 := Fr.app N35 Nq38
      have z39 := Kq38.1
      have K39 := K33.trans Kq38 all0
      have O39 := O33.keep Kq38 all0
      refine own_gs st38 ?_
      exact own_rA X38 Bd rfl (v := (.ref a38)) rfl (hb hby d46_56) rfl (⟨_, _, rfl, N38, K39, F38, (by omega)⟩) rfl rfl
    · rcases hor30 with ⟨rfl, hs⟩ | ⟨rfl, hs⟩
      · refine own_go st30 ?_
        show own_Fin p e below (T30.setTop (mkF m 33 #[vr a1, vr b11, vi (1 : Int32), vi c1] [(.int (1 : Int32)), (.ref b11)])) _
        refine own_gs (cur' := T30.setTop (mkF m 42 #[vr a1, vr b11, vi (1 : Int32), vi c1] [(.int (32 : Int32)), (.ref b11)])) ?_ ?_
        · refine XS.ifNo X30.here hx rfl (hb hby d46_33) rfl ((if0 _ _).trans (feq ((by decide) : ¬ ((1 : Int32) = (0 : Int32)))).1) ?_
          refine XS.bipush X30.here hx rfl (hb hby d46_36) ?_
          refine XS.goto X30.here hx rfl (pc0 := 38) (pc' := 42) rfl (hb hby d46_38) (by decide) (by decide) ?_
          exact Steps.refl _
        exact key _ (hs.symm.trans q1)
      · refine own_go st30 ?_
        show own_Fin p e below (T30.setTop (mkF m 33 #[vr a1, vr b11, vi (1 : Int32), vi c1] [(.int (0 : Int32)), (.ref b11)])) _
        refine own_gs (cur' := T30.setTop (mkF m 42 #[vr a1, vr b11, vi (1 : Int32), vi c1] [(.int c1), (.ref b11)])) ?_ ?_
        · refine XS.ifYes X30.here hx rfl (pc0 := 33) (pc' := 41) rfl (hb hby d46_33) rfl ((if0 _ _).trans (teq ((by decide) : (0 : Int32) = (0 : Int32))).1) (by decide) (by decide) ?_
          refine XS.iloadN X30.here hx rfl (hb hby d46_41) rfl ?_
          exact Steps.refl _
        exact key _ (hs.symm.trans q1)
  · rcases hor22 with ⟨rfl, hs⟩ | ⟨rfl, hs⟩
    · refine own_go st22 ?_
      show own_Fin p e below (T22.setTop (mkF m 33 #[vr a1, vr b11, vi (0 : Int32), vi c0] [(.int (1 : Int32)), (.ref b11)])) _
      refine own_gs (cur' := T22.setTop (mkF m 42 #[vr a1, vr b11, vi (0 : Int32), vi c0] [(.int (32 : Int32)), (.ref b11)])) ?_ ?_
      · refine XS.ifNo X22.here hx rfl (hb hby d46_33) rfl ((if0 _ _).trans (feq ((by decide) : ¬ ((1 : Int32) = (0 : Int32)))).1) ?_
        refine XS.bipush X22.here hx rfl (hb hby d46_36) ?_
        refine XS.goto X22.here hx rfl (pc0 := 38) (pc' := 42) rfl (hb hby d46_38) (by decide) (by decide) ?_
        exact Steps.refl _
      exact key _ (hs.symm.trans q0)
    · refine own_go st22 ?_
      show own_Fin p e below (T22.setTop (mkF m 33 #[vr a1, vr b11, vi (0 : Int32), vi c0] [(.int (0 : Int32)), (.ref b11)])) _
      refine own_gs (cur' := T22.setTop (mkF m 42 #[vr a1, vr b11, vi (0 : Int32), vi c0] [(.int c0), (.ref b11)])) ?_ ?_
      · refine XS.ifYes X22.here hx rfl (pc0 := 33) (pc' := 41) rfl (hb hby d46_33) rfl ((if0 _ _).trans (teq ((by decide) : (0 : Int32) = (0 : Int32))).1) (by decide) (by decide) ?_
        refine XS.iloadN X22.here hx rfl (hb hby d46_41) rfl ?_
        exact Steps.refl _
      exact key _ (hs.symm.trans q0)
def own_one3_Q (Z : State) (a1 t1 : Nat) (c0 c1 c2 s0 s1 s2 : Int32) (h0 : Heap) (n0 : Nat) (v : Option Value) (h : Heap) (L : List Loc) : Prop := ∃ a t : Nat, v = some (.ref a) ∧ Fr n0 L ∧ Keep h0 h [] ∧ own_Str Z h a t [s0, s1, s2] ∧ h0.size ≤ a
theorem ef_own_one3 (m : MethodId) (x0 : Nat) : entryFrame m #[(.ref x0)] 4 = mkF m 0 #[vr x0, .unset, .unset, .unset] [] := by first | (simp [entryFrame, mkF, argsToLocals, Value.category]; done) | rfl
set_option maxRecDepth 65536 in
set_option maxHeartbeats 40000000 in
theorem own_one3 (l : Launch) (Z : State) (a0 : Array Value) (hW : own_W Z a0) (a1 t1 : Nat) (c0 c1 c2 s0 s1 s2 : Int32) (h0 : Heap) (n0 : Nat) (Z0 : n0 ≤ h0.size) (O0 : Old Z n0 h0) (F1 : own_Str Z h0 a1 t1 [c0, c1, c2]) (q0 : own_sh c0 = s0) (q1 : own_sh c1 = s1) (q2 : own_sh c2 = s2) :
    own_M l own_y46 own_c46 4 (some (.object "java/lang/String")) (own_r 8 7 35 163) #[(.ref a1)] Z h0 (own_one3_Q Z a1 t1 c0 c1 c2 s0 s1 s2 h0 n0) := by
  refine own_enter (own := "com/example/firmhold/firmhold/io/InputRefusedException") rfl (plainFor_of_name pn_com_example_firmhold_firmhold_io_InputRefusedException) (fun m => ef_own_one3 m a1) ?_
  intro p e s m below meth c s₁ Bd hZ hh hx hby hml hown hnm X0 e0
  obtain ⟨hw, ⟨G1, O2, P5⟩, ⟨G3, O4, rG3⟩, Oa, Oh, Ol⟩ := id hW
  have N0 := Fr.nil n0
  have K0 := Keep.refl h0 []
  have E1 := F1.exa
  have lt1 := F1.lt
  have hb0 := F1.bd _ (List.mem_of_getElem? (i := 0) rfl)
  have hs0 : ¬ s0 < 0 ∧ ¬ (65535 : Int32) < s0 := q0 ▸ own_sh_bd hb0
  have hb1 := F1.bd _ (List.mem_of_getElem? (i := 1) rfl)
  have hs1 : ¬ s1 < 0 ∧ ¬ (65535 : Int32) < s1 := q1 ▸ own_sh_bd hb1
  have hb2 := F1.bd _ (List.mem_of_getElem? (i := 2) rfl)
  have hs2 : ¬ s2 < 0 ∧ ¬ (65535 : Int32) < s2 := q2 ▸ own_sh_bd hb2
  obtain ⟨T11, h11, X11, e11, E11, A11, D11, -, st11⟩ := newO X0 hx hZ hown (tw_ hw 37 rfl) (tw_ hw 38 rfl) (tw_ hw 39 rfl) e0 (g := (mkF m 0 #[vr a1, uu, uu, uu] [])) rfl (hb hby d46_0) (by decide) (by decide)
  obtain ⟨b11, g11⟩ : ∃ z, z = h0.size := ⟨_, rfl⟩
  rw [← g11] at A11 D11 st11
  have lt11 := own_lt A11.lt
  refine own_go st11 ?_
  have z12 := E11.1
  have K12 := K0.ext E11
  have O12 := O0.ext E11
  have F11_value : Fld Z h11 b11 "java/lang/AbstractStringBuilder" "value" "[B" .null := D11 (Or.inl (tw_ hw 62 rfl)) (ty := (.array .byte)) (by decide)
  have F11_coder : Fld Z h11 b11 "java/lang/AbstractStringBuilder" "coder" "B" (.int (0 : Int32)) := D11 (Or.inl (tw_ hw 64 rfl)) (ty := .byte) (by decide)
  have F11_count : Fld Z h11 b11 "java/lang/AbstractStringBuilder" "count" "I" (.int (0 : Int32)) := D11 (Or.inl (tw_ hw 104 rfl)) (ty := .int) (by decide)
  have F11_maybeLatin1 : Fld Z h11 b11 "java/lang/AbstractStringBuilder" "maybeLatin1" "Z" (.int (0 : Int32)) := D11 (Or.inl (tw_ hw 236 rfl)) (ty := .boolean) (by decide)
  have f13 := (F1.ext E11)
  refine own_gs (cur' := T11.setTop (mkF m 5 #[vr a1, uu, uu, uu] [(.ref a1), (.ref b11), (.ref b11)])) ?_ ?_
  · refine XS.dup X11.here hx rfl (hb hby d46_3) rfl rfl ?_
    refine XS.aloadN X11.here hx rfl (hb hby d46_4) rfl rfl ?_
    exact Steps.refl _
  have f15 := (E1.ext E11)
  obtain ⟨cq14, kq14, q14a, q14b, q14c⟩ := isOf hZ e11 f15
  obtain ⟨_, _, ⟨T14, L14, k14, n14⟩, -, X14, ⟨Lc14, hQ14, l14, y14, z14⟩, st14⟩ := X11.virtualBack hx (y := own_y47) (z := own_y47) hown (mvT hZ (tw_ hw 40 rfl)) (mvT hZ (tw_ hw 41 rfl)) (notFace_of_selects (args := #[]) (mvT hZ (tw_ hw 43 rfl))) (mvT hZ (tw_ hw 43 rfl)) (mvT hZ (tw_ hw 42 rfl)) (by decide) (own_lenB (W := 2) hZ hw f13 (O2.ext O12.2) P5 (by decide) (by decide)) q14a q14c (g := (mkF m 5 #[vr a1, uu, uu, uu] [(.ref a1), (.ref b11), (.ref b11)])) rfl (by rw [hml]; rfl) (Steps.refl _) (argsL := []) (rest := [(.ref b11), (.ref b11)]) (lenOf pd_23 rfl) rfl (own_le rfl) (hb hby d46_5) (fun _ _ => ⟨rfl, e11, own_le rfl, own_le rfl⟩)
  dsimp only [Pt.U, Pt.locs, Pt.cells, Pt.slots] at X14 l14 y14 z14 st14 hQ14
  subst l14 y14 z14
  obtain ⟨rfl, rfl, eh14⟩ := hQ14
  have N14 := Fr.app N0 (Fr.nil n0)
  refine own_gs st14 ?_
  obtain ⟨_, _, ⟨T16, L16, k16, n16⟩, -, X16, ⟨Lc16, hQ16, l16, y16, z16⟩, st16⟩ := X14.specialBack hx (y := own_y23) rfl hown (mvT hZ (tw_ hw 50 rfl)) (mvT hZ (tw_ hw 51 rfl)) (mvT hZ (tw_ hw 52 rfl)) (by decide) (backOf (W := 1) (own_sbi l Z a0 hW b11 .null (.int (0 : Int32)) 3 h11 n0 (by omega) O12 (by decide) A11 F11_value F11_coder F11_count F11_maybeLatin1 (by omega)) hZ (tw_ hw 52 rfl) (tw_ hw 39 rfl) (by decide) (by decide)) (g := (mkF m 8 #[vr a1, uu, uu, uu] [(.int (3 : Int32)), (.ref b11), (.ref b11)])) rfl (by rw [hml]; rfl) (Steps.refl _) (a := b11) (argsL := [(.int (3 : Int32))]) (rest := [(.ref b11)]) (lenOf pd_16 rfl) rfl (own_le rfl) (hb hby d46_8) (fun _ _ => ⟨rfl, eh14, own_le rfl, own_le rfl⟩)
  dsimp only [Pt.U, Pt.locs, Pt.cells, Pt.slots] at X16 l16 y16 z16 st16 hQ16
  subst l16 y16 z16
  obtain ⟨t16, k16, rfl, Nq16, Kq16, a16, b16, c16, d16, f16m, V16, fcq, ge16⟩ := hQ16
  have N16 := Fr.app N14 Nq16
  have z17 := Kq16.1
  have K17 := K12.trans Kq16 (allS (Or.inr (by omega)) all0)
  have O17 := O12.keep Kq16 (allS (by omega) all0)
  have F16 : own_SB Z T16.heap b11 t16 3 [] := ⟨_, _, _, _, a16, b16, c16, d16, f16m, V16, fcq, Or.inl ⟨rfl, rfl, rfl, by simp⟩⟩
  have lt16 := F16.lt
  refine own_gs st16 ?_
  have f18 := (f13.keep Kq16 (ninS (own_ne (a := a1) (b := b11) (by omega)) nin0) (ninS (own_ne (a := t1) (b := b11) (by omega)) nin0))
  refine own_gs (cur' := T16.setTop (mkF m 16 #[vr a1, vr b11, vi (0 : Int32), uu] [(.ref a1), (.int (0 : Int32))])) ?_ ?_
  · refine XS.astoreN X16.here hx rfl (hb hby d46_11) rfl rfl (l' := #[vr a1, vr b11, uu, uu]) rfl ?_
    refine XS.iconst X16.here hx rfl (hb hby d46_12) ?_
    refine XS.istoreN X16.here hx rfl (hb hby d46_13) rfl (l' := #[vr a1, vr b11, vi (0 : Int32), uu]) rfl ?_
    refine XS.iloadN X16.here hx rfl (hb hby d46_14) rfl ?_
    refine XS.aloadN X16.here hx rfl (hb hby d46_15) rfl rfl ?_
    exact Steps.refl _
  have f20 := (f15.keep Kq16)
  obtain ⟨cq19, kq19, q19a, q19b, q19c⟩ := isOf hZ rfl f20
  obtain ⟨_, _, ⟨T19, L19, k19, n19⟩, -, X19, ⟨Lc19, hQ19, l19, y19, z19⟩, st19⟩ := X16.virtualBack hx (y := own_y47) (z := own_y47) hown (mvT hZ (tw_ hw 40 rfl)) (mvT hZ (tw_ hw 41 rfl)) (notFace_of_selects (args := #[]) (mvT hZ (tw_ hw 43 rfl))) (mvT hZ (tw_ hw 43 rfl)) (mvT hZ (tw_ hw 42 rfl)) (by decide) (own_lenB (W := 1) hZ hw f18 (O2.ext O17.2) P5 (by decide) (by decide)) q19a q19c (g := (mkF m 16 #[vr a1, vr b11, vi (0 : Int32), uu] [(.ref a1), (.int (0 : Int32))])) rfl (by rw [hml]; rfl) (Steps.refl _) (argsL := []) (rest := [(.int (0 : Int32))]) (lenOf pd_23 rfl) rfl (own_le rfl) (hb hby d46_16) (fun _ _ => ⟨rfl, rfl, own_le rfl, own_le rfl⟩)
  dsimp only [Pt.U, Pt.locs, Pt.cells, Pt.slots] at X19 l19 y19 z19 st19 hQ19
  subst l19 y19 z19
  obtain ⟨rfl, rfl, eh19⟩ := hQ19
  have N19 := Fr.app N16 (Fr.nil n0)
  refine own_gs st19 ?_
  refine own_gs (cur' := T19.setTop (mkF m 24 #[vr a1, vr b11, vi (0 : Int32), uu] [(.int (0 : Int32)), (.ref a1)])) ?_ ?_
  · refine XS.icmpNo X19.here hx rfl (hb hby d46_19) rfl (tlt ((by decide) : (0 : Int32) < (3 : Int32))).2.1 ?_
    refine XS.aloadN X19.here hx rfl (hb hby d46_22) rfl rfl ?_
    refine XS.iloadN X19.here hx rfl (hb hby d46_23) rfl ?_
    exact Steps.refl _
  obtain ⟨cq21, kq21, q21a, q21b, q21c⟩ := isOf hZ eh19 f20
  obtain ⟨_, _, ⟨T21, L21, k21, n21⟩, -, X21, ⟨Lc21, hQ21, l21, y21, z21⟩, st21⟩ := X19.virtualBack hx (y := own_y9) (z := own_y9) hown (mvT hZ (tw_ hw 65 rfl)) (mvT hZ (tw_ hw 66 rfl)) (notFace_of_selects (args := #[]) (mvT hZ (tw_ hw 68 rfl))) (mvT hZ (tw_ hw 68 rfl)) (mvT hZ (tw_ hw 67 rfl)) (by decide) (own_chB (W := 0) hZ hW f18 (i := 0) (j := (0 : Int32)) (Nat.le_of_ble_eq_true rfl) rfl (n0 := n0) (by omega) O17 (by decide) (by decide)) q21a q21c (g := (mkF m 24 #[vr a1, vr b11, vi (0 : Int32), uu] [(.int (0 : Int32)), (.ref a1)])) rfl (by rw [hml]; rfl) (Steps.refl _) (argsL := [(.int (0 : Int32))]) (rest := []) (lenOf pd_30 rfl) rfl (own_le rfl) (hb hby d46_24) (fun _ _ => ⟨rfl, eh19, own_le rfl, own_le rfl⟩)
  dsimp only [Pt.U, Pt.locs, Pt.cells, Pt.slots] at X21 l21 y21 z21 st21 hQ21
  subst l21 y21 z21
  obtain ⟨rfl, Nq21, eh21⟩ := hQ21
  have N21 := Fr.app N19 Nq21
  refine own_gs st21 ?_
  refine own_gs (cur' := T21.setTop (mkF m 30 #[vr a1, vr b11, vi (0 : Int32), vi c0] [(.int c0), (.ref b11)])) ?_ ?_
  · refine XS.istoreN X21.here hx rfl (hb hby d46_27) rfl (l' := #[vr a1, vr b11, vi (0 : Int32), vi c0]) rfl ?_
    refine XS.aloadN X21.here hx rfl (hb hby d46_28) rfl rfl ?_
    refine XS.iloadN X21.here hx rfl (hb hby d46_29) rfl ?_
    exact Steps.refl _
  obtain ⟨_, _, ⟨T22, L22, k22, n22⟩, -, X22, ⟨Lc22, hQ22, l22, y22, z22⟩, st22⟩ := Jvm.LawKit.callS X21 hx (y := own_y43) hown (mvT hZ (tw_ hw 86 rfl)) (mvT hZ (tw_ hw 87 rfl)) (mvT hZ (tw_ hw 88 rfl)) (mvT hZ (tw_ hw 89 rfl)) (by decide) (backOf (W := 1) (own_isoc l Z a0 hW c0 T16.heap n0 (by omega) O17 hb0) hZ (tw_ hw 89 rfl) (tw_ hw 88 rfl) (by decide) (by decide)) (g := (mkF m 30 #[vr a1, vr b11, vi (0 : Int32), vi c0] [(.int c0), (.ref b11)])) rfl (by rw [hml]; rfl) (argsL := [(.int c0)]) (rest := [(.ref b11)]) (lenOf pd_13 rfl) rfl (own_le rfl) (hb hby d46_30) (fun _ _ => ⟨rfl, eh21, own_le rfl, own_le rfl⟩)
  dsimp only [Pt.U, Pt.locs, Pt.cells, Pt.slots] at X22 l22 y22 z22 st22 hQ22
  subst l22 y22 z22
  obtain ⟨hor22, Nq22, eh22⟩ := hQ22
  have N22 := Fr.app N21 Nq22
  refine own_merge (d0 := s0) (cur := fun d => T22.setTop (mkF m 42 #[vr a1, vr b11, vi (0 : Int32), vi c0] [(.int d), (.ref b11)])) ?_ (fun key => ?_)
  · show own_Fin p e below (T22.setTop (mkF m 42 #[vr a1, vr b11, vi (0 : Int32), vi c0] [(.int s0), (.ref b11)])) _
    have hds23 : ∀ d ∈ ([] : List Int32), ¬ d < 0 ∧ ¬ (65535 : Int32) < d := (by simp)
    obtain ⟨cq24, kq24, q24a, q24b, q24c⟩ := isOf hZ eh22 a16
    obtain ⟨_, _, ⟨T24, L24, k24, n24⟩, -, X24, ⟨Lc24, hQ24, l24, y24, z24⟩, st24⟩ := X22.virtualBack hx (y := own_y34) (z := own_y34) hown (mvT hZ (tw_ hw 93 rfl)) (mvT hZ (tw_ hw 94 rfl)) (notFace_of_selects (args := #[]) (mvT hZ (tw_ hw 96 rfl))) (mvT hZ (tw_ hw 96 rfl)) (mvT hZ (tw_ hw 95 rfl)) (by decide) (own_ap30 (W := 0) hZ hW F16 hds23 (n0 := n0) (by omega) O17 (by omega) (by omega) (by omega) (by decide) (by decide)) q24a q24c (g := (mkF m 42 #[vr a1, vr b11, vi (0 : Int32), vi c0] [(.int s0), (.ref b11)])) rfl (by rw [hml]; rfl) (Steps.refl _) (argsL := [(.int s0)]) (rest := []) (lenOf pd_31 rfl) rfl (own_le rfl) (hb hby d46_42) (fun _ _ => ⟨rfl, eh22, own_le rfl, own_le rfl⟩)
    dsimp only [Pt.U, Pt.locs, Pt.cells, Pt.slots] at X24 l24 y24 z24 st24 hQ24
    subst l24 y24 z24
    obtain ⟨rfl, Nq24, Kq24, t24, F24, hbt24, hor24⟩ := hQ24
    have N24 := Fr.app N22 Nq24
    have z25 := Kq24.1
    have K25 := K17.trans Kq24 (allS (Or.inr (by omega)) (allS (Or.inr (by omega)) all0))
    have O25 := O17.keep Kq24 (allS (by omega) (allS (by omega) all0))
    have lt24 := F24.lt
    have ex24 := F24.exa
    refine own_gs st24 ?_
    have f26 := (f18.keep Kq24 (ninS (own_ne (a := a1) (b := b11) (by omega)) (ninS (own_ne (a := a1) (b := t16) (by omega)) nin0)) (ninS (own_ne (a := t1) (b := b11) (by omega)) (ninS (own_ne (a := t1) (b := t16) (by omega)) nin0)))
    refine own_gs (cur' := T24.setTop (mkF m 16 #[vr a1, vr b11, vi (1 : Int32), vi c0] [(.ref a1), (.int (1 : Int32))])) ?_ ?_
    · refine XS.pop X24.here hx rfl (hb hby d46_45) rfl rfl ?_
      refine XS.iinc X24.here hx rfl (hb hby d46_46) rfl (l' := #[vr a1, vr b11, vi (1 : Int32), vi c0]) rfl ?_
      refine XS.goto X24.here hx rfl (pc0 := 49) (pc' := 14) rfl (hb hby d46_49) (by decide) (by decide) ?_
      refine XS.iloadN X24.here hx rfl (hb hby d46_14) rfl ?_
      refine XS.aloadN X24.here hx rfl (hb hby d46_15) rfl rfl ?_
      exact Steps.refl _
    have f28 := (f20.keep Kq24)
    obtain ⟨cq27, kq27, q27a, q27b, q27c⟩ := isOf hZ rfl f28
    obtain ⟨_, _, ⟨T27, L27, k27, n27⟩, -, X27, ⟨Lc27, hQ27, l27, y27, z27⟩, st27⟩ := X24.virtualBack hx (y := own_y47) (z := own_y47) hown (mvT hZ (tw_ hw 40 rfl)) (mvT hZ (tw_ hw 41 rfl)) (notFace_of_selects (args := #[]) (mvT hZ (tw_ hw 43 rfl))) (mvT hZ (tw_ hw 43 rfl)) (mvT hZ (tw_ hw 42 rfl)) (by decide) (own_lenB (W := 1) hZ hw f26 (O2.ext O25.2) P5 (by decide) (by decide)) q27a q27c (g := (mkF m 16 #[vr a1, vr b11, vi (1 : Int32), vi c0] [(.ref a1), (.int (1 : Int32))])) rfl (by rw [hml]; rfl) (Steps.refl _) (argsL := []) (rest := [(.int (1 : Int32))]) (lenOf pd_23 rfl) rfl (own_le rfl) (hb hby d46_16) (fun _ _ => ⟨rfl, rfl, own_le rfl, own_le rfl⟩)
    dsimp only [Pt.U, Pt.locs, Pt.cells, Pt.slots] at X27 l27 y27 z27 st27 hQ27
    subst l27 y27 z27
    obtain ⟨rfl, rfl, eh27⟩ := hQ27
    have N27 := Fr.app N24 (Fr.nil n0)
    refine own_gs st27 ?_
    refine own_gs (cur' := T27.setTop (mkF m 24 #[vr a1, vr b11, vi (1 : Int32), vi c0] [(.int (1 : Int32)), (.ref a1)])) ?_ ?_
    · refine XS.icmpNo X27.here hx rfl (hb hby d46_19) rfl (tlt ((by decide) : (1 : Int32) < (3 : Int32))).2.1 ?_
      refine XS.aloadN X27.here hx rfl (hb hby d46_22) rfl rfl ?_
      refine XS.iloadN X27.here hx rfl (hb hby d46_23) rfl ?_
      exact Steps.refl _
    obtain ⟨cq29, kq29, q29a, q29b, q29c⟩ := isOf hZ eh27 f28
    obtain ⟨_, _, ⟨T29, L29, k29, n29⟩, -, X29, ⟨Lc29, hQ29, l29, y29, z29⟩, st29⟩ := X27.virtualBack hx (y := own_y9) (z := own_y9) hown (mvT hZ (tw_ hw 65 rfl)) (mvT hZ (tw_ hw 66 rfl)) (notFace_of_selects (args := #[]) (mvT hZ (tw_ hw 68 rfl))) (mvT hZ (tw_ hw 68 rfl)) (mvT hZ (tw_ hw 67 rfl)) (by decide) (own_chB (W := 0) hZ hW f26 (i := 1) (j := (1 : Int32)) (Nat.le_of_ble_eq_true rfl) rfl (n0 := n0) (by omega) O25 (by decide) (by decide)) q29a q29c (g := (mkF m 24 #[vr a1, vr b11, vi (1 : Int32), vi c0] [(.int (1 : Int32)), (.ref a1)])) rfl (by rw [hml]; rfl) (Steps.refl _) (argsL := [(.int (1 : Int32))]) (rest := []) (lenOf pd_30 rfl) rfl (own_le rfl) (hb hby d46_24) (fun _ _ => ⟨rfl, eh27, own_le rfl, own_le rfl⟩)
    dsimp only [Pt.U, Pt.locs, Pt.cells, Pt.slots] at X29 l29 y29 z29 st29 hQ29
    subst l29 y29 z29
    obtain ⟨rfl, Nq29, eh29⟩ := hQ29
    have N29 := Fr.app N27 Nq29
    refine own_gs st29 ?_
    refine own_gs (cur' := T29.setTop (mkF m 30 #[vr a1, vr b11, vi (1 : Int32), vi c1] [(.int c1), (.ref b11)])) ?_ ?_
    · refine XS.istoreN X29.here hx rfl (hb hby d46_27) rfl (l' := #[vr a1, vr b11, vi (1 : Int32), vi c1]) rfl ?_
      refine XS.aloadN X29.here hx rfl (hb hby d46_28) rfl rfl ?_
      refine XS.iloadN X29.here hx rfl (hb hby d46_29) rfl ?_
      exact Steps.refl _
    obtain ⟨_, _, ⟨T30, L30, k30, n30⟩, -, X30, ⟨Lc30, hQ30, l30, y30, z30⟩, st30⟩ := Jvm.LawKit.callS X29 hx (y := own_y43) hown (mvT hZ (tw_ hw 86 rfl)) (mvT hZ (tw_ hw 87 rfl)) (mvT hZ (tw_ hw 88 rfl)) (mvT hZ (tw_ hw 89 rfl)) (by decide) (backOf (W := 1) (own_isoc l Z a0 hW c1 T24.heap n0 (by omega) O25 hb1) hZ (tw_ hw 89 rfl) (tw_ hw 88 rfl) (by decide) (by decide)) (g := (mkF m 30 #[vr a1, vr b11, vi (1 : Int32), vi c1] [(.int c1), (.ref b11)])) rfl (by rw [hml]; rfl) (argsL := [(.int c1)]) (rest := [(.ref b11)]) (lenOf pd_13 rfl) rfl (own_le rfl) (hb hby d46_30) (fun _ _ => ⟨rfl, eh29, own_le rfl, own_le rfl⟩)
    dsimp only [Pt.U, Pt.locs, Pt.cells, Pt.slots] at X30 l30 y30 z30 st30 hQ30
    subst l30 y30 z30
    obtain ⟨hor30, Nq30, eh30⟩ := hQ30
    have N30 := Fr.app N29 Nq30
    refine own_merge (d0 := s1) (cur := fun d => T30.setTop (mkF m 42 #[vr a1, vr b11, vi (1 : Int32), vi c1] [(.int d), (.ref b11)])) ?_ (fun key => ?_)
    · show own_Fin p e below (T30.setTop (mkF m 42 #[vr a1, vr b11, vi (1 : Int32), vi c1] [(.int s1), (.ref b11)])) _
      have hds31 : ∀ d ∈ ([s0] : List Int32), ¬ d < 0 ∧ ¬ (65535 : Int32) < d := (fun d hd => by
        simp only [List.mem_cons, List.not_mem_nil, or_false] at hd
        rcases hd with rfl
        · exact hs0)
      obtain ⟨cq32, kq32, q32a, q32b, q32c⟩ := isOf hZ eh30 ex24
      obtain ⟨_, _, ⟨T32, L32, k32, n32⟩, -, X32, ⟨Lc32, hQ32, l32, y32, z32⟩, st32⟩ := X30.virtualBack hx (y := own_y34) (z := own_y34) hown (mvT hZ (tw_ hw 93 rfl)) (mvT hZ (tw_ hw 94 rfl)) (notFace_of_selects (args := #[]) (mvT hZ (tw_ hw 96 rfl))) (mvT hZ (tw_ hw 96 rfl)) (mvT hZ (tw_ hw 95 rfl)) (by decide) (own_ap31 (W := 0) hZ hW F24 hds31 (n0 := n0) (by omega) O25 (by omega) (by omega) (by omega) (by decide) (by decide)) q32a q32c (g := (mkF m 42 #[vr a1, vr b11, vi (1 : Int32), vi c1] [(.int s1), (.ref b11)])) rfl (by rw [hml]; rfl) (Steps.refl _) (argsL := [(.int s1)]) (rest := []) (lenOf pd_31 rfl) rfl (own_le rfl) (hb hby d46_42) (fun _ _ => ⟨rfl, eh30, own_le rfl, own_le rfl⟩)
      dsimp only [Pt.U, Pt.locs, Pt.cells, Pt.slots] at X32 l32 y32 z32 st32 hQ32
      subst l32 y32 z32
      obtain ⟨rfl, Nq32, Kq32, t32, F32, hbt32, hor32⟩ := hQ32
      have N32 := Fr.app N30 Nq32
      have z33 := Kq32.1
      have K33 := K25.trans Kq32 (allS (Or.inr (by omega)) (allS (Or.inr (by omega)) all0))
      have O33 := O25.keep Kq32 (allS (by omega) (allS (by omega) all0))
      have lt32 := F32.lt
      have ex32 := F32.exa
      refine own_gs st32 ?_
      have f34 := (f26.keep Kq32 (ninS (own_ne (a := a1) (b := b11) (by omega)) (ninS (own_ne (a := a1) (b := t24) (by omega)) nin0)) (ninS (own_ne (a := t1) (b := b11) (by omega)) (ninS (own_ne (a := t1) (b := t24) (by omega)) nin0)))
      refine own_gs (cur' := T32.setTop (mkF m 16 #[vr a1, vr b11, vi (2 : Int32), vi c1] [(.ref a1), (.int (2 : Int32))])) ?_ ?_
      · refine XS.pop X32.here hx rfl (hb hby d46_45) rfl rfl ?_
        refine XS.iinc X32.here hx rfl (hb hby d46_46) rfl (l' := #[vr a1, vr b11, vi (2 : Int32), vi c1]) rfl ?_
        refine XS.goto X32.here hx rfl (pc0 := 49) (pc' := 14) rfl (hb hby d46_49) (by decide) (by decide) ?_
        refine XS.iloadN X32.here hx rfl (hb hby d46_14) rfl ?_
        refine XS.aloadN X32.here hx rfl (hb hby d46_15) rfl rfl ?_
        exact Steps.refl _
      have f36 := (f28.keep Kq32)
      obtain ⟨cq35, kq35, q35a, q35b, q35c⟩ := isOf hZ rfl f36
      obtain ⟨_, _, ⟨T35, L35, k35, n35⟩, -, X35, ⟨Lc35, hQ35, l35, y35, z35⟩, st35⟩ := X32.virtualBack hx (y := own_y47) (z := own_y47) hown (mvT hZ (tw_ hw 40 rfl)) (mvT hZ (tw_ hw 41 rfl)) (notFace_of_selects (args := #[]) (mvT hZ (tw_ hw 43 rfl))) (mvT hZ (tw_ hw 43 rfl)) (mvT hZ (tw_ hw 42 rfl)) (by decide) (own_lenB (W := 1) hZ hw f34 (O2.ext O33.2) P5 (by decide) (by decide)) q35a q35c (g := (mkF m 16 #[vr a1, vr b11, vi (2 : Int32), vi c1] [(.ref a1), (.int (2 : Int32))])) rfl (by rw [hml]; rfl) (Steps.refl _) (argsL := []) (rest := [(.int (2 : Int32))]) (lenOf pd_23 rfl) rfl (own_le rfl) (hb hby d46_16) (fun _ _ => ⟨rfl, rfl, own_le rfl, own_le rfl⟩)
      dsimp only [Pt.U, Pt.locs, Pt.cells, Pt.slots] at X35 l35 y35 z35 st35 hQ35
      subst l35 y35 z35
      obtain ⟨rfl, rfl, eh35⟩ := hQ35
      have N35 := Fr.app N32 (Fr.nil n0)
      refine own_gs st35 ?_
      refine own_gs (cur' := T35.setTop (mkF m 24 #[vr a1, vr b11, vi (2 : Int32), vi c1] [(.int (2 : Int32)), (.ref a1)])) ?_ ?_
      · refine XS.icmpNo X35.here hx rfl (hb hby d46_19) rfl (tlt ((by decide) : (2 : Int32) < (3 : Int32))).2.1 ?_
        refine XS.aloadN X35.here hx rfl (hb hby d46_22) rfl rfl ?_
        refine XS.iloadN X35.here hx rfl (hb hby d46_23) rfl ?_
        exact Steps.refl _
      obtain ⟨cq37, kq37, q37a, q37b, q37c⟩ := isOf hZ eh35 f36
      obtain ⟨_, _, ⟨T37, L37, k37, n37⟩, -, X37, ⟨Lc37, hQ37, l37, y37, z37⟩, st37⟩ := X35.virtualBack hx (y := own_y9) (z := own_y9) hown (mvT hZ (tw_ hw 65 rfl)) (mvT hZ (tw_ hw 66 rfl)) (notFace_of_selects (args := #[]) (mvT hZ (tw_ hw 68 rfl))) (mvT hZ (tw_ hw 68 rfl)) (mvT hZ (tw_ hw 67 rfl)) (by decide) (own_chB (W := 0) hZ hW f34 (i := 2) (j := (2 : Int32)) (Nat.le_of_ble_eq_true rfl) rfl (n0 := n0) (by omega) O33 (by decide) (by decide)) q37a q37c (g := (mkF m 24 #[vr a1, vr b11, vi (2 : Int32), vi c1] [(.int (2 : Int32)), (.ref a1)])) rfl (by rw [hml]; rfl) (Steps.refl _) (argsL := [(.int (2 : Int32))]) (rest := []) (lenOf pd_30 rfl) rfl (own_le rfl) (hb hby d46_24) (fun _ _ => ⟨rfl, eh35, own_le rfl, own_le rfl⟩)
      dsimp only [Pt.U, Pt.locs, Pt.cells, Pt.slots] at X37 l37 y37 z37 st37 hQ37
      subst l37 y37 z37
      obtain ⟨rfl, Nq37, eh37⟩ := hQ37
      have N37 := Fr.app N35 Nq37
      refine own_gs st37 ?_
      refine own_gs (cur' := T37.setTop (mkF m 30 #[vr a1, vr b11, vi (2 : Int32), vi c2] [(.int c2), (.ref b11)])) ?_ ?_
      · refine XS.istoreN X37.here hx rfl (hb hby d46_27) rfl (l' := #[vr a1, vr b11, vi (2 : Int32), vi c2]) rfl ?_
        refine XS.aloadN X37.here hx rfl (hb hby d46_28) rfl rfl ?_
        refine XS.iloadN X37.here hx rfl (hb hby d46_29) rfl ?_
        exact Steps.refl _
      obtain ⟨_, _, ⟨T38, L38, k38, n38⟩, -, X38, ⟨Lc38, hQ38, l38, y38, z38⟩, st38⟩ := Jvm.LawKit.callS X37 hx (y := own_y43) hown (mvT hZ (tw_ hw 86 rfl)) (mvT hZ (tw_ hw 87 rfl)) (mvT hZ (tw_ hw 88 rfl)) (mvT hZ (tw_ hw 89 rfl)) (by decide) (backOf (W := 1) (own_isoc l Z a0 hW c2 T32.heap n0 (by omega) O33 hb2) hZ (tw_ hw 89 rfl) (tw_ hw 88 rfl) (by decide) (by decide)) (g := (mkF m 30 #[vr a1, vr b11, vi (2 : Int32), vi c2] [(.int c2), (.ref b11)])) rfl (by rw [hml]; rfl) (argsL := [(.int c2)]) (rest := [(.ref b11)]) (lenOf pd_13 rfl) rfl (own_le rfl) (hb hby d46_30) (fun _ _ => ⟨rfl, eh37, own_le rfl, own_le rfl⟩)
      dsimp only [Pt.U, Pt.locs, Pt.cells, Pt.slots] at X38 l38 y38 z38 st38 hQ38
      subst l38 y38 z38
      obtain ⟨hor38, Nq38, eh38⟩ := hQ38
      have N38 := Fr.app N37 Nq38
      refine own_merge (d0 := s2) (cur := fun d => T38.setTop (mkF m 42 #[vr a1, vr b11, vi (2 : Int32), vi c2] [(.int d), (.ref b11)])) ?_ (fun key => ?_)
      · show own_Fin p e below (T38.setTop (mkF m 42 #[vr a1, vr b11, vi (2 : Int32), vi c2] [(.int s2), (.ref b11)])) _
        have hds39 : ∀ d ∈ ([s0, s1] : List Int32), ¬ d < 0 ∧ ¬ (65535 : Int32) < d := (fun d hd => by
          simp only [List.mem_cons, List.not_mem_nil, or_false] at hd
          rcases hd with rfl | rfl
          · exact hs0
          · exact hs1)
        obtain ⟨cq40, kq40, q40a, q40b, q40c⟩ := isOf hZ eh38 ex32
        obtain ⟨_, _, ⟨T40, L40, k40, n40⟩, -, X40, ⟨Lc40, hQ40, l40, y40, z40⟩, st40⟩ := X38.virtualBack hx (y := own_y34) (z := own_y34) hown (mvT hZ (tw_ hw 93 rfl)) (mvT hZ (tw_ hw 94 rfl)) (notFace_of_selects (args := #[]) (mvT hZ (tw_ hw 96 rfl))) (mvT hZ (tw_ hw 96 rfl)) (mvT hZ (tw_ hw 95 rfl)) (by decide) (own_ap32 (W := 0) hZ hW F32 hds39 (n0 := n0) (by omega) O33 (by omega) (by omega) (by omega) (by decide) (by decide)) q40a q40c (g := (mkF m 42 #[vr a1, vr b11, vi (2 : Int32), vi c2] [(.int s2), (.ref b11)])) rfl (by rw [hml]; rfl) (Steps.refl _) (argsL := [(.int s2)]) (rest := []) (lenOf pd_31 rfl) rfl (own_le rfl) (hb hby d46_42) (fun _ _ => ⟨rfl, eh38, own_le rfl, own_le rfl⟩)
        dsimp only [Pt.U, Pt.locs, Pt.cells, Pt.slots] at X40 l40 y40 z40 st40 hQ40
        subst l40 y40 z40
        obtain ⟨rfl, Nq40, Kq40, t40, F40, hbt40, hor40⟩ := hQ40
        have N40 := Fr.app N38 Nq40
        have z41 := Kq40.1
        have K41 := K33.trans Kq40 (allS (Or.inr (by omega)) (allS (Or.inr (by omega)) all0))
        have O41 := O33.keep Kq40 (allS (by omega) (allS (by omega) all0))
        have lt40 := F40.lt
        have ex40 := F40.exa
        refine own_gs st40 ?_
        have f42 := (f34.keep Kq40 (ninS (own_ne (a := a1) (b := b11) (by omega)) (ninS (own_ne (a := a1) (b := t32) (by omega)) nin0)) (ninS (own_ne (a := t1) (b := b11) (by omega)) (ninS (own_ne (a := t1) (b := t32) (by omega)) nin0)))
        refine own_gs (cur' := T40.setTop (mkF m 16 #[vr a1, vr b11, vi (3 : Int32), vi c2] [(.ref a1), (.int (3 : Int32))])) ?_ ?_
        · refine XS.pop X40.here hx rfl (hb hby d46_45) rfl rfl ?_
          refine XS.iinc X40.here hx rfl (hb hby d46_46) rfl (l' := #[vr a1, vr b11, vi (3 : Int32), vi c2]) rfl ?_
          refine XS.goto X40.here hx rfl (pc0 := 49) (pc' := 14) rfl (hb hby d46_49) (by decide) (by decide) ?_
          refine XS.iloadN X40.here hx rfl (hb hby d46_14) rfl ?_
          refine XS.aloadN X40.here hx rfl (hb hby d46_15) rfl rfl ?_
          exact Steps.refl _
        have f44 := (f36.keep Kq40)
        obtain ⟨cq43, kq43, q43a, q43b, q43c⟩ := isOf hZ rfl f44
        obtain ⟨_, _, ⟨T43, L43, k43, n43⟩, -, X43, ⟨Lc43, hQ43, l43, y43, z43⟩, st43⟩ := X40.virtualBack hx (y := own_y47) (z := own_y47) hown (mvT hZ (tw_ hw 40 rfl)) (mvT hZ (tw_ hw 41 rfl)) (notFace_of_selects (args := #[]) (mvT hZ (tw_ hw 43 rfl))) (mvT hZ (tw_ hw 43 rfl)) (mvT hZ (tw_ hw 42 rfl)) (by decide) (own_lenB (W := 1) hZ hw f42 (O2.ext O41.2) P5 (by decide) (by decide)) q43a q43c (g := (mkF m 16 #[vr a1, vr b11, vi (3 : Int32), vi c2] [(.ref a1), (.int (3 : Int32))])) rfl (by rw [hml]; rfl) (Steps.refl _) (argsL := []) (rest := [(.int (3 : Int32))]) (lenOf pd_23 rfl) rfl (own_le rfl) (hb hby d46_16) (fun _ _ => ⟨rfl, rfl, own_le rfl, own_le rfl⟩)
        dsimp only [Pt.U, Pt.locs, Pt.cells, Pt.slots] at X43 l43 y43 z43 st43 hQ43
        subst l43 y43 z43
        obtain ⟨rfl, rfl, eh43⟩ := hQ43
        have N43 := Fr.app N40 (Fr.nil n0)
        refine own_gs st43 ?_
        have hds45 : ∀ d ∈ ([s0, s1, s2] : List Int32), ¬ d < 0 ∧ ¬ (65535 : Int32) < d := (fun d hd => by
          simp only [List.mem_cons, List.not_mem_nil, or_false] at hd
          rcases hd with rfl | rfl | rfl
          · exact hs0
          · exact hs1
          · exact hs2)
        refine own_gs (cur' := T43.setTop (mkF m 53 #[vr a1, vr b11, vi (3 : Int32), vi c2] [(.ref b11)])) ?_ ?_
        · refine XS.icmpYes X43.here hx rfl (pc0 := 19) (pc' := 52) rfl (hb hby d46_19) rfl (flt ((by decide) : ¬ ((3 : Int32) < (3 : Int32)))).2.1 (by decide) (by decide) ?_
          refine XS.aloadN X43.here hx rfl (hb hby d46_52) rfl rfl ?_
          exact Steps.refl _
        obtain ⟨cq46, kq46, q46a, q46b, q46c⟩ := isOf hZ eh43 ex40
        obtain ⟨_, _, ⟨T46, L46, k46, n46⟩, -, X46, ⟨Lc46, hQ46, l46, y46, z46⟩, st46⟩ := X43.virtualBack hx (y := own_y41) (z := own_y41) hown (mvT hZ (tw_ hw 116 rfl)) (mvT hZ (tw_ hw 117 rfl)) (notFace_of_selects (args := #[]) (mvT hZ (tw_ hw 119 rfl))) (mvT hZ (tw_ hw 119 rfl)) (mvT hZ (tw_ hw 118 rfl)) (by decide) (own_ts (W := 0) hZ hW F40 rfl rfl rfl (Nat.le_of_ble_eq_true rfl) hds45 (n0 := n0) (by omega) O41 (by decide) (by decide)) q46a q46c (g := (mkF m 53 #[vr a1, vr b11, vi (3 : Int32), vi c2] [(.ref b11)])) rfl (by rw [hml]; rfl) (Steps.refl _) (argsL := []) (rest := []) (lenOf pd_29 rfl) rfl (own_le rfl) (hb hby d46_53) (fun _ _ => ⟨rfl, eh43, own_le rfl, own_le rfl⟩)
        dsimp only [Pt.U, Pt.locs, Pt.cells, Pt.slots] at X46 l46 y46 z46 st46 hQ46
        subst l46 y46 z46
        obtain ⟨a46, t46, rfl, Nq46, Kq46, F46, ge46⟩ := hQ46
        have N46 := Fr.app N43 Nq46
        have z47 := Kq46.1
        have K47 := K41.trans Kq46 all0
        have O47 := O41.keep Kq46 all0
        refine own_gs st46 ?_
        exact own_rA X46 Bd rfl (v := (.ref a46)) rfl (hb hby d46_56) rfl (⟨_, _, rfl, N46, K47, F46, (by omega)⟩) rfl rfl
      · rcases hor38 with ⟨rfl, hs⟩ | ⟨rfl, hs⟩
        · refine own_go st38 ?_
          show own_Fin p e below (T38.setTop (mkF m 33 #[vr a1, vr b11, vi (2 : Int32), vi c2] [(.int (1 : Int32)), (.ref b11)])) _
          refine own_gs (cur' := T38.setTop (mkF m 42 #[vr a1, vr b11, vi (2 : Int32), vi c2] [(.int (32 : Int32)), (.ref b11)])) ?_ ?_
          · refine XS.ifNo X38.here hx rfl (hb hby d46_33) rfl ((if0 _ _).trans (feq ((by decide) : ¬ ((1 : Int32) = (0 : Int32)))).1) ?_
            refine XS.bipush X38.here hx rfl (hb hby d46_36) ?_
            refine XS.goto X38.here hx rfl (pc0 := 38) (pc' := 42) rfl (hb hby d46_38) (by decide) (by decide) ?_
            exact Steps.refl _
          exact key _ (hs.symm.trans q2)
        · refine own_go st38 ?_
          show own_Fin p e below (T38.setTop (mkF m 33 #[vr a1, vr b11, vi (2 : Int32), vi c2] [(.int (0 : Int32)), (.ref b11)])) _
          refine own_gs (cur' := T38.setTop (mkF m 42 #[vr a1, vr b11, vi (2 : Int32), vi c2] [(.int c2), (.ref b11)])) ?_ ?_
          · refine XS.ifYes X38.here hx rfl (pc0 := 33) (pc' := 41) rfl (hb hby d46_33) rfl ((if0 _ _).trans (teq ((by decide) : (0 : Int32) = (0 : Int32))).1) (by decide) (by decide) ?_
            refine XS.iloadN X38.here hx rfl (hb hby d46_41) rfl ?_
            exact Steps.refl _
          exact key _ (hs.symm.trans q2)
    · rcases hor30 with ⟨rfl, hs⟩ | ⟨rfl, hs⟩
      · refine own_go st30 ?_
        show own_Fin p e below (T30.setTop (mkF m 33 #[vr a1, vr b11, vi (1 : Int32), vi c1] [(.int (1 : Int32)), (.ref b11)])) _
        refine own_gs (cur' := T30.setTop (mkF m 42 #[vr a1, vr b11, vi (1 : Int32), vi c1] [(.int (32 : Int32)), (.ref b11)])) ?_ ?_
        · refine XS.ifNo X30.here hx rfl (hb hby d46_33) rfl ((if0 _ _).trans (feq ((by decide) : ¬ ((1 : Int32) = (0 : Int32)))).1) ?_
          refine XS.bipush X30.here hx rfl (hb hby d46_36) ?_
          refine XS.goto X30.here hx rfl (pc0 := 38) (pc' := 42) rfl (hb hby d46_38) (by decide) (by decide) ?_
          exact Steps.refl _
        exact key _ (hs.symm.trans q1)
      · refine own_go st30 ?_
        show own_Fin p e below (T30.setTop (mkF m 33 #[vr a1, vr b11, vi (1 : Int32), vi c1] [(.int (0 : Int32)), (.ref b11)])) _
        refine own_gs (cur' := T30.setTop (mkF m 42 #[vr a1, vr b11, vi (1 : Int32), vi c1] [(.int c1), (.ref b11)])) ?_ ?_
        · refine XS.ifYes X30.here hx rfl (pc0 := 33) (pc' := 41) rfl (hb hby d46_33) rfl ((if0 _ _).trans (teq ((by decide) : (0 : Int32) = (0 : Int32))).1) (by decide) (by decide) ?_
          refine XS.iloadN X30.here hx rfl (hb hby d46_41) rfl ?_
          exact Steps.refl _
        exact key _ (hs.symm.trans q1)
  · rcases hor22 with ⟨rfl, hs⟩ | ⟨rfl, hs⟩
    · refine own_go st22 ?_
      show own_Fin p e below (T22.setTop (mkF m 33 #[vr a1, vr b11, vi (0 : Int32), vi c0] [(.int (1 : Int32)), (.ref b11)])) _
      refine own_gs (cur' := T22.setTop (mkF m 42 #[vr a1, vr b11, vi (0 : Int32), vi c0] [(.int (32 : Int32)), (.ref b11)])) ?_ ?_
      · refine XS.ifNo X22.here hx rfl (hb hby d46_33) rfl ((if0 _ _).trans (feq ((by decide) : ¬ ((1 : Int32) = (0 : Int32)))).1) ?_
        refine XS.bipush X22.here hx rfl (hb hby d46_36) ?_
        refine XS.goto X22.here hx rfl (pc0 := 38) (pc' := 42) rfl (hb hby d46_38) (by decide) (by decide) ?_
        exact Steps.refl _
      exact key _ (hs.symm.trans q0)
    · refine own_go st22 ?_
      show own_Fin p e below (T22.setTop (mkF m 33 #[vr a1, vr b11, vi (0 : Int32), vi c0] [(.int (0 : Int32)), (.ref b11)])) _
      refine own_gs (cur' := T22.setTop (mkF m 42 #[vr a1, vr b11, vi (0 : Int32), vi c0] [(.int c0), (.ref b11)])) ?_ ?_
      · refine XS.ifYes X22.here hx rfl (pc0 := 33) (pc' := 41) rfl (hb hby d46_33) rfl ((if0 _ _).trans (teq ((by decide) : (0 : Int32) = (0 : Int32))).1) (by decide) (by decide) ?_
        refine XS.iloadN X22.here hx rfl (hb hby d46_41) rfl ?_
        exact Steps.refl _
      exact key _ (hs.symm.trans q0)
abbrev own_c47 : ByteArray := method_5_code
def own_make0_Q (Z : State) (c0 c1 c2 : Int32) (h0 : Heap) (n0 : Nat) (v : Option Value) (h : Heap) (L : List Loc) : Prop := ∃ a t : Nat, v = some (.ref a) ∧ Fr n0 L ∧ Keep h0 h [] ∧ own_Str Z h a t [] ∧ h0.size ≤ a
theorem ef_own_make0 (m : MethodId) (x0 : Int32) (x1 : Int32) (x2 : Int32) (x3 : Int32) : entryFrame m #[(.int x0), (.int x1), (.int x2), (.int x3)] 5 = mkF m 0 #[vi x0, vi x1, vi x2, vi x3, .unset] [] := by first | (simp [entryFrame, mkF, argsToLocals, Value.category]; done) | rfl
abbrev own_y48 : MethodName := ⟨"com/example/firmhold/firmhold/io/InputRefusedExceptionOneLinePinLaw", "make", "(ICCC)Ljava/lang/String;"⟩
theorem d47_0 : decode own_c47 0 = .ok (.iload_n 0, 1) := by decide +kernel
theorem d47_1 : decode own_c47 1 = .ok (.ifCond .ne 14, 3) := by decide +kernel
theorem d47_4 : decode own_c47 4 = .ok (.new 24, 3) := by decide +kernel
theorem d47_7 : decode own_c47 7 = .ok (.dup, 1) := by decide +kernel
theorem d47_8 : decode own_c47 8 = .ok (.iconst 0, 1) := by decide +kernel
theorem d47_9 : decode own_c47 9 = .ok (.newarray .char, 2) := by decide +kernel
theorem d47_11 : decode own_c47 11 = .ok (.invokespecial 37, 3) := by decide +kernel
theorem pd_32 : parseMethodDescriptor "([C)V" = some ⟨[(.array .char)], none⟩ := by decide +kernel
theorem d47_14 : decode own_c47 14 = .ok (.areturn, 1) := by decide +kernel
set_option maxRecDepth 65536 in
set_option maxHeartbeats 40000000 in
theorem own_make0 (l : Launch) (Z : State) (a0 : Array Value) (hW : own_W Z a0) (c0 c1 c2 : Int32) (h0 : Heap) (n0 : Nat) (Z0 : n0 ≤ h0.size) (O0 : Old Z n0 h0) (hc0 : ¬ c0 < 0 ∧ ¬ (65535 : Int32) < c0) (hc1 : ¬ c1 < 0 ∧ ¬ (65535 : Int32) < c1) (hc2 : ¬ c2 < 0 ∧ ¬ (65535 : Int32) < c2) :
    MetFree l own_y48 (head1 (Jvm.Cond.code own_y48 own_c47 5 (some (.object "java/lang/String")) :: []) (own_r 6 8 30 110)) (fun a U => a = #[(.int (0 : Int32)), (.int c0), (.int c1), (.int c2)] ∧ Z.Warmed39 U.vm ∧ U.heap = h0 ∧ CHv Z own_EL U.vm h0 ∧ ∀ x ∈ ([] : List Addr), Safe Z own_EL U.vm h0 x) (fun _ _ _ _ _ => True) (fun _ U o U' => ∃ v L, o = .returned v ∧ own_make0_Q Z c0 c1 c2 h0 n0 v U'.heap L ∧ CHr Z own_EL U.vm U.heap U'.vm U'.heap ∧ ReturnedEndW U o U' L (own_r 6 8 30 110).cells (own_r 6 8 30 110).slots) := by
  refine MetFree.of_bodySF (plainFor_of_name pn_com_example_firmhold_firmhold_io_InputRefusedExceptionOneLinePinLaw) hisR ?_
  intro p e s m args below meth c s₁ Bd hml0 hP hK
  obtain ⟨rfl, hZ, hh, hCH, hSf⟩ := hP
  obtain ⟨hw, ⟨G1, O2, P5⟩, ⟨G3, O4, rG3⟩, Oa, Oh, Ol⟩ := id hW
  have hx := Bd.exec
  have hby := Bd.bytes
  have hml : c.maxLocals = 5 := hml0
  have hown : s.vm.findClass "com/example/firmhold/firmhold/io/InputRefusedExceptionOneLinePinLaw" = some m.cls := findClass_of_methodNamed Bd.named
  have hnm := (name_of_methodNamed Bd.named Bd.method).1
  have X0 : Stand p l e (own_r 6 8 30 110) (s.setVm s.vm) m #[(.int (0 : Int32)), (.int c0), (.int c1), (.int c2)] below meth c s₁ [] 0 0 := Stand.of_body Bd
  have e0 : s₁.heap = h0 := by rw [← hh, Bd.state]; rfl
  have N0 := Fr.nil n0
  have K0 := Keep.refl h0 []
  have hS0 : s.Since s.vm h0.size := (State.WarmedH.refl s).since _
  have CH0 : CHr Z own_EL s.vm h0 s.vm h0 := CHr.refl hCH
  have hEL := own_EW hw
  have hSA := own_SA hw
  show own_Fin p e below (s₁.setTop (entryFrame m #[(.int (0 : Int32)), (.int c0), (.int c1), (.int c2)] 5)) _
  refine own_gs (castTop (ef_own_make0 m (0 : Int32) c0 c1 c2) (Steps.refl _)) ?_
  show own_Fin p e below (s₁.setTop (mkF m 0 #[vi (0 : Int32), vi c0, vi c1, vi c2, uu] [])) _
  refine own_gs (cur' := s₁.setTop (mkF m 4 #[vi (0 : Int32), vi c0, vi c1, vi c2, uu] [])) ?_ ?_
  · refine XS.iloadN X0.here hx rfl (hb hby d47_0) rfl ?_
    refine XS.ifNo X0.here hx rfl (hb hby d47_1) rfl ((if0 _ _).trans (teq ((by decide) : (0 : Int32) = (0 : Int32))).2) ?_
    exact Steps.refl _
  obtain ⟨T11, h11, X11, e11, E11, A11, D11, -, st11⟩ := newO X0 hx hZ hown (tw_ hw 161 rfl) (tw_ hw 17 rfl) (tw_ hw 9 rfl) e0 (g := (mkF m 4 #[vi (0 : Int32), vi c0, vi c1, vi c2, uu] [])) rfl (hb hby d47_4) (by decide) (by decide)
  obtain ⟨b11, g11⟩ : ∃ z, z = h0.size := ⟨_, rfl⟩
  rw [← g11] at A11 D11 st11
  have lt11 := own_lt A11.lt
  refine own_go st11 ?_
  have z12 := E11.1
  have K12 := K0.ext E11
  have O12 := O0.ext E11
  have CH12 := CH0.trans (CHr.ext E11 CH0.1)
  have F11_value : Fld Z h11 b11 "java/lang/String" "value" "[B" .null := D11 (Or.inr (tw_ hw 30 rfl)) (ty := (.array .byte)) (by decide)
  have F11_coder : Fld Z h11 b11 "java/lang/String" "coder" "B" (.int (0 : Int32)) := D11 (Or.inr (tw_ hw 32 rfl)) (ty := .byte) (by decide)
  have Sf11 := Safe.ext E11 CH0.1 (Safe.new (by omega : h0.size ≤ b11))
  refine own_gs (cur' := T11.setTop (mkF m 9 #[vi (0 : Int32), vi c0, vi c1, vi c2, uu] [(.int (0 : Int32)), (.ref b11), (.ref b11)])) ?_ ?_
  · refine XS.dup X11.here hx rfl (hb hby d47_7) rfl rfl ?_
    refine XS.iconst X11.here hx rfl (hb hby d47_8) ?_
    exact Steps.refl _
  obtain ⟨T13, h13, k13, X13, e13, E13, A13, st13⟩ := newP X11 hx hZ (tw_ hw 160 rfl) e11 (g := (mkF m 9 #[vi (0 : Int32), vi c0, vi c1, vi c2, uu] [(.int (0 : Int32)), (.ref b11), (.ref b11)])) rfl (hb hby d47_9) rfl (by decide) (cap := 0) (by decide) (by decide) (by decide) (by decide)
  obtain ⟨b13, g13⟩ : ∃ z, z = h11.size := ⟨_, rfl⟩
  rw [← g13] at A13 st13
  have lt13 := own_lt A13.lt
  refine own_go st13 ?_
  have z14 := E13.1
  have K14 := K12.ext E13
  have O14 := O12.ext E13
  have CH14 := CH12.trans (CHr.ext E13 CH12.1)
  have V13 : Arv Z h13 b13 k13 .char (0 : Int32) [] (.int (0 : Int32)) := Arv.new A13 (by decide)
  have f15 := (A11.ext E13)
  have f16 := (F11_value.ext E13)
  have f17 := (F11_coder.ext E13)
  have f19 := (Safe.ext E13 CH12.1 Sf11)
  obtain ⟨_, _, ⟨T18, L18, k18, n18⟩, -, Xw18, hSw18, hgw18, ⟨Lc18, hQ18, l18, y18, z18, hC18⟩, st18⟩ := X13.specialBackS hx (y := own_y1) rfl hown (mvT hZ (tw_ hw 162 rfl)) (mvT hZ (tw_ hw 163 rfl)) (mvT hZ (tw_ hw 164 rfl)) (by decide) (own_backS (W := 1) (own_new1e l Z a0 hW b11 b13 .null (.int (0 : Int32)) k13 h13 n0 (by omega) O14 f15 f16 f17 (by omega) V13) hZ (tw_ hw 164 rfl) (tw_ hw 9 rfl) (by decide) (by decide) hEL CH14.1 (allS ⟨f19, own_lt (by omega)⟩ all0)) (g := (mkF m 11 #[vi (0 : Int32), vi c0, vi c1, vi c2, uu] [(.ref b13), (.ref b11), (.ref b11)])) rfl (by rw [hml]; rfl) (Steps.refl _) (a := b11) (argsL := [(.ref b13)]) (rest := [(.ref b11)]) (lenOf pd_32 rfl) rfl (own_le rfl) (hb hby d47_11) (fun _ _ => ⟨rfl, e13, own_le rfl, own_le rfl⟩)
  dsimp only [Pt.U, Pt.locs, Pt.cells, Pt.slots] at Xw18 hSw18 hgw18 hC18 l18 y18 z18 st18 hQ18
  subst l18 y18 z18
  obtain ⟨X18, hS18, hZ18, hown18⟩ := rebS hS0 (show h0.size ≤ T13.heap.size by rw [e13]; omega) Xw18 hSw18 hgw18 hZ hown
  obtain ⟨rfl, Nq18, Kq18, t18, hne18, F18⟩ := hQ18
  have N18 := Fr.app N0 Nq18
  have z20 := Kq18.1
  have K20 := K14.trans Kq18 (allS (Or.inr (by omega)) all0)
  have O20 := O14.keep Kq18 (allS (by omega) all0)
  have CH20 := CH14.trans hC18
  have lt18 := F18.lt
  refine own_gs st18 ?_
  show own_Fin p e below (T18.setTop (mkF m 14 #[vi (0 : Int32), vi c0, vi c1, vi c2, uu] [(.ref b11)])) _
  obtain ⟨fs, hr, hrun, hended, hRE⟩ := X18.leaveW hS18 (show T18.heap.size ≤ T18.heap.size by omega) (v := (some (.ref b11))) (fun h => by rw [Bd.returns] at h; cases h)
  refine ⟨_, _, X18.areturnOut hx rfl Bd.returns rfl (hb hby d47_14) hr, hrun, hended, _, _, rfl, ?_, ?_, hRE.1, hRE.2.1, hRE.2.2.1, hRE.2.2.2.mono (own_le rfl) (own_le rfl)⟩
  · show own_make0_Q Z c0 c1 c2 h0 n0 (some (.ref b11)) T18.heap _
    exact ⟨_, _, rfl, N18, K20, F18, (by omega)⟩
  · have hfin := CH20.trans (CHv.at X18 hZ18 hEL CH20.1)
    rw [hh]
    show CHr Z own_EL s.vm h0 T18.vm T18.heap
    exact hfin
def own_make1_Q (Z : State) (c0 c1 c2 : Int32) (h0 : Heap) (n0 : Nat) (v : Option Value) (h : Heap) (L : List Loc) : Prop := ∃ a t : Nat, v = some (.ref a) ∧ Fr n0 L ∧ Keep h0 h [] ∧ own_Str Z h a t [c0] ∧ h0.size ≤ a
theorem ef_own_make1 (m : MethodId) (x0 : Int32) (x1 : Int32) (x2 : Int32) (x3 : Int32) : entryFrame m #[(.int x0), (.int x1), (.int x2), (.int x3)] 5 = mkF m 0 #[vi x0, vi x1, vi x2, vi x3, .unset] [] := by first | (simp [entryFrame, mkF, argsToLocals, Value.category]; done) | rfl
theorem d47_15 : decode own_c47 15 = .ok (.iload_n 0, 1) := by decide +kernel
theorem d47_16 : decode own_c47 16 = .ok (.iconst 1, 1) := by decide +kernel
theorem d47_17 : decode own_c47 17 = .ok (.if_icmp .ne 8, 3) := by decide +kernel
theorem d47_20 : decode own_c47 20 = .ok (.iload_n 1, 1) := by decide +kernel
theorem d47_21 : decode own_c47 21 = .ok (.invokestatic 40, 3) := by decide +kernel
theorem pd_33 : parseMethodDescriptor "(C)Ljava/lang/String;" = some ⟨[.char], some (.object "java/lang/String")⟩ := by decide +kernel
theorem d47_24 : decode own_c47 24 = .ok (.areturn, 1) := by decide +kernel
set_option maxRecDepth 65536 in
set_option maxHeartbeats 40000000 in
theorem own_make1 (l : Launch) (Z : State) (a0 : Array Value) (hW : own_W Z a0) (c0 c1 c2 : Int32) (h0 : Heap) (n0 : Nat) (Z0 : n0 ≤ h0.size) (O0 : Old Z n0 h0) (hc0 : ¬ c0 < 0 ∧ ¬ (65535 : Int32) < c0) (hc1 : ¬ c1 < 0 ∧ ¬ (65535 : Int32) < c1) (hc2 : ¬ c2 < 0 ∧ ¬ (65535 : Int32) < c2) :
    own_M l own_y48 own_c47 5 (some (.object "java/lang/String")) (own_r 6 8 30 110) #[(.int (1 : Int32)), (.int c0), (.int c1), (.int c2)] Z h0 (own_make1_Q Z c0 c1 c2 h0 n0) := by
  refine own_enter (own := "com/example/firmhold/firmhold/io/InputRefusedExceptionOneLinePinLaw") rfl (plainFor_of_name pn_com_example_firmhold_firmhold_io_InputRefusedExceptionOneLinePinLaw) (fun m => ef_own_make1 m (1 : Int32) c0 c1 c2) ?_
  intro p e s m below meth c s₁ Bd hZ hh hx hby hml hown hnm X0 e0
  obtain ⟨hw, ⟨G1, O2, P5⟩, ⟨G3, O4, rG3⟩, Oa, Oh, Ol⟩ := id hW
  have N0 := Fr.nil n0
  have K0 := Keep.refl h0 []
  refine own_gs (cur' := s₁.setTop (mkF m 21 #[vi (1 : Int32), vi c0, vi c1, vi c2, uu] [(.int c0)])) ?_ ?_
  · refine XS.iloadN X0.here hx rfl (hb hby d47_0) rfl ?_
    refine XS.ifYes X0.here hx rfl (pc0 := 1) (pc' := 15) rfl (hb hby d47_1) rfl ((if0 _ _).trans (feq ((by decide) : ¬ ((1 : Int32) = (0 : Int32)))).2) (by decide) (by decide) ?_
    refine XS.iloadN X0.here hx rfl (hb hby d47_15) rfl ?_
    refine XS.iconst X0.here hx rfl (hb hby d47_16) ?_
    refine XS.icmpNo X0.here hx rfl (hb hby d47_17) rfl (teq ((by decide) : (1 : Int32) = (1 : Int32))).2 ?_
    refine XS.iloadN X0.here hx rfl (hb hby d47_20) rfl ?_
    exact Steps.refl _
  obtain ⟨_, _, ⟨T11, L11, k11, n11⟩, -, X11, ⟨Lc11, hQ11, l11, y11, z11⟩, st11⟩ := Jvm.LawKit.callS X0 hx (y := own_y21) hown (mvT hZ (tw_ hw 7 rfl)) (mvT hZ (tw_ hw 8 rfl)) (mvT hZ (tw_ hw 9 rfl)) (mvT hZ (tw_ hw 10 rfl)) (by decide) (backOf (W := 0) (own_u_vof l Z a0 hW c0 h0 n0 (by omega) O0 hc0) hZ (tw_ hw 10 rfl) (tw_ hw 9 rfl) (by decide) (by decide)) (g := (mkF m 21 #[vi (1 : Int32), vi c0, vi c1, vi c2, uu] [(.int c0)])) rfl (by rw [hml]; rfl) (argsL := [(.int c0)]) (rest := []) (lenOf pd_33 rfl) rfl (own_le rfl) (hb hby d47_21) (fun _ _ => ⟨rfl, e0, own_le rfl, own_le rfl⟩)
  dsimp only [Pt.U, Pt.locs, Pt.cells, Pt.slots] at X11 l11 y11 z11 st11 hQ11
  subst l11 y11 z11
  obtain ⟨a11, t11, rfl, Nq11, Kq11, F11, ge11⟩ := hQ11
  have N11 := Fr.app N0 Nq11
  have z12 := Kq11.1
  have K12 := K0.trans Kq11 all0
  have O12 := O0.keep Kq11 all0
  refine own_go st11 ?_
  exact own_rA X11 Bd rfl (v := (.ref a11)) rfl (hb hby d47_24) rfl (⟨_, _, rfl, N11, K12, F11, (by omega)⟩) rfl rfl
def own_make2_Q (Z : State) (c0 c1 c2 : Int32) (h0 : Heap) (n0 : Nat) (v : Option Value) (h : Heap) (L : List Loc) : Prop := ∃ a t : Nat, v = some (.ref a) ∧ Fr n0 L ∧ Keep h0 h [] ∧ own_Str Z h a t [c0, c1] ∧ h0.size ≤ a
theorem ef_own_make2 (m : MethodId) (x0 : Int32) (x1 : Int32) (x2 : Int32) (x3 : Int32) : entryFrame m #[(.int x0), (.int x1), (.int x2), (.int x3)] 5 = mkF m 0 #[vi x0, vi x1, vi x2, vi x3, .unset] [] := by first | (simp [entryFrame, mkF, argsToLocals, Value.category]; done) | rfl
theorem d47_25 : decode own_c47 25 = .ok (.iload_n 0, 1) := by decide +kernel
theorem d47_26 : decode own_c47 26 = .ok (.iconst 2, 1) := by decide +kernel
theorem d47_27 : decode own_c47 27 = .ok (.if_icmp .ne 28, 3) := by decide +kernel
theorem d47_30 : decode own_c47 30 = .ok (.iconst 2, 1) := by decide +kernel
theorem d47_31 : decode own_c47 31 = .ok (.newarray .char, 2) := by decide +kernel
theorem d47_33 : decode own_c47 33 = .ok (.astore 4, 2) := by decide +kernel
theorem d47_35 : decode own_c47 35 = .ok (.aload 4, 2) := by decide +kernel
theorem d47_37 : decode own_c47 37 = .ok (.iconst 0, 1) := by decide +kernel
theorem d47_38 : decode own_c47 38 = .ok (.iload_n 1, 1) := by decide +kernel
theorem d47_39 : decode own_c47 39 = .ok (.castore, 1) := by decide +kernel
theorem d47_40 : decode own_c47 40 = .ok (.aload 4, 2) := by decide +kernel
theorem d47_42 : decode own_c47 42 = .ok (.iconst 1, 1) := by decide +kernel
theorem d47_43 : decode own_c47 43 = .ok (.iload_n 2, 1) := by decide +kernel
theorem d47_44 : decode own_c47 44 = .ok (.castore, 1) := by decide +kernel
theorem d47_45 : decode own_c47 45 = .ok (.new 24, 3) := by decide +kernel
theorem d47_48 : decode own_c47 48 = .ok (.dup, 1) := by decide +kernel
theorem d47_49 : decode own_c47 49 = .ok (.aload 4, 2) := by decide +kernel
theorem d47_51 : decode own_c47 51 = .ok (.invokespecial 37, 3) := by decide +kernel
theorem d47_54 : decode own_c47 54 = .ok (.areturn, 1) := by decide +kernel
set_option maxRecDepth 65536 in
set_option maxHeartbeats 40000000 in
theorem own_make2 (l : Launch) (Z : State) (a0 : Array Value) (hW : own_W Z a0) (c0 c1 c2 : Int32) (h0 : Heap) (n0 : Nat) (Z0 : n0 ≤ h0.size) (O0 : Old Z n0 h0) (hc0 : ¬ c0 < 0 ∧ ¬ (65535 : Int32) < c0) (hc1 : ¬ c1 < 0 ∧ ¬ (65535 : Int32) < c1) (hc2 : ¬ c2 < 0 ∧ ¬ (65535 : Int32) < c2) :
    own_M l own_y48 own_c47 5 (some (.object "java/lang/String")) (own_r 6 8 30 110) #[(.int (2 : Int32)), (.int c0), (.int c1), (.int c2)] Z h0 (own_make2_Q Z c0 c1 c2 h0 n0) := by
  refine own_enter (own := "com/example/firmhold/firmhold/io/InputRefusedExceptionOneLinePinLaw") rfl (plainFor_of_name pn_com_example_firmhold_firmhold_io_InputRefusedExceptionOneLinePinLaw) (fun m => ef_own_make2 m (2 : Int32) c0 c1 c2) ?_
  intro p e s m below meth c s₁ Bd hZ hh hx hby hml hown hnm X0 e0
  obtain ⟨hw, ⟨G1, O2, P5⟩, ⟨G3, O4, rG3⟩, Oa, Oh, Ol⟩ := id hW
  have N0 := Fr.nil n0
  have K0 := Keep.refl h0 []
  refine own_gs (cur' := s₁.setTop (mkF m 31 #[vi (2 : Int32), vi c0, vi c1, vi c2, uu] [(.int (2 : Int32))])) ?_ ?_
  · refine XS.iloadN X0.here hx rfl (hb hby d47_0) rfl ?_
    refine XS.ifYes X0.here hx rfl (pc0 := 1) (pc' := 15) rfl (hb hby d47_1) rfl ((if0 _ _).trans (feq ((by decide) : ¬ ((2 : Int32) = (0 : Int32)))).2) (by decide) (by decide) ?_
    refine XS.iloadN X0.here hx rfl (hb hby d47_15) rfl ?_
    refine XS.iconst X0.here hx rfl (hb hby d47_16) ?_
    refine XS.icmpYes X0.here hx rfl (pc0 := 17) (pc' := 25) rfl (hb hby d47_17) rfl (feq ((by decide) : ¬ ((2 : Int32) = (1 : Int32)))).2 (by decide) (by decide) ?_
    refine XS.iloadN X0.here hx rfl (hb hby d47_25) rfl ?_
    refine XS.iconst X0.here hx rfl (hb hby d47_26) ?_
    refine XS.icmpNo X0.here hx rfl (hb hby d47_27) rfl (teq ((by decide) : (2 : Int32) = (2 : Int32))).2 ?_
    show Steps p.tables e below (s₁.setTop (mkF m 30 #[vi (2 : Int32), vi c0, vi c1, vi c2, uu] [])) _
    refine XS.iconst X0.here hx rfl (hb hby d47_30) ?_
    exact Steps.refl _
  obtain ⟨T11, h11, k11, X11, e11, E11, A11, st11⟩ := newP X0 hx hZ (tw_ hw 160 rfl) e0 (g := (mkF m 31 #[vi (2 : Int32), vi c0, vi c1, vi c2, uu] [(.int (2 : Int32))])) rfl (hb hby d47_31) rfl (by decide) (cap := 2) (by decide) (by decide) (by decide) (by decide)
  obtain ⟨b11, g11⟩ : ∃ z, z = h0.size := ⟨_, rfl⟩
  rw [← g11] at A11 st11
  have lt11 := own_lt A11.lt
  refine own_go st11 ?_
  have z12 := E11.1
  have K12 := K0.ext E11
  have O12 := O0.ext E11
  have V11 : Arv Z h11 b11 k11 .char (2 : Int32) [(.int (0 : Int32)), (.int (0 : Int32))] (.int (0 : Int32)) := (Arv.new A11 (by decide)).pad (pad_rep [] (.int (0 : Int32)) 2)
  refine own_gs (cur' := T11.setTop (mkF m 39 #[vi (2 : Int32), vi c0, vi c1, vi c2, vr b11] [(.int c0), (.int (0 : Int32)), (.ref b11)])) ?_ ?_
  · refine XS.astore X11.here hx rfl (hb hby d47_33) rfl rfl (l' := #[vi (2 : Int32), vi c0, vi c1, vi c2, vr b11]) rfl ?_
    refine XS.aload X11.here hx rfl (hb hby d47_35) rfl rfl ?_
    refine XS.iconst X11.here hx rfl (hb hby d47_37) ?_
    refine XS.iloadN X11.here hx rfl (hb hby d47_38) rfl ?_
    exact Steps.refl _
  obtain ⟨cl13, Ar13, q13, S13, M13, Hs13, G13⟩ := id V11
  have hin13 : ¬ ((0 : Int32) < 0 ∨ cl13.slots.size ≤ ((0 : Int32)).toNatClampNeg) := inb_of S13 ⟨by decide, by decide⟩
  obtain ⟨T13, h13, X13, e13, W13, st13⟩ := stC X11 hx hZ e11 Ar13 (j := (0 : Int32)) hin13 (g := (mkF m 39 #[vi (2 : Int32), vi c0, vi c1, vi c2, vr b11] [(.int c0), (.int (0 : Int32)), (.ref b11)])) rfl rfl (hb hby d47_39)
  have V13 := Arv.set Ar13 q13 S13 M13 Hs13 G13 (fits_nar_char _) W13 0 rfl (Nat.le_of_ble_eq_true rfl)
  refine own_go st13 ?_
  have z14 := W13.size
  have K14 := K12.wr W13 (Or.inr (by omega))
  have O14 := O12.wr W13 (by omega)
  have N14 := Fr.snoc X13 N0 (by omega)
  refine own_gs (cur' := T13.setTop (mkF m 44 #[vi (2 : Int32), vi c0, vi c1, vi c2, vr b11] [(.int c1), (.int (1 : Int32)), (.ref b11)])) ?_ ?_
  · refine XS.aload X13.here hx rfl (hb hby d47_40) rfl rfl ?_
    refine XS.iconst X13.here hx rfl (hb hby d47_42) ?_
    refine XS.iloadN X13.here hx rfl (hb hby d47_43) rfl ?_
    exact Steps.refl _
  obtain ⟨cl15, Ar15, q15, S15, M15, Hs15, G15⟩ := id V13
  have hin15 : ¬ ((1 : Int32) < 0 ∨ cl15.slots.size ≤ ((1 : Int32)).toNatClampNeg) := inb_of S15 ⟨by decide, by decide⟩
  obtain ⟨T15, h15, X15, e15, W15, st15⟩ := stC X13 hx hZ e13 Ar15 (j := (1 : Int32)) hin15 (g := (mkF m 44 #[vi (2 : Int32), vi c0, vi c1, vi c2, vr b11] [(.int c1), (.int (1 : Int32)), (.ref b11)])) rfl rfl (hb hby d47_44)
  have V15 := Arv.set Ar15 q15 S15 M15 Hs15 G15 (fits_nar_char _) W15 1 rfl (Nat.le_of_ble_eq_true rfl)
  refine own_go st15 ?_
  have z16 := W15.size
  have K16 := K14.wr W15 (Or.inr (by omega))
  have O16 := O14.wr W15 (by omega)
  have N16 := Fr.snoc X15 N14 (by omega)
  obtain ⟨T17, h17, X17, e17, E17, A17, D17, -, st17⟩ := newO X15 hx hZ hown (tw_ hw 161 rfl) (tw_ hw 17 rfl) (tw_ hw 9 rfl) e15 (g := (mkF m 45 #[vi (2 : Int32), vi c0, vi c1, vi c2, vr b11] [])) rfl (hb hby d47_45) (by decide) (by decide)
  obtain ⟨b17, g17⟩ : ∃ z, z = h15.size := ⟨_, rfl⟩
  rw [← g17] at A17 D17 st17
  have lt17 := own_lt A17.lt
  refine own_go st17 ?_
  have z18 := E17.1
  have K18 := K16.ext E17
  have O18 := O16.ext E17
  have F17_value : Fld Z h17 b17 "java/lang/String" "value" "[B" .null := D17 (Or.inr (tw_ hw 30 rfl)) (ty := (.array .byte)) (by decide)
  have F17_coder : Fld Z h17 b17 "java/lang/String" "coder" "B" (.int (0 : Int32)) := D17 (Or.inr (tw_ hw 32 rfl)) (ty := .byte) (by decide)
  have f19 := (V15.ext E17)
  refine own_gs (cur' := T17.setTop (mkF m 51 #[vi (2 : Int32), vi c0, vi c1, vi c2, vr b11] [(.ref b11), (.ref b17), (.ref b17)])) ?_ ?_
  · refine XS.dup X17.here hx rfl (hb hby d47_48) rfl rfl ?_
    refine XS.aload X17.here hx rfl (hb hby d47_49) rfl rfl ?_
    exact Steps.refl _
  obtain ⟨_, _, ⟨T20, L20, k20, n20⟩, -, X20, ⟨Lc20, hQ20, l20, y20, z20⟩, st20⟩ := X17.specialBack hx (y := own_y1) rfl hown (mvT hZ (tw_ hw 162 rfl)) (mvT hZ (tw_ hw 163 rfl)) (mvT hZ (tw_ hw 164 rfl)) (by decide) (backOf (W := 1) (own_u_new1_2 l Z a0 hW b17 b11 .null (.int (0 : Int32)) k11 (nar .char c0) (nar .char c1) h17 n0 (by omega) O18 A17 F17_value F17_coder (by omega) f19 (own_narb _) (own_narb _)) hZ (tw_ hw 164 rfl) (tw_ hw 9 rfl) (by decide) (by decide)) (g := (mkF m 51 #[vi (2 : Int32), vi c0, vi c1, vi c2, vr b11] [(.ref b11), (.ref b17), (.ref b17)])) rfl (by rw [hml]; rfl) (Steps.refl _) (a := b17) (argsL := [(.ref b11)]) (rest := [(.ref b17)]) (lenOf pd_32 rfl) rfl (own_le rfl) (hb hby d47_51) (fun _ _ => ⟨rfl, e17, own_le rfl, own_le rfl⟩)
  dsimp only [Pt.U, Pt.locs, Pt.cells, Pt.slots] at X20 l20 y20 z20 st20 hQ20
  subst l20 y20 z20
  obtain ⟨rfl, Nq20, Kq20, t20, hne20, F20⟩ := hQ20
  have N20 := Fr.app N16 Nq20
  have z21 := Kq20.1
  have K21 := K18.trans Kq20 (allS (Or.inr (by omega)) all0)
  have O21 := O18.keep Kq20 (allS (by omega) all0)
  have lt20 := F20.lt
  refine own_gs st20 ?_
  have Fs := F20
  rw [own_nar hc0.1 hc0.2, own_nar hc1.1 hc1.2] at Fs
  exact own_rA X20 Bd rfl (v := (.ref b17)) rfl (hb hby d47_54) rfl (⟨_, _, rfl, N20, K21, Fs, (by omega)⟩) rfl rfl
def own_make3_Q (Z : State) (c0 c1 c2 : Int32) (h0 : Heap) (n0 : Nat) (v : Option Value) (h : Heap) (L : List Loc) : Prop := ∃ a t : Nat, v = some (.ref a) ∧ Fr n0 L ∧ Keep h0 h [] ∧ own_Str Z h a t [c0, c1, c2] ∧ h0.size ≤ a
theorem ef_own_make3 (m : MethodId) (x0 : Int32) (x1 : Int32) (x2 : Int32) (x3 : Int32) : entryFrame m #[(.int x0), (.int x1), (.int x2), (.int x3)] 5 = mkF m 0 #[vi x0, vi x1, vi x2, vi x3, .unset] [] := by first | (simp [entryFrame, mkF, argsToLocals, Value.category]; done) | rfl
theorem d47_55 : decode own_c47 55 = .ok (.iconst 3, 1) := by decide +kernel
theorem d47_56 : decode own_c47 56 = .ok (.newarray .char, 2) := by decide +kernel
theorem d47_58 : decode own_c47 58 = .ok (.astore 4, 2) := by decide +kernel
theorem d47_60 : decode own_c47 60 = .ok (.aload 4, 2) := by decide +kernel
theorem d47_62 : decode own_c47 62 = .ok (.iconst 0, 1) := by decide +kernel
theorem d47_63 : decode own_c47 63 = .ok (.iload_n 1, 1) := by decide +kernel
theorem d47_64 : decode own_c47 64 = .ok (.castore, 1) := by decide +kernel
theorem d47_65 : decode own_c47 65 = .ok (.aload 4, 2) := by decide +kernel
theorem d47_67 : decode own_c47 67 = .ok (.iconst 1, 1) := by decide +kernel
theorem d47_68 : decode own_c47 68 = .ok (.iload_n 2, 1) := by decide +kernel
theorem d47_69 : decode own_c47 69 = .ok (.castore, 1) := by decide +kernel
theorem d47_70 : decode own_c47 70 = .ok (.aload 4, 2) := by decide +kernel
theorem d47_72 : decode own_c47 72 = .ok (.iconst 2, 1) := by decide +kernel
theorem d47_73 : decode own_c47 73 = .ok (.iload_n 3, 1) := by decide +kernel
theorem d47_74 : decode own_c47 74 = .ok (.castore, 1) := by decide +kernel
theorem d47_75 : decode own_c47 75 = .ok (.new 24, 3) := by decide +kernel
theorem d47_78 : decode own_c47 78 = .ok (.dup, 1) := by decide +kernel
theorem d47_79 : decode own_c47 79 = .ok (.aload 4, 2) := by decide +kernel
theorem d47_81 : decode own_c47 81 = .ok (.invokespecial 37, 3) := by decide +kernel
theorem d47_84 : decode own_c47 84 = .ok (.areturn, 1) := by decide +kernel
set_option maxRecDepth 65536 in
set_option maxHeartbeats 40000000 in
theorem own_make3 (l : Launch) (Z : State) (a0 : Array Value) (hW : own_W Z a0) (c0 c1 c2 : Int32) (h0 : Heap) (n0 : Nat) (Z0 : n0 ≤ h0.size) (O0 : Old Z n0 h0) (hc0 : ¬ c0 < 0 ∧ ¬ (65535 : Int32) < c0) (hc1 : ¬ c1 < 0 ∧ ¬ (65535 : Int32) < c1) (hc2 : ¬ c2 < 0 ∧ ¬ (65535 : Int32) < c2) :
    own_M l own_y48 own_c47 5 (some (.object "java/lang/String")) (own_r 6 8 30 110) #[(.int (3 : Int32)), (.int c0), (.int c1), (.int c2)] Z h0 (own_make3_Q Z c0 c1 c2 h0 n0) := by
  refine own_enter (own := "com/example/firmhold/firmhold/io/InputRefusedExceptionOneLinePinLaw") rfl (plainFor_of_name pn_com_example_firmhold_firmhold_io_InputRefusedExceptionOneLinePinLaw) (fun m => ef_own_make3 m (3 : Int32) c0 c1 c2) ?_
  intro p e s m below meth c s₁ Bd hZ hh hx hby hml hown hnm X0 e0
  obtain ⟨hw, ⟨G1, O2, P5⟩, ⟨G3, O4, rG3⟩, Oa, Oh, Ol⟩ := id hW
  have N0 := Fr.nil n0
  have K0 := Keep.refl h0 []
  refine own_gs (cur' := s₁.setTop (mkF m 56 #[vi (3 : Int32), vi c0, vi c1, vi c2, uu] [(.int (3 : Int32))])) ?_ ?_
  · refine XS.iloadN X0.here hx rfl (hb hby d47_0) rfl ?_
    refine XS.ifYes X0.here hx rfl (pc0 := 1) (pc' := 15) rfl (hb hby d47_1) rfl ((if0 _ _).trans (feq ((by decide) : ¬ ((3 : Int32) = (0 : Int32)))).2) (by decide) (by decide) ?_
    refine XS.iloadN X0.here hx rfl (hb hby d47_15) rfl ?_
    refine XS.iconst X0.here hx rfl (hb hby d47_16) ?_
    refine XS.icmpYes X0.here hx rfl (pc0 := 17) (pc' := 25) rfl (hb hby d47_17) rfl (feq ((by decide) : ¬ ((3 : Int32) = (1 : Int32)))).2 (by decide) (by decide) ?_
    refine XS.iloadN X0.here hx rfl (hb hby d47_25) rfl ?_
    refine XS.iconst X0.here hx rfl (hb hby d47_26) ?_
    refine XS.icmpYes X0.here hx rfl (pc0 := 27) (pc' := 55) rfl (hb hby d47_27) rfl (feq ((by decide) : ¬ ((3 : Int32) = (2 : Int32)))).2 (by decide) (by decide) ?_
    show Steps p.tables e below (s₁.setTop (mkF m 55 #[vi (3 : Int32), vi c0, vi c1, vi c2, uu] [])) _
    refine XS.iconst X0.here hx rfl (hb hby d47_55) ?_
    exact Steps.refl _
  obtain ⟨T11, h11, k11, X11, e11, E11, A11, st11⟩ := newP X0 hx hZ (tw_ hw 160 rfl) e0 (g := (mkF m 56 #[vi (3 : Int32), vi c0, vi c1, vi c2, uu] [(.int (3 : Int32))])) rfl (hb hby d47_56) rfl (by decide) (cap := 3) (by decide) (by decide) (by decide) (by decide)
  obtain ⟨b11, g11⟩ : ∃ z, z = h0.size := ⟨_, rfl⟩
  rw [← g11] at A11 st11
  have lt11 := own_lt A11.lt
  refine own_go st11 ?_
  have z12 := E11.1
  have K12 := K0.ext E11
  have O12 := O0.ext E11
  have V11 : Arv Z h11 b11 k11 .char (3 : Int32) [(.int (0 : Int32)), (.int (0 : Int32)), (.int (0 : Int32))] (.int (0 : Int32)) := (Arv.new A11 (by decide)).pad (pad_rep [] (.int (0 : Int32)) 3)
  refine own_gs (cur' := T11.setTop (mkF m 64 #[vi (3 : Int32), vi c0, vi c1, vi c2, vr b11] [(.int c0), (.int (0 : Int32)), (.ref b11)])) ?_ ?_
  · refine XS.astore X11.here hx rfl (hb hby d47_58) rfl rfl (l' := #[vi (3 : Int32), vi c0, vi c1, vi c2, vr b11]) rfl ?_
    refine XS.aload X11.here hx rfl (hb hby d47_60) rfl rfl ?_
    refine XS.iconst X11.here hx rfl (hb hby d47_62) ?_
    refine XS.iloadN X11.here hx rfl (hb hby d47_63) rfl ?_
    exact Steps.refl _
  obtain ⟨cl13, Ar13, q13, S13, M13, Hs13, G13⟩ := id V11
  have hin13 : ¬ ((0 : Int32) < 0 ∨ cl13.slots.size ≤ ((0 : Int32)).toNatClampNeg) := inb_of S13 ⟨by decide, by decide⟩
  obtain ⟨T13, h13, X13, e13, W13, st13⟩ := stC X11 hx hZ e11 Ar13 (j := (0 : Int32)) hin13 (g := (mkF m 64 #[vi (3 : Int32), vi c0, vi c1, vi c2, vr b11] [(.int c0), (.int (0 : Int32)), (.ref b11)])) rfl rfl (hb hby d47_64)
  have V13 := Arv.set Ar13 q13 S13 M13 Hs13 G13 (fits_nar_char _) W13 0 rfl (Nat.le_of_ble_eq_true rfl)
  refine own_go st13 ?_
  have z14 := W13.size
  have K14 := K12.wr W13 (Or.inr (by omega))
  have O14 := O12.wr W13 (by omega)
  have N14 := Fr.snoc X13 N0 (by omega)
  refine own_gs (cur' := T13.setTop (mkF m 69 #[vi (3 : Int32), vi c0, vi c1, vi c2, vr b11] [(.int c1), (.int (1 : Int32)), (.ref b11)])) ?_ ?_
  · refine XS.aload X13.here hx rfl (hb hby d47_65) rfl rfl ?_
    refine XS.iconst X13.here hx rfl (hb hby d47_67) ?_
    refine XS.iloadN X13.here hx rfl (hb hby d47_68) rfl ?_
    exact Steps.refl _
  obtain ⟨cl15, Ar15, q15, S15, M15, Hs15, G15⟩ := id V13
  have hin15 : ¬ ((1 : Int32) < 0 ∨ cl15.slots.size ≤ ((1 : Int32)).toNatClampNeg) := inb_of S15 ⟨by decide, by decide⟩
  obtain ⟨T15, h15, X15, e15, W15, st15⟩ := stC X13 hx hZ e13 Ar15 (j := (1 : Int32)) hin15 (g := (mkF m 69 #[vi (3 : Int32), vi c0, vi c1, vi c2, vr b11] [(.int c1), (.int (1 : Int32)), (.ref b11)])) rfl rfl (hb hby d47_69)
  have V15 := Arv.set Ar15 q15 S15 M15 Hs15 G15 (fits_nar_char _) W15 1 rfl (Nat.le_of_ble_eq_true rfl)
  refine own_go st15 ?_
  have z16 := W15.size
  have K16 := K14.wr W15 (Or.inr (by omega))
  have O16 := O14.wr W15 (by omega)
  have N16 := Fr.snoc X15 N14 (by omega)
  refine own_gs (cur' := T15.setTop (mkF m 74 #[vi (3 : Int32), vi c0, vi c1, vi c2, vr b11] [(.int c2), (.int (2 : Int32)), (.ref b11)])) ?_ ?_
  · refine XS.aload X15.here hx rfl (hb hby d47_70) rfl rfl ?_
    refine XS.iconst X15.here hx rfl (hb hby d47_72) ?_
    refine XS.iloadN X15.here hx rfl (hb hby d47_73) rfl ?_
    exact Steps.refl _
  obtain ⟨cl17, Ar17, q17, S17, M17, Hs17, G17⟩ := id V15
  have hin17 : ¬ ((2 : Int32) < 0 ∨ cl17.slots.size ≤ ((2 : Int32)).toNatClampNeg) := inb_of S17 ⟨by decide, by decide⟩
  obtain ⟨T17, h17, X17, e17, W17, st17⟩ := stC X15 hx hZ e15 Ar17 (j := (2 : Int32)) hin17 (g := (mkF m 74 #[vi (3 : Int32), vi c0, vi c1, vi c2, vr b11] [(.int c2), (.int (2 : Int32)), (.ref b11)])) rfl rfl (hb hby d47_74)
  have V17 := Arv.set Ar17 q17 S17 M17 Hs17 G17 (fits_nar_char _) W17 2 rfl (Nat.le_of_ble_eq_true rfl)
  refine own_go st17 ?_
  have z18 := W17.size
  have K18 := K16.wr W17 (Or.inr (by omega))
  have O18 := O16.wr W17 (by omega)
  have N18 := Fr.snoc X17 N16 (by omega)
  obtain ⟨T19, h19, X19, e19, E19, A19, D19, -, st19⟩ := newO X17 hx hZ hown (tw_ hw 161 rfl) (tw_ hw 17 rfl) (tw_ hw 9 rfl) e17 (g := (mkF m 75 #[vi (3 : Int32), vi c0, vi c1, vi c2, vr b11] [])) rfl (hb hby d47_75) (by decide) (by decide)
  obtain ⟨b19, g19⟩ : ∃ z, z = h17.size := ⟨_, rfl⟩
  rw [← g19] at A19 D19 st19
  have lt19 := own_lt A19.lt
  refine own_go st19 ?_
  have z20 := E19.1
  have K20 := K18.ext E19
  have O20 := O18.ext E19
  have F19_value : Fld Z h19 b19 "java/lang/String" "value" "[B" .null := D19 (Or.inr (tw_ hw 30 rfl)) (ty := (.array .byte)) (by decide)
  have F19_coder : Fld Z h19 b19 "java/lang/String" "coder" "B" (.int (0 : Int32)) := D19 (Or.inr (tw_ hw 32 rfl)) (ty := .byte) (by decide)
  have f21 := (V17.ext E19)
  refine own_gs (cur' := T19.setTop (mkF m 81 #[vi (3 : Int32), vi c0, vi c1, vi c2, vr b11] [(.ref b11), (.ref b19), (.ref b19)])) ?_ ?_
  · refine XS.dup X19.here hx rfl (hb hby d47_78) rfl rfl ?_
    refine XS.aload X19.here hx rfl (hb hby d47_79) rfl rfl ?_
    exact Steps.refl _
  obtain ⟨_, _, ⟨T22, L22, k22, n22⟩, -, X22, ⟨Lc22, hQ22, l22, y22, z22⟩, st22⟩ := X19.specialBack hx (y := own_y1) rfl hown (mvT hZ (tw_ hw 162 rfl)) (mvT hZ (tw_ hw 163 rfl)) (mvT hZ (tw_ hw 164 rfl)) (by decide) (backOf (W := 1) (own_u_new1_3 l Z a0 hW b19 b11 .null (.int (0 : Int32)) k11 (nar .char c0) (nar .char c1) (nar .char c2) h19 n0 (by omega) O20 A19 F19_value F19_coder (by omega) f21 (own_narb _) (own_narb _) (own_narb _)) hZ (tw_ hw 164 rfl) (tw_ hw 9 rfl) (by decide) (by decide)) (g := (mkF m 81 #[vi (3 : Int32), vi c0, vi c1, vi c2, vr b11] [(.ref b11), (.ref b19), (.ref b19)])) rfl (by rw [hml]; rfl) (Steps.refl _) (a := b19) (argsL := [(.ref b11)]) (rest := [(.ref b19)]) (lenOf pd_32 rfl) rfl (own_le rfl) (hb hby d47_81) (fun _ _ => ⟨rfl, e19, own_le rfl, own_le rfl⟩)
  dsimp only [Pt.U, Pt.locs, Pt.cells, Pt.slots] at X22 l22 y22 z22 st22 hQ22
  subst l22 y22 z22
  obtain ⟨rfl, Nq22, Kq22, t22, hne22, F22⟩ := hQ22
  have N22 := Fr.app N18 Nq22
  have z23 := Kq22.1
  have K23 := K20.trans Kq22 (allS (Or.inr (by omega)) all0)
  have O23 := O20.keep Kq22 (allS (by omega) all0)
  have lt22 := F22.lt
  refine own_gs st22 ?_
  have Fs := F22
  rw [own_nar hc0.1 hc0.2, own_nar hc1.1 hc1.2, own_nar hc2.1 hc2.2] at Fs
  exact own_rA X22 Bd rfl (v := (.ref b19)) rfl (hb hby d47_84) rfl (⟨_, _, rfl, N22, K23, Fs, (by omega)⟩) rfl rfl
def own_law_Q (Z : State) (p0 p1 p2 p3 : Int32) (h0 : Heap) (n0 : Nat) (v : Option Value) (h : Heap) (L : List Loc) : Prop := v = some (.int (1 : Int32)) ∧ Fr n0 L
theorem ef_own_law (m : MethodId) (x0 : Int32) (x1 : Int32) (x2 : Int32) (x3 : Int32) : entryFrame m #[(.int x0), (.int x1), (.int x2), (.int x3)] maxLocals = mkF m 0 #[vi x0, vi x1, vi x2, vi x3, .unset, .unset, .unset, .unset, .unset, .unset] [] := by first | (simp [entryFrame, mkF, argsToLocals, Value.category, maxLocals]; done) | rfl
theorem pd_34 : parseMethodDescriptor "(ICCC)Ljava/lang/String;" = some ⟨[.int, .char, .char, .char], some (.object "java/lang/String")⟩ := by decide +kernel
theorem pd_35 : parseMethodDescriptor "(Ljava/lang/String;)Ljava/lang/String;" = some ⟨[(.object "java/lang/String")], some (.object "java/lang/String")⟩ := by decide +kernel
theorem pd_36 : parseMethodDescriptor "(C)C" = some ⟨[.char], some .char⟩ := by decide +kernel
set_option maxRecDepth 65536 in
set_option maxHeartbeats 40000000 in
theorem own_law (l : Launch) (Z : State) (a0 : Array Value) (hW : own_W Z a0) (ws : List Jvm.Cond) (p0 p1 p2 p3 : Int32) (h0 : Heap) (n0 : Nat) (Z0 : n0 ≤ h0.size) (O0 : Old Z n0 h0)  :
    MetFree l x (head1 (Jvm.Cond.code x code maxLocals ret :: ws) room_1) (fun a U => a = #[(.int p0), (.int p1), (.int p2), (.int p3)] ∧ Z.Warmed39 U.vm ∧ U.heap = h0 ∧ CHv Z own_EL U.vm h0 ∧ ∀ x ∈ ([] : List Addr), Safe Z own_EL U.vm h0 x) (fun _ _ _ _ _ => True) (fun _ U o U' => ∃ v L, o = .returned v ∧ own_law_Q Z p0 p1 p2 p3 h0 n0 v U'.heap L ∧ CHr Z own_EL U.vm U.heap U'.vm U'.heap ∧ ReturnedEndW U o U' L room_1.cells room_1.slots) := by
  refine MetFree.of_bodySF (plainFor_of_name pn_com_example_firmhold_firmhold_io_InputRefusedExceptionOneLinePinLaw) hisR ?_
  intro p e s m args below meth c s₁ Bd hml0 hP hK
  obtain ⟨rfl, hZ, hh, hCH, hSf⟩ := hP
  obtain ⟨hw, ⟨G1, O2, P5⟩, ⟨G3, O4, rG3⟩, Oa, Oh, Ol⟩ := id hW
  have hx := Bd.exec
  have hby := Bd.bytes
  have hml : c.maxLocals = 10 := hml0
  have hown : s.vm.findClass "com/example/firmhold/firmhold/io/InputRefusedExceptionOneLinePinLaw" = some m.cls := findClass_of_methodNamed Bd.named
  have hnm := (name_of_methodNamed Bd.named Bd.method).1
  have X0 : Stand p l e room_1 (s.setVm s.vm) m #[(.int p0), (.int p1), (.int p2), (.int p3)] below meth c s₁ [] 0 0 := Stand.of_body Bd
  have e0 : s₁.heap = h0 := by rw [← hh, Bd.state]; rfl
  have N0 := Fr.nil n0
  have K0 := Keep.refl h0 []
  have hS0 : s.Since s.vm h0.size := (State.WarmedH.refl s).since _
  have CH0 : CHr Z own_EL s.vm h0 s.vm h0 := CHr.refl hCH
  have hEL := own_EW hw
  have hSA := own_SA hw
  show own_Fin p e below (s₁.setTop (entryFrame m #[(.int p0), (.int p1), (.int p2), (.int p3)] maxLocals)) _
  refine own_gs (castTop (ef_own_law m p0 p1 p2 p3) (Steps.refl _)) ?_
  show own_Fin p e below (s₁.setTop (mkF m 0 #[vi p0, vi p1, vi p2, vi p3, uu, uu, uu, uu, uu, uu] [])) _
  refine own_gs (cur' := s₁.setTop (mkF m 3 #[vi p0, vi p1, vi p2, vi p3, uu, uu, uu, uu, uu, uu] [(.int (p3 &&& (3 : Int32)))])) ?_ ?_
  · refine XS.iloadN X0.here hx rfl (hb hby at_0) rfl ?_
    refine XS.iconst X0.here hx rfl (hb hby at_1) ?_
    refine XS.iand X0.here hx rfl (hb hby at_2) rfl ?_
    exact Steps.refl _
  rcases own_and3 p3 with hn | hn | hn | hn
  · rw [hn]
    show own_Fin p e below (s₁.setTop (mkF m 3 #[vi p0, vi p1, vi p2, vi p3, uu, uu, uu, uu, uu, uu] [(.int (0 : Int32))])) _
    refine own_gs (cur' := s₁.setTop (mkF m 6 #[vi p0, vi p1, vi p2, vi p3, vi (0 : Int32), uu, uu, uu, uu, uu] [(.int p0)])) ?_ ?_
    · refine XS.istore X0.here hx rfl (hb hby at_3) rfl (l' := #[vi p0, vi p1, vi p2, vi p3, vi (0 : Int32), uu, uu, uu, uu, uu]) rfl ?_
      refine XS.iloadN X0.here hx rfl (hb hby at_5) rfl ?_
      exact Steps.refl _
    obtain ⟨_, _, ⟨T11, L11, k11, n11⟩, -, X11, ⟨Lc11, hQ11, l11, y11, z11⟩, st11⟩ := Jvm.LawKit.callS X0 hx (y := own_y45) hown (mvT hZ (tw_ hw 0 rfl)) (mvT hZ (tw_ hw 1 rfl)) (mvT hZ (tw_ hw 2 rfl)) (mvT hZ (tw_ hw 3 rfl)) (by decide) (backOf (W := 0) (own_draw l Z a0 hW p0 h0 n0 (by omega) O0) hZ (tw_ hw 3 rfl) (tw_ hw 2 rfl) (by decide) (by decide)) (g := (mkF m 6 #[vi p0, vi p1, vi p2, vi p3, vi (0 : Int32), uu, uu, uu, uu, uu] [(.int p0)])) rfl (by rw [hml]; rfl) (argsL := [(.int p0)]) (rest := []) (lenOf pd_30 rfl) rfl (own_le rfl) (hb hby at_6) (fun _ _ => ⟨rfl, e0, own_le rfl, own_le rfl⟩)
    dsimp only [Pt.U, Pt.locs, Pt.cells, Pt.slots] at X11 l11 y11 z11 st11 hQ11
    subst l11 y11 z11
    obtain ⟨c11, rfl, hc11, Nq11, eh11⟩ := hQ11
    have N11 := Fr.app N0 Nq11
    obtain ⟨s11, q11⟩ : ∃ s, own_sh c11 = s := ⟨_, rfl⟩
    refine own_go st11 ?_
    refine own_gs (cur' := T11.setTop (mkF m 12 #[vi p0, vi p1, vi p2, vi p3, vi (0 : Int32), vi c11, uu, uu, uu, uu] [(.int p1)])) ?_ ?_
    · refine XS.istore X11.here hx rfl (hb hby at_9) rfl (l' := #[vi p0, vi p1, vi p2, vi p3, vi (0 : Int32), vi c11, uu, uu, uu, uu]) rfl ?_
      refine XS.iloadN X11.here hx rfl (hb hby at_11) rfl ?_
      exact Steps.refl _
    obtain ⟨_, _, ⟨T12, L12, k12, n12⟩, -, X12, ⟨Lc12, hQ12, l12, y12, z12⟩, st12⟩ := Jvm.LawKit.callS X11 hx (y := own_y45) hown (mvT hZ (tw_ hw 0 rfl)) (mvT hZ (tw_ hw 1 rfl)) (mvT hZ (tw_ hw 2 rfl)) (mvT hZ (tw_ hw 3 rfl)) (by decide) (backOf (W := 0) (own_draw l Z a0 hW p1 h0 n0 (by omega) O0) hZ (tw_ hw 3 rfl) (tw_ hw 2 rfl) (by decide) (by decide)) (g := (mkF m 12 #[vi p0, vi p1, vi p2, vi p3, vi (0 : Int32), vi c11, uu, uu, uu, uu] [(.int p1)])) rfl (by rw [hml]; rfl) (argsL := [(.int p1)]) (rest := []) (lenOf pd_30 rfl) rfl (own_le rfl) (hb hby at_12) (fun _ _ => ⟨rfl, eh11, own_le rfl, own_le rfl⟩)
    dsimp only [Pt.U, Pt.locs, Pt.cells, Pt.slots] at X12 l12 y12 z12 st12 hQ12
    subst l12 y12 z12
    obtain ⟨c12, rfl, hc12, Nq12, eh12⟩ := hQ12
    have N12 := Fr.app N11 Nq12
    obtain ⟨s12, q12⟩ : ∃ s, own_sh c12 = s := ⟨_, rfl⟩
    refine own_go st12 ?_
    refine own_gs (cur' := T12.setTop (mkF m 18 #[vi p0, vi p1, vi p2, vi p3, vi (0 : Int32), vi c11, vi c12, uu, uu, uu] [(.int p2)])) ?_ ?_
    · refine XS.istore X12.here hx rfl (hb hby at_15) rfl (l' := #[vi p0, vi p1, vi p2, vi p3, vi (0 : Int32), vi c11, vi c12, uu, uu, uu]) rfl ?_
      refine XS.iloadN X12.here hx rfl (hb hby at_17) rfl ?_
      exact Steps.refl _
    obtain ⟨_, _, ⟨T13, L13, k13, n13⟩, -, X13, ⟨Lc13, hQ13, l13, y13, z13⟩, st13⟩ := Jvm.LawKit.callS X12 hx (y := own_y45) hown (mvT hZ (tw_ hw 0 rfl)) (mvT hZ (tw_ hw 1 rfl)) (mvT hZ (tw_ hw 2 rfl)) (mvT hZ (tw_ hw 3 rfl)) (by decide) (backOf (W := 0) (own_draw l Z a0 hW p2 h0 n0 (by omega) O0) hZ (tw_ hw 3 rfl) (tw_ hw 2 rfl) (by decide) (by decide)) (g := (mkF m 18 #[vi p0, vi p1, vi p2, vi p3, vi (0 : Int32), vi c11, vi c12, uu, uu, uu] [(.int p2)])) rfl (by rw [hml]; rfl) (argsL := [(.int p2)]) (rest := []) (lenOf pd_30 rfl) rfl (own_le rfl) (hb hby at_18) (fun _ _ => ⟨rfl, eh12, own_le rfl, own_le rfl⟩)
    dsimp only [Pt.U, Pt.locs, Pt.cells, Pt.slots] at X13 l13 y13 z13 st13 hQ13
    subst l13 y13 z13
    obtain ⟨c13, rfl, hc13, Nq13, eh13⟩ := hQ13
    have N13 := Fr.app N12 Nq13
    obtain ⟨s13, q13⟩ : ∃ s, own_sh c13 = s := ⟨_, rfl⟩
    refine own_go st13 ?_
    refine own_gs (cur' := T13.setTop (mkF m 31 #[vi p0, vi p1, vi p2, vi p3, vi (0 : Int32), vi c11, vi c12, vi c13, uu, uu] [(.int c13), (.int c12), (.int c11), (.int (0 : Int32))])) ?_ ?_
    · refine XS.istore X13.here hx rfl (hb hby at_21) rfl (l' := #[vi p0, vi p1, vi p2, vi p3, vi (0 : Int32), vi c11, vi c12, vi c13, uu, uu]) rfl ?_
      refine XS.iload X13.here hx rfl (hb hby at_23) rfl ?_
      refine XS.iload X13.here hx rfl (hb hby at_25) rfl ?_
      refine XS.iload X13.here hx rfl (hb hby at_27) rfl ?_
      refine XS.iload X13.here hx rfl (hb hby at_29) rfl ?_
      exact Steps.refl _
    obtain ⟨_, _, ⟨T14, L14, k14, n14⟩, -, Xw14, hSw14, hgw14, ⟨Lc14, hQ14, l14, y14, z14, hC14⟩, st14⟩ := callSS X13 hx (y := own_y48) hown (mvT hZ (tw_ hw 4 rfl)) (mvT hZ (tw_ hw 5 rfl)) (mvT hZ (tw_ hw 2 rfl)) (mvT hZ (tw_ hw 6 rfl)) (by decide) (own_backS (W := 0) (own_make0 l Z a0 hW c11 c12 c13 h0 n0 (by omega) O0 hc11 hc12 hc13) hZ (tw_ hw 6 rfl) (tw_ hw 2 rfl) (by decide) (by decide) hEL CH0.1 all0) (g := (mkF m 31 #[vi p0, vi p1, vi p2, vi p3, vi (0 : Int32), vi c11, vi c12, vi c13, uu, uu] [(.int c13), (.int c12), (.int c11), (.int (0 : Int32))])) rfl (by rw [hml]; rfl) (argsL := [(.int (0 : Int32)), (.int c11), (.int c12), (.int c13)]) (rest := []) (lenOf pd_34 rfl) rfl (own_le rfl) (hb hby at_31) (fun _ _ => ⟨rfl, eh13, own_le rfl, own_le rfl⟩)
    dsimp only [Pt.U, Pt.locs, Pt.cells, Pt.slots] at Xw14 hSw14 hgw14 hC14 l14 y14 z14 st14 hQ14
    subst l14 y14 z14
    obtain ⟨X14, hS14, hZ14, hown14⟩ := rebS hS0 (show h0.size ≤ T13.heap.size by rw [eh13]; omega) Xw14 hSw14 hgw14 hZ hown
    obtain ⟨a14, t14, rfl, Nq14, Kq14, F14, ge14⟩ := hQ14
    have N14 := Fr.app N13 Nq14
    have z15 := Kq14.1
    have K15 := K0.trans Kq14 all0
    have O15 := O0.keep Kq14 all0
    have CH15 := CH0.trans hC14
    refine own_gs st14 ?_
    refine own_gs (cur' := T14.setTop (mkF m 38 #[vi p0, vi p1, vi p2, vi p3, vi (0 : Int32), vi c11, vi c12, vi c13, vr a14, uu] [(.ref a14)])) ?_ ?_
    · refine XS.astore X14.here hx rfl (hb hby at_34) rfl rfl (l' := #[vi p0, vi p1, vi p2, vi p3, vi (0 : Int32), vi c11, vi c12, vi c13, vr a14, uu]) rfl ?_
      refine XS.aload X14.here hx rfl (hb hby at_36) rfl rfl ?_
      exact Steps.refl _
    obtain ⟨_, _, ⟨T16, L16, k16, n16⟩, -, X16, ⟨Lc16, hQ16, l16, y16, z16⟩, st16⟩ := Jvm.LawKit.callS X14 hx (y := own_y46) hown14 (mvT hZ14 (tw_ hw 33 rfl)) (mvT hZ14 (tw_ hw 34 rfl)) (mvT hZ14 (tw_ hw 35 rfl)) (mvT hZ14 (tw_ hw 36 rfl)) (by decide) (backOf (W := 0) (own_one0 l Z a0 hW a14 t14  T14.heap n0 (by omega) O15 F14) hZ14 (tw_ hw 36 rfl) (tw_ hw 35 rfl) (by decide) (by decide)) (g := (mkF m 38 #[vi p0, vi p1, vi p2, vi p3, vi (0 : Int32), vi c11, vi c12, vi c13, vr a14, uu] [(.ref a14)])) rfl (by rw [hml]; rfl) (argsL := [(.ref a14)]) (rest := []) (lenOf pd_35 rfl) rfl (own_le rfl) (hb hby at_38) (fun _ _ => ⟨rfl, rfl, own_le rfl, own_le rfl⟩)
    dsimp only [Pt.U, Pt.locs, Pt.cells, Pt.slots] at X16 l16 y16 z16 st16 hQ16
    subst l16 y16 z16
    obtain ⟨a16, t16, rfl, Nq16, Kq16, F16, ge16⟩ := hQ16
    have N16 := Fr.app N14 Nq16
    have z17 := Kq16.1
    have K17 := K15.trans Kq16 all0
    have O17 := O15.keep Kq16 all0
    have CH17 := CH15.trans (CHr.keep Kq16 all0 CH15.1)
    have ex16 := F16.exa
    have lt16 := F16.lt
    refine own_go st16 ?_
    refine own_gs (cur' := T16.setTop (mkF m 45 #[vi p0, vi p1, vi p2, vi p3, vi (0 : Int32), vi c11, vi c12, vi c13, vr a14, vr a16] [(.ref a16)])) ?_ ?_
    · refine XS.astore X16.here hx rfl (hb hby at_41) rfl rfl (l' := #[vi p0, vi p1, vi p2, vi p3, vi (0 : Int32), vi c11, vi c12, vi c13, vr a14, vr a16]) rfl ?_
      refine XS.aload X16.here hx rfl (hb hby at_43) rfl rfl ?_
      exact Steps.refl _
    obtain ⟨cq18, kq18, q18a, q18b, q18c⟩ := isOf hZ14 rfl ex16
    obtain ⟨_, _, ⟨T18, L18, k18, n18⟩, -, X18, ⟨Lc18, hQ18, l18, y18, z18⟩, st18⟩ := X16.virtualBack hx (y := own_y47) (z := own_y47) hown14 (mvT hZ14 (tw_ hw 155 rfl)) (mvT hZ14 (tw_ hw 41 rfl)) (notFace_of_selects (args := #[]) (mvT hZ14 (tw_ hw 43 rfl))) (mvT hZ14 (tw_ hw 43 rfl)) (mvT hZ14 (tw_ hw 42 rfl)) (by decide) (own_lenB (W := 0) hZ14 hw F16 (O2.ext O17.2) P5 (by decide) (by decide)) q18a q18c (g := (mkF m 45 #[vi p0, vi p1, vi p2, vi p3, vi (0 : Int32), vi c11, vi c12, vi c13, vr a14, vr a16] [(.ref a16)])) rfl (by rw [hml]; rfl) (Steps.refl _) (argsL := []) (rest := []) (lenOf pd_23 rfl) rfl (own_le rfl) (hb hby at_45) (fun _ _ => ⟨rfl, rfl, own_le rfl, own_le rfl⟩)
    dsimp only [Pt.U, Pt.locs, Pt.cells, Pt.slots] at X18 l18 y18 z18 st18 hQ18
    subst l18 y18 z18
    obtain ⟨rfl, rfl, eh18⟩ := hQ18
    have N18 := Fr.app N16 (Fr.nil n0)
    refine own_gs st18 ?_
    refine own_gs (cur' := T18.setTop (mkF m 122 #[vi p0, vi p1, vi p2, vi p3, vi (0 : Int32), vi c11, vi c12, vi c13, vr a14, vr a16] [(.int (1 : Int32))])) ?_ ?_
    · refine XS.iload X18.here hx rfl (hb hby at_48) rfl ?_
      refine XS.icmpYes X18.here hx rfl (pc0 := 50) (pc' := 55) rfl (hb hby at_50) rfl (teq ((by decide) : (0 : Int32) = (0 : Int32))).1 (by decide) (by decide) ?_
      refine XS.iload X18.here hx rfl (hb hby at_55) rfl ?_
      refine XS.iconst X18.here hx rfl (hb hby at_57) ?_
      refine XS.icmpYes X18.here hx rfl (pc0 := 58) (pc' := 77) rfl (hb hby at_58) rfl (tlt ((by decide) : (0 : Int32) < (1 : Int32))).1 (by decide) (by decide) ?_
      refine XS.iload X18.here hx rfl (hb hby at_77) rfl ?_
      refine XS.iconst X18.here hx rfl (hb hby at_79) ?_
      refine XS.icmpYes X18.here hx rfl (pc0 := 80) (pc' := 99) rfl (hb hby at_80) rfl (tlt ((by decide) : (0 : Int32) < (2 : Int32))).1 (by decide) (by decide) ?_
      show Steps p.tables e below (T18.setTop (mkF m 99 #[vi p0, vi p1, vi p2, vi p3, vi (0 : Int32), vi c11, vi c12, vi c13, vr a14, vr a16] [])) _
      refine XS.iload X18.here hx rfl (hb hby at_99) rfl ?_
      refine XS.iconst X18.here hx rfl (hb hby at_101) ?_
      refine XS.icmpYes X18.here hx rfl (pc0 := 102) (pc' := 121) rfl (hb hby at_102) rfl (tlt ((by decide) : (0 : Int32) < (3 : Int32))).1 (by decide) (by decide) ?_
      refine XS.iconst X18.here hx rfl (hb hby at_121) ?_
      exact Steps.refl _
    obtain ⟨fs, hr, hrun, hended, hRE⟩ := X18.leaveW hS14 (show T14.heap.size ≤ T18.heap.size by rw [eh18]; omega) (v := (some (.int (1 : Int32)))) (fun h => by rw [Bd.returns] at h; cases h)
    refine ⟨_, _, retN X18 hx (t := .boolean) Bd.returns (by simp) (hb hby at_122) hr, hrun, hended, _, _, rfl, ?_, ?_, hRE.1, hRE.2.1, hRE.2.2.1, hRE.2.2.2.mono (own_le rfl) (own_le rfl)⟩
    · show own_law_Q Z p0 p1 p2 p3 h0 n0 (some (.int (1 : Int32))) T18.heap _
      rw [eh18]
      exact ⟨rfl, N18⟩
    · have hfin := CH17.trans (CHv.at X18 hZ14 hEL CH17.1)
      rw [hh]
      show CHr Z own_EL s.vm h0 T18.vm T18.heap
      rw [eh18]
      exact hfin
  · rw [hn]
    show own_Fin p e below (s₁.setTop (mkF m 3 #[vi p0, vi p1, vi p2, vi p3, uu, uu, uu, uu, uu, uu] [(.int (1 : Int32))])) _
    refine own_gs (cur' := s₁.setTop (mkF m 6 #[vi p0, vi p1, vi p2, vi p3, vi (1 : Int32), uu, uu, uu, uu, uu] [(.int p0)])) ?_ ?_
    · refine XS.istore X0.here hx rfl (hb hby at_3) rfl (l' := #[vi p0, vi p1, vi p2, vi p3, vi (1 : Int32), uu, uu, uu, uu, uu]) rfl ?_
      refine XS.iloadN X0.here hx rfl (hb hby at_5) rfl ?_
      exact Steps.refl _
    obtain ⟨_, _, ⟨T19, L19, k19, n19⟩, -, X19, ⟨Lc19, hQ19, l19, y19, z19⟩, st19⟩ := Jvm.LawKit.callS X0 hx (y := own_y45) hown (mvT hZ (tw_ hw 0 rfl)) (mvT hZ (tw_ hw 1 rfl)) (mvT hZ (tw_ hw 2 rfl)) (mvT hZ (tw_ hw 3 rfl)) (by decide) (backOf (W := 0) (own_draw l Z a0 hW p0 h0 n0 (by omega) O0) hZ (tw_ hw 3 rfl) (tw_ hw 2 rfl) (by decide) (by decide)) (g := (mkF m 6 #[vi p0, vi p1, vi p2, vi p3, vi (1 : Int32), uu, uu, uu, uu, uu] [(.int p0)])) rfl (by rw [hml]; rfl) (argsL := [(.int p0)]) (rest := []) (lenOf pd_30 rfl) rfl (own_le rfl) (hb hby at_6) (fun _ _ => ⟨rfl, e0, own_le rfl, own_le rfl⟩)
    dsimp only [Pt.U, Pt.locs, Pt.cells, Pt.slots] at X19 l19 y19 z19 st19 hQ19
    subst l19 y19 z19
    obtain ⟨c19, rfl, hc19, Nq19, eh19⟩ := hQ19
    have N19 := Fr.app N0 Nq19
    obtain ⟨s19, q19⟩ : ∃ s, own_sh c19 = s := ⟨_, rfl⟩
    refine own_go st19 ?_
    refine own_gs (cur' := T19.setTop (mkF m 12 #[vi p0, vi p1, vi p2, vi p3, vi (1 : Int32), vi c19, uu, uu, uu, uu] [(.int p1)])) ?_ ?_
    · refine XS.istore X19.here hx rfl (hb hby at_9) rfl (l' := #[vi p0, vi p1, vi p2, vi p3, vi (1 : Int32), vi c19, uu, uu, uu, uu]) rfl ?_
      refine XS.iloadN X19.here hx rfl (hb hby at_11) rfl ?_
      exact Steps.refl _
    obtain ⟨_, _, ⟨T20, L20, k20, n20⟩, -, X20, ⟨Lc20, hQ20, l20, y20, z20⟩, st20⟩ := Jvm.LawKit.callS X19 hx (y := own_y45) hown (mvT hZ (tw_ hw 0 rfl)) (mvT hZ (tw_ hw 1 rfl)) (mvT hZ (tw_ hw 2 rfl)) (mvT hZ (tw_ hw 3 rfl)) (by decide) (backOf (W := 0) (own_draw l Z a0 hW p1 h0 n0 (by omega) O0) hZ (tw_ hw 3 rfl) (tw_ hw 2 rfl) (by decide) (by decide)) (g := (mkF m 12 #[vi p0, vi p1, vi p2, vi p3, vi (1 : Int32), vi c19, uu, uu, uu, uu] [(.int p1)])) rfl (by rw [hml]; rfl) (argsL := [(.int p1)]) (rest := []) (lenOf pd_30 rfl) rfl (own_le rfl) (hb hby at_12) (fun _ _ => ⟨rfl, eh19, own_le rfl, own_le rfl⟩)
    dsimp only [Pt.U, Pt.locs, Pt.cells, Pt.slots] at X20 l20 y20 z20 st20 hQ20
    subst l20 y20 z20
    obtain ⟨c20, rfl, hc20, Nq20, eh20⟩ := hQ20
    have N20 := Fr.app N19 Nq20
    obtain ⟨s20, q20⟩ : ∃ s, own_sh c20 = s := ⟨_, rfl⟩
    refine own_go st20 ?_
    refine own_gs (cur' := T20.setTop (mkF m 18 #[vi p0, vi p1, vi p2, vi p3, vi (1 : Int32), vi c19, vi c20, uu, uu, uu] [(.int p2)])) ?_ ?_
    · refine XS.istore X20.here hx rfl (hb hby at_15) rfl (l' := #[vi p0, vi p1, vi p2, vi p3, vi (1 : Int32), vi c19, vi c20, uu, uu, uu]) rfl ?_
      refine XS.iloadN X20.here hx rfl (hb hby at_17) rfl ?_
      exact Steps.refl _
    obtain ⟨_, _, ⟨T21, L21, k21, n21⟩, -, X21, ⟨Lc21, hQ21, l21, y21, z21⟩, st21⟩ := Jvm.LawKit.callS X20 hx (y := own_y45) hown (mvT hZ (tw_ hw 0 rfl)) (mvT hZ (tw_ hw 1 rfl)) (mvT hZ (tw_ hw 2 rfl)) (mvT hZ (tw_ hw 3 rfl)) (by decide) (backOf (W := 0) (own_draw l Z a0 hW p2 h0 n0 (by omega) O0) hZ (tw_ hw 3 rfl) (tw_ hw 2 rfl) (by decide) (by decide)) (g := (mkF m 18 #[vi p0, vi p1, vi p2, vi p3, vi (1 : Int32), vi c19, vi c20, uu, uu, uu] [(.int p2)])) rfl (by rw [hml]; rfl) (argsL := [(.int p2)]) (rest := []) (lenOf pd_30 rfl) rfl (own_le rfl) (hb hby at_18) (fun _ _ => ⟨rfl, eh20, own_le rfl, own_le rfl⟩)
    dsimp only [Pt.U, Pt.locs, Pt.cells, Pt.slots] at X21 l21 y21 z21 st21 hQ21
    subst l21 y21 z21
    obtain ⟨c21, rfl, hc21, Nq21, eh21⟩ := hQ21
    have N21 := Fr.app N20 Nq21
    obtain ⟨s21, q21⟩ : ∃ s, own_sh c21 = s := ⟨_, rfl⟩
    refine own_go st21 ?_
    refine own_gs (cur' := T21.setTop (mkF m 31 #[vi p0, vi p1, vi p2, vi p3, vi (1 : Int32), vi c19, vi c20, vi c21, uu, uu] [(.int c21), (.int c20), (.int c19), (.int (1 : Int32))])) ?_ ?_
    · refine XS.istore X21.here hx rfl (hb hby at_21) rfl (l' := #[vi p0, vi p1, vi p2, vi p3, vi (1 : Int32), vi c19, vi c20, vi c21, uu, uu]) rfl ?_
      refine XS.iload X21.here hx rfl (hb hby at_23) rfl ?_
      refine XS.iload X21.here hx rfl (hb hby at_25) rfl ?_
      refine XS.iload X21.here hx rfl (hb hby at_27) rfl ?_
      refine XS.iload X21.here hx rfl (hb hby at_29) rfl ?_
      exact Steps.refl _
    obtain ⟨_, _, ⟨T22, L22, k22, n22⟩, -, X22, ⟨Lc22, hQ22, l22, y22, z22⟩, st22⟩ := Jvm.LawKit.callS X21 hx (y := own_y48) hown (mvT hZ (tw_ hw 4 rfl)) (mvT hZ (tw_ hw 5 rfl)) (mvT hZ (tw_ hw 2 rfl)) (mvT hZ (tw_ hw 6 rfl)) (by decide) (backOf (W := 0) (own_make1 l Z a0 hW c19 c20 c21 h0 n0 (by omega) O0 hc19 hc20 hc21) hZ (tw_ hw 6 rfl) (tw_ hw 2 rfl) (by decide) (by decide)) (g := (mkF m 31 #[vi p0, vi p1, vi p2, vi p3, vi (1 : Int32), vi c19, vi c20, vi c21, uu, uu] [(.int c21), (.int c20), (.int c19), (.int (1 : Int32))])) rfl (by rw [hml]; rfl) (argsL := [(.int (1 : Int32)), (.int c19), (.int c20), (.int c21)]) (rest := []) (lenOf pd_34 rfl) rfl (own_le rfl) (hb hby at_31) (fun _ _ => ⟨rfl, eh21, own_le rfl, own_le rfl⟩)
    dsimp only [Pt.U, Pt.locs, Pt.cells, Pt.slots] at X22 l22 y22 z22 st22 hQ22
    subst l22 y22 z22
    obtain ⟨a22, t22, rfl, Nq22, Kq22, F22, ge22⟩ := hQ22
    have N22 := Fr.app N21 Nq22
    have z23 := Kq22.1
    have K23 := K0.trans Kq22 all0
    have O23 := O0.keep Kq22 all0
    have CH23 := CH0.trans (CHr.keep Kq22 all0 CH0.1)
    refine own_go st22 ?_
    refine own_gs (cur' := T22.setTop (mkF m 38 #[vi p0, vi p1, vi p2, vi p3, vi (1 : Int32), vi c19, vi c20, vi c21, vr a22, uu] [(.ref a22)])) ?_ ?_
    · refine XS.astore X22.here hx rfl (hb hby at_34) rfl rfl (l' := #[vi p0, vi p1, vi p2, vi p3, vi (1 : Int32), vi c19, vi c20, vi c21, vr a22, uu]) rfl ?_
      refine XS.aload X22.here hx rfl (hb hby at_36) rfl rfl ?_
      exact Steps.refl _
    obtain ⟨_, _, ⟨T24, L24, k24, n24⟩, -, X24, ⟨Lc24, hQ24, l24, y24, z24⟩, st24⟩ := Jvm.LawKit.callS X22 hx (y := own_y46) hown (mvT hZ (tw_ hw 33 rfl)) (mvT hZ (tw_ hw 34 rfl)) (mvT hZ (tw_ hw 35 rfl)) (mvT hZ (tw_ hw 36 rfl)) (by decide) (backOf (W := 0) (own_one1 l Z a0 hW a22 t22 c19 s19 T22.heap n0 (by omega) O23 F22 q19) hZ (tw_ hw 36 rfl) (tw_ hw 35 rfl) (by decide) (by decide)) (g := (mkF m 38 #[vi p0, vi p1, vi p2, vi p3, vi (1 : Int32), vi c19, vi c20, vi c21, vr a22, uu] [(.ref a22)])) rfl (by rw [hml]; rfl) (argsL := [(.ref a22)]) (rest := []) (lenOf pd_35 rfl) rfl (own_le rfl) (hb hby at_38) (fun _ _ => ⟨rfl, rfl, own_le rfl, own_le rfl⟩)
    dsimp only [Pt.U, Pt.locs, Pt.cells, Pt.slots] at X24 l24 y24 z24 st24 hQ24
    subst l24 y24 z24
    obtain ⟨a24, t24, rfl, Nq24, Kq24, F24, ge24⟩ := hQ24
    have N24 := Fr.app N22 Nq24
    have z25 := Kq24.1
    have K25 := K23.trans Kq24 all0
    have O25 := O23.keep Kq24 all0
    have CH25 := CH23.trans (CHr.keep Kq24 all0 CH23.1)
    have ex24 := F24.exa
    have lt24 := F24.lt
    refine own_go st24 ?_
    refine own_gs (cur' := T24.setTop (mkF m 45 #[vi p0, vi p1, vi p2, vi p3, vi (1 : Int32), vi c19, vi c20, vi c21, vr a22, vr a24] [(.ref a24)])) ?_ ?_
    · refine XS.astore X24.here hx rfl (hb hby at_41) rfl rfl (l' := #[vi p0, vi p1, vi p2, vi p3, vi (1 : Int32), vi c19, vi c20, vi c21, vr a22, vr a24]) rfl ?_
      refine XS.aload X24.here hx rfl (hb hby at_43) rfl rfl ?_
      exact Steps.refl _
    obtain ⟨cq26, kq26, q26a, q26b, q26c⟩ := isOf hZ rfl ex24
    obtain ⟨_, _, ⟨T26, L26, k26, n26⟩, -, X26, ⟨Lc26, hQ26, l26, y26, z26⟩, st26⟩ := X24.virtualBack hx (y := own_y47) (z := own_y47) hown (mvT hZ (tw_ hw 155 rfl)) (mvT hZ (tw_ hw 41 rfl)) (notFace_of_selects (args := #[]) (mvT hZ (tw_ hw 43 rfl))) (mvT hZ (tw_ hw 43 rfl)) (mvT hZ (tw_ hw 42 rfl)) (by decide) (own_lenB (W := 0) hZ hw F24 (O2.ext O25.2) P5 (by decide) (by decide)) q26a q26c (g := (mkF m 45 #[vi p0, vi p1, vi p2, vi p3, vi (1 : Int32), vi c19, vi c20, vi c21, vr a22, vr a24] [(.ref a24)])) rfl (by rw [hml]; rfl) (Steps.refl _) (argsL := []) (rest := []) (lenOf pd_23 rfl) rfl (own_le rfl) (hb hby at_45) (fun _ _ => ⟨rfl, rfl, own_le rfl, own_le rfl⟩)
    dsimp only [Pt.U, Pt.locs, Pt.cells, Pt.slots] at X26 l26 y26 z26 st26 hQ26
    subst l26 y26 z26
    obtain ⟨rfl, rfl, eh26⟩ := hQ26
    have N26 := Fr.app N24 (Fr.nil n0)
    refine own_gs st26 ?_
    refine own_gs (cur' := T26.setTop (mkF m 64 #[vi p0, vi p1, vi p2, vi p3, vi (1 : Int32), vi c19, vi c20, vi c21, vr a22, vr a24] [(.int (0 : Int32)), (.ref a24)])) ?_ ?_
    · refine XS.iload X26.here hx rfl (hb hby at_48) rfl ?_
      refine XS.icmpYes X26.here hx rfl (pc0 := 50) (pc' := 55) rfl (hb hby at_50) rfl (teq ((by decide) : (1 : Int32) = (1 : Int32))).1 (by decide) (by decide) ?_
      refine XS.iload X26.here hx rfl (hb hby at_55) rfl ?_
      refine XS.iconst X26.here hx rfl (hb hby at_57) ?_
      refine XS.icmpNo X26.here hx rfl (hb hby at_58) rfl (flt ((by decide) : ¬ ((1 : Int32) < (1 : Int32)))).1 ?_
      refine XS.aload X26.here hx rfl (hb hby at_61) rfl rfl ?_
      refine XS.iconst X26.here hx rfl (hb hby at_63) ?_
      exact Steps.refl _
    obtain ⟨cq27, kq27, q27a, q27b, q27c⟩ := isOf hZ eh26 ex24
    obtain ⟨_, _, ⟨T27, L27, k27, n27⟩, -, X27, ⟨Lc27, hQ27, l27, y27, z27⟩, st27⟩ := X26.virtualBack hx (y := own_y9) (z := own_y9) hown (mvT hZ (tw_ hw 156 rfl)) (mvT hZ (tw_ hw 66 rfl)) (notFace_of_selects (args := #[]) (mvT hZ (tw_ hw 68 rfl))) (mvT hZ (tw_ hw 68 rfl)) (mvT hZ (tw_ hw 67 rfl)) (by decide) (own_chB (W := 0) hZ hW F24 (i := 0) (j := (0 : Int32)) (Nat.le_of_ble_eq_true rfl) rfl (n0 := n0) (by omega) O25 (by decide) (by decide)) q27a q27c (g := (mkF m 64 #[vi p0, vi p1, vi p2, vi p3, vi (1 : Int32), vi c19, vi c20, vi c21, vr a22, vr a24] [(.int (0 : Int32)), (.ref a24)])) rfl (by rw [hml]; rfl) (Steps.refl _) (argsL := [(.int (0 : Int32))]) (rest := []) (lenOf pd_30 rfl) rfl (own_le rfl) (hb hby at_64) (fun _ _ => ⟨rfl, eh26, own_le rfl, own_le rfl⟩)
    dsimp only [Pt.U, Pt.locs, Pt.cells, Pt.slots] at X27 l27 y27 z27 st27 hQ27
    subst l27 y27 z27
    obtain ⟨rfl, Nq27, eh27⟩ := hQ27
    have N27 := Fr.app N26 Nq27
    refine own_gs st27 ?_
    refine own_gs (cur' := T27.setTop (mkF m 69 #[vi p0, vi p1, vi p2, vi p3, vi (1 : Int32), vi c19, vi c20, vi c21, vr a22, vr a24] [(.int c19), (.int s19)])) ?_ ?_
    · refine XS.iload X27.here hx rfl (hb hby at_67) rfl ?_
      exact Steps.refl _
    obtain ⟨_, _, ⟨T28, L28, k28, n28⟩, -, X28, ⟨Lc28, hQ28, l28, y28, z28⟩, st28⟩ := Jvm.LawKit.callS X27 hx (y := own_y44) hown (mvT hZ (tw_ hw 157 rfl)) (mvT hZ (tw_ hw 158 rfl)) (mvT hZ (tw_ hw 2 rfl)) (mvT hZ (tw_ hw 159 rfl)) (by decide) (backOf (W := 1) (own_shn l Z a0 hW c19 s19 T24.heap n0 (by omega) O25 hc19 q19) hZ (tw_ hw 159 rfl) (tw_ hw 2 rfl) (by decide) (by decide)) (g := (mkF m 69 #[vi p0, vi p1, vi p2, vi p3, vi (1 : Int32), vi c19, vi c20, vi c21, vr a22, vr a24] [(.int c19), (.int s19)])) rfl (by rw [hml]; rfl) (argsL := [(.int c19)]) (rest := [(.int s19)]) (lenOf pd_36 rfl) rfl (own_le rfl) (hb hby at_69) (fun _ _ => ⟨rfl, eh27, own_le rfl, own_le rfl⟩)
    dsimp only [Pt.U, Pt.locs, Pt.cells, Pt.slots] at X28 l28 y28 z28 st28 hQ28
    subst l28 y28 z28
    obtain ⟨rfl, Nq28, eh28⟩ := hQ28
    have N28 := Fr.app N27 Nq28
    refine own_go st28 ?_
    refine own_gs (cur' := T28.setTop (mkF m 122 #[vi p0, vi p1, vi p2, vi p3, vi (1 : Int32), vi c19, vi c20, vi c21, vr a22, vr a24] [(.int (1 : Int32))])) ?_ ?_
    · refine XS.icmpYes X28.here hx rfl (pc0 := 72) (pc' := 77) rfl (hb hby at_72) rfl (teq (rfl : s19 = s19)).1 (by decide) (by decide) ?_
      refine XS.iload X28.here hx rfl (hb hby at_77) rfl ?_
      refine XS.iconst X28.here hx rfl (hb hby at_79) ?_
      refine XS.icmpYes X28.here hx rfl (pc0 := 80) (pc' := 99) rfl (hb hby at_80) rfl (tlt ((by decide) : (1 : Int32) < (2 : Int32))).1 (by decide) (by decide) ?_
      refine XS.iload X28.here hx rfl (hb hby at_99) rfl ?_
      refine XS.iconst X28.here hx rfl (hb hby at_101) ?_
      refine XS.icmpYes X28.here hx rfl (pc0 := 102) (pc' := 121) rfl (hb hby at_102) rfl (tlt ((by decide) : (1 : Int32) < (3 : Int32))).1 (by decide) (by decide) ?_
      refine XS.iconst X28.here hx rfl (hb hby at_121) ?_
      exact Steps.refl _
    obtain ⟨fs, hr, hrun, hended, hRE⟩ := X28.leaveW hS0 (show h0.size ≤ T28.heap.size by rw [eh28]; omega) (v := (some (.int (1 : Int32)))) (fun h => by rw [Bd.returns] at h; cases h)
    refine ⟨_, _, retN X28 hx (t := .boolean) Bd.returns (by simp) (hb hby at_122) hr, hrun, hended, _, _, rfl, ?_, ?_, hRE.1, hRE.2.1, hRE.2.2.1, hRE.2.2.2.mono (own_le rfl) (own_le rfl)⟩
    · show own_law_Q Z p0 p1 p2 p3 h0 n0 (some (.int (1 : Int32))) T28.heap _
      rw [eh28]
      exact ⟨rfl, N28⟩
    · have hfin := CH25.trans (CHv.at X28 hZ hEL CH25.1)
      rw [hh]
      show CHr Z own_EL s.vm h0 T28.vm T28.heap
      rw [eh28]
      exact hfin
  · rw [hn]
    show own_Fin p e below (s₁.setTop (mkF m 3 #[vi p0, vi p1, vi p2, vi p3, uu, uu, uu, uu, uu, uu] [(.int (2 : Int32))])) _
    refine own_gs (cur' := s₁.setTop (mkF m 6 #[vi p0, vi p1, vi p2, vi p3, vi (2 : Int32), uu, uu, uu, uu, uu] [(.int p0)])) ?_ ?_
    · refine XS.istore X0.here hx rfl (hb hby at_3) rfl (l' := #[vi p0, vi p1, vi p2, vi p3, vi (2 : Int32), uu, uu, uu, uu, uu]) rfl ?_
      refine XS.iloadN X0.here hx rfl (hb hby at_5) rfl ?_
      exact Steps.refl _
    obtain ⟨_, _, ⟨T29, L29, k29, n29⟩, -, X29, ⟨Lc29, hQ29, l29, y29, z29⟩, st29⟩ := Jvm.LawKit.callS X0 hx (y := own_y45) hown (mvT hZ (tw_ hw 0 rfl)) (mvT hZ (tw_ hw 1 rfl)) (mvT hZ (tw_ hw 2 rfl)) (mvT hZ (tw_ hw 3 rfl)) (by decide) (backOf (W := 0) (own_draw l Z a0 hW p0 h0 n0 (by omega) O0) hZ (tw_ hw 3 rfl) (tw_ hw 2 rfl) (by decide) (by decide)) (g := (mkF m 6 #[vi p0, vi p1, vi p2, vi p3, vi (2 : Int32), uu, uu, uu, uu, uu] [(.int p0)])) rfl (by rw [hml]; rfl) (argsL := [(.int p0)]) (rest := []) (lenOf pd_30 rfl) rfl (own_le rfl) (hb hby at_6) (fun _ _ => ⟨rfl, e0, own_le rfl, own_le rfl⟩)
    dsimp only [Pt.U, Pt.locs, Pt.cells, Pt.slots] at X29 l29 y29 z29 st29 hQ29
    subst l29 y29 z29
    obtain ⟨c29, rfl, hc29, Nq29, eh29⟩ := hQ29
    have N29 := Fr.app N0 Nq29
    obtain ⟨s29, q29⟩ : ∃ s, own_sh c29 = s := ⟨_, rfl⟩
    refine own_go st29 ?_
    refine own_gs (cur' := T29.setTop (mkF m 12 #[vi p0, vi p1, vi p2, vi p3, vi (2 : Int32), vi c29, uu, uu, uu, uu] [(.int p1)])) ?_ ?_
    · refine XS.istore X29.here hx rfl (hb hby at_9) rfl (l' := #[vi p0, vi p1, vi p2, vi p3, vi (2 : Int32), vi c29, uu, uu, uu, uu]) rfl ?_
      refine XS.iloadN X29.here hx rfl (hb hby at_11) rfl ?_
      exact Steps.refl _
    obtain ⟨_, _, ⟨T30, L30, k30, n30⟩, -, X30, ⟨Lc30, hQ30, l30, y30, z30⟩, st30⟩ := Jvm.LawKit.callS X29 hx (y := own_y45) hown (mvT hZ (tw_ hw 0 rfl)) (mvT hZ (tw_ hw 1 rfl)) (mvT hZ (tw_ hw 2 rfl)) (mvT hZ (tw_ hw 3 rfl)) (by decide) (backOf (W := 0) (own_draw l Z a0 hW p1 h0 n0 (by omega) O0) hZ (tw_ hw 3 rfl) (tw_ hw 2 rfl) (by decide) (by decide)) (g := (mkF m 12 #[vi p0, vi p1, vi p2, vi p3, vi (2 : Int32), vi c29, uu, uu, uu, uu] [(.int p1)])) rfl (by rw [hml]; rfl) (argsL := [(.int p1)]) (rest := []) (lenOf pd_30 rfl) rfl (own_le rfl) (hb hby at_12) (fun _ _ => ⟨rfl, eh29, own_le rfl, own_le rfl⟩)
    dsimp only [Pt.U, Pt.locs, Pt.cells, Pt.slots] at X30 l30 y30 z30 st30 hQ30
    subst l30 y30 z30
    obtain ⟨c30, rfl, hc30, Nq30, eh30⟩ := hQ30
    have N30 := Fr.app N29 Nq30
    obtain ⟨s30, q30⟩ : ∃ s, own_sh c30 = s := ⟨_, rfl⟩
    refine own_go st30 ?_
    refine own_gs (cur' := T30.setTop (mkF m 18 #[vi p0, vi p1, vi p2, vi p3, vi (2 : Int32), vi c29, vi c30, uu, uu, uu] [(.int p2)])) ?_ ?_
    · refine XS.istore X30.here hx rfl (hb hby at_15) rfl (l' := #[vi p0, vi p1, vi p2, vi p3, vi (2 : Int32), vi c29, vi c30, uu, uu, uu]) rfl ?_
      refine XS.iloadN X30.here hx rfl (hb hby at_17) rfl ?_
      exact Steps.refl _
    obtain ⟨_, _, ⟨T31, L31, k31, n31⟩, -, X31, ⟨Lc31, hQ31, l31, y31, z31⟩, st31⟩ := Jvm.LawKit.callS X30 hx (y := own_y45) hown (mvT hZ (tw_ hw 0 rfl)) (mvT hZ (tw_ hw 1 rfl)) (mvT hZ (tw_ hw 2 rfl)) (mvT hZ (tw_ hw 3 rfl)) (by decide) (backOf (W := 0) (own_draw l Z a0 hW p2 h0 n0 (by omega) O0) hZ (tw_ hw 3 rfl) (tw_ hw 2 rfl) (by decide) (by decide)) (g := (mkF m 18 #[vi p0, vi p1, vi p2, vi p3, vi (2 : Int32), vi c29, vi c30, uu, uu, uu] [(.int p2)])) rfl (by rw [hml]; rfl) (argsL := [(.int p2)]) (rest := []) (lenOf pd_30 rfl) rfl (own_le rfl) (hb hby at_18) (fun _ _ => ⟨rfl, eh30, own_le rfl, own_le rfl⟩)
    dsimp only [Pt.U, Pt.locs, Pt.cells, Pt.slots] at X31 l31 y31 z31 st31 hQ31
    subst l31 y31 z31
    obtain ⟨c31, rfl, hc31, Nq31, eh31⟩ := hQ31
    have N31 := Fr.app N30 Nq31
    obtain ⟨s31, q31⟩ : ∃ s, own_sh c31 = s := ⟨_, rfl⟩
    refine own_go st31 ?_
    refine own_gs (cur' := T31.setTop (mkF m 31 #[vi p0, vi p1, vi p2, vi p3, vi (2 : Int32), vi c29, vi c30, vi c31, uu, uu] [(.int c31), (.int c30), (.int c29), (.int (2 : Int32))])) ?_ ?_
    · refine XS.istore X31.here hx rfl (hb hby at_21) rfl (l' := #[vi p0, vi p1, vi p2, vi p3, vi (2 : Int32), vi c29, vi c30, vi c31, uu, uu]) rfl ?_
      refine XS.iload X31.here hx rfl (hb hby at_23) rfl ?_
      refine XS.iload X31.here hx rfl (hb hby at_25) rfl ?_
      refine XS.iload X31.here hx rfl (hb hby at_27) rfl ?_
      refine XS.iload X31.here hx rfl (hb hby at_29) rfl ?_
      exact Steps.refl _
    obtain ⟨_, _, ⟨T32, L32, k32, n32⟩, -, X32, ⟨Lc32, hQ32, l32, y32, z32⟩, st32⟩ := Jvm.LawKit.callS X31 hx (y := own_y48) hown (mvT hZ (tw_ hw 4 rfl)) (mvT hZ (tw_ hw 5 rfl)) (mvT hZ (tw_ hw 2 rfl)) (mvT hZ (tw_ hw 6 rfl)) (by decide) (backOf (W := 0) (own_make2 l Z a0 hW c29 c30 c31 h0 n0 (by omega) O0 hc29 hc30 hc31) hZ (tw_ hw 6 rfl) (tw_ hw 2 rfl) (by decide) (by decide)) (g := (mkF m 31 #[vi p0, vi p1, vi p2, vi p3, vi (2 : Int32), vi c29, vi c30, vi c31, uu, uu] [(.int c31), (.int c30), (.int c29), (.int (2 : Int32))])) rfl (by rw [hml]; rfl) (argsL := [(.int (2 : Int32)), (.int c29), (.int c30), (.int c31)]) (rest := []) (lenOf pd_34 rfl) rfl (own_le rfl) (hb hby at_31) (fun _ _ => ⟨rfl, eh31, own_le rfl, own_le rfl⟩)
    dsimp only [Pt.U, Pt.locs, Pt.cells, Pt.slots] at X32 l32 y32 z32 st32 hQ32
    subst l32 y32 z32
    obtain ⟨a32, t32, rfl, Nq32, Kq32, F32, ge32⟩ := hQ32
    have N32 := Fr.app N31 Nq32
    have z33 := Kq32.1
    have K33 := K0.trans Kq32 all0
    have O33 := O0.keep Kq32 all0
    have CH33 := CH0.trans (CHr.keep Kq32 all0 CH0.1)
    refine own_go st32 ?_
    refine own_gs (cur' := T32.setTop (mkF m 38 #[vi p0, vi p1, vi p2, vi p3, vi (2 : Int32), vi c29, vi c30, vi c31, vr a32, uu] [(.ref a32)])) ?_ ?_
    · refine XS.astore X32.here hx rfl (hb hby at_34) rfl rfl (l' := #[vi p0, vi p1, vi p2, vi p3, vi (2 : Int32), vi c29, vi c30, vi c31, vr a32, uu]) rfl ?_
      refine XS.aload X32.here hx rfl (hb hby at_36) rfl rfl ?_
      exact Steps.refl _
    obtain ⟨_, _, ⟨T34, L34, k34, n34⟩, -, X34, ⟨Lc34, hQ34, l34, y34, z34⟩, st34⟩ := Jvm.LawKit.callS X32 hx (y := own_y46) hown (mvT hZ (tw_ hw 33 rfl)) (mvT hZ (tw_ hw 34 rfl)) (mvT hZ (tw_ hw 35 rfl)) (mvT hZ (tw_ hw 36 rfl)) (by decide) (backOf (W := 0) (own_one2 l Z a0 hW a32 t32 c29 c30 s29 s30 T32.heap n0 (by omega) O33 F32 q29 q30) hZ (tw_ hw 36 rfl) (tw_ hw 35 rfl) (by decide) (by decide)) (g := (mkF m 38 #[vi p0, vi p1, vi p2, vi p3, vi (2 : Int32), vi c29, vi c30, vi c31, vr a32, uu] [(.ref a32)])) rfl (by rw [hml]; rfl) (argsL := [(.ref a32)]) (rest := []) (lenOf pd_35 rfl) rfl (own_le rfl) (hb hby at_38) (fun _ _ => ⟨rfl, rfl, own_le rfl, own_le rfl⟩)
    dsimp only [Pt.U, Pt.locs, Pt.cells, Pt.slots] at X34 l34 y34 z34 st34 hQ34
    subst l34 y34 z34
    obtain ⟨a34, t34, rfl, Nq34, Kq34, F34, ge34⟩ := hQ34
    have N34 := Fr.app N32 Nq34
    have z35 := Kq34.1
    have K35 := K33.trans Kq34 all0
    have O35 := O33.keep Kq34 all0
    have CH35 := CH33.trans (CHr.keep Kq34 all0 CH33.1)
    have ex34 := F34.exa
    have lt34 := F34.lt
    refine own_go st34 ?_
    refine own_gs (cur' := T34.setTop (mkF m 45 #[vi p0, vi p1, vi p2, vi p3, vi (2 : Int32), vi c29, vi c30, vi c31, vr a32, vr a34] [(.ref a34)])) ?_ ?_
    · refine XS.astore X34.here hx rfl (hb hby at_41) rfl rfl (l' := #[vi p0, vi p1, vi p2, vi p3, vi (2 : Int32), vi c29, vi c30, vi c31, vr a32, vr a34]) rfl ?_
      refine XS.aload X34.here hx rfl (hb hby at_43) rfl rfl ?_
      exact Steps.refl _
    obtain ⟨cq36, kq36, q36a, q36b, q36c⟩ := isOf hZ rfl ex34
    obtain ⟨_, _, ⟨T36, L36, k36, n36⟩, -, X36, ⟨Lc36, hQ36, l36, y36, z36⟩, st36⟩ := X34.virtualBack hx (y := own_y47) (z := own_y47) hown (mvT hZ (tw_ hw 155 rfl)) (mvT hZ (tw_ hw 41 rfl)) (notFace_of_selects (args := #[]) (mvT hZ (tw_ hw 43 rfl))) (mvT hZ (tw_ hw 43 rfl)) (mvT hZ (tw_ hw 42 rfl)) (by decide) (own_lenB (W := 0) hZ hw F34 (O2.ext O35.2) P5 (by decide) (by decide)) q36a q36c (g := (mkF m 45 #[vi p0, vi p1, vi p2, vi p3, vi (2 : Int32), vi c29, vi c30, vi c31, vr a32, vr a34] [(.ref a34)])) rfl (by rw [hml]; rfl) (Steps.refl _) (argsL := []) (rest := []) (lenOf pd_23 rfl) rfl (own_le rfl) (hb hby at_45) (fun _ _ => ⟨rfl, rfl, own_le rfl, own_le rfl⟩)
    dsimp only [Pt.U, Pt.locs, Pt.cells, Pt.slots] at X36 l36 y36 z36 st36 hQ36
    subst l36 y36 z36
    obtain ⟨rfl, rfl, eh36⟩ := hQ36
    have N36 := Fr.app N34 (Fr.nil n0)
    refine own_gs st36 ?_
    refine own_gs (cur' := T36.setTop (mkF m 64 #[vi p0, vi p1, vi p2, vi p3, vi (2 : Int32), vi c29, vi c30, vi c31, vr a32, vr a34] [(.int (0 : Int32)), (.ref a34)])) ?_ ?_
    · refine XS.iload X36.here hx rfl (hb hby at_48) rfl ?_
      refine XS.icmpYes X36.here hx rfl (pc0 := 50) (pc' := 55) rfl (hb hby at_50) rfl (teq ((by decide) : (2 : Int32) = (2 : Int32))).1 (by decide) (by decide) ?_
      refine XS.iload X36.here hx rfl (hb hby at_55) rfl ?_
      refine XS.iconst X36.here hx rfl (hb hby at_57) ?_
      refine XS.icmpNo X36.here hx rfl (hb hby at_58) rfl (flt ((by decide) : ¬ ((2 : Int32) < (1 : Int32)))).1 ?_
      refine XS.aload X36.here hx rfl (hb hby at_61) rfl rfl ?_
      refine XS.iconst X36.here hx rfl (hb hby at_63) ?_
      exact Steps.refl _
    obtain ⟨cq37, kq37, q37a, q37b, q37c⟩ := isOf hZ eh36 ex34
    obtain ⟨_, _, ⟨T37, L37, k37, n37⟩, -, X37, ⟨Lc37, hQ37, l37, y37, z37⟩, st37⟩ := X36.virtualBack hx (y := own_y9) (z := own_y9) hown (mvT hZ (tw_ hw 156 rfl)) (mvT hZ (tw_ hw 66 rfl)) (notFace_of_selects (args := #[]) (mvT hZ (tw_ hw 68 rfl))) (mvT hZ (tw_ hw 68 rfl)) (mvT hZ (tw_ hw 67 rfl)) (by decide) (own_chB (W := 0) hZ hW F34 (i := 0) (j := (0 : Int32)) (Nat.le_of_ble_eq_true rfl) rfl (n0 := n0) (by omega) O35 (by decide) (by decide)) q37a q37c (g := (mkF m 64 #[vi p0, vi p1, vi p2, vi p3, vi (2 : Int32), vi c29, vi c30, vi c31, vr a32, vr a34] [(.int (0 : Int32)), (.ref a34)])) rfl (by rw [hml]; rfl) (Steps.refl _) (argsL := [(.int (0 : Int32))]) (rest := []) (lenOf pd_30 rfl) rfl (own_le rfl) (hb hby at_64) (fun _ _ => ⟨rfl, eh36, own_le rfl, own_le rfl⟩)
    dsimp only [Pt.U, Pt.locs, Pt.cells, Pt.slots] at X37 l37 y37 z37 st37 hQ37
    subst l37 y37 z37
    obtain ⟨rfl, Nq37, eh37⟩ := hQ37
    have N37 := Fr.app N36 Nq37
    refine own_gs st37 ?_
    refine own_gs (cur' := T37.setTop (mkF m 69 #[vi p0, vi p1, vi p2, vi p3, vi (2 : Int32), vi c29, vi c30, vi c31, vr a32, vr a34] [(.int c29), (.int s29)])) ?_ ?_
    · refine XS.iload X37.here hx rfl (hb hby at_67) rfl ?_
      exact Steps.refl _
    obtain ⟨_, _, ⟨T38, L38, k38, n38⟩, -, X38, ⟨Lc38, hQ38, l38, y38, z38⟩, st38⟩ := Jvm.LawKit.callS X37 hx (y := own_y44) hown (mvT hZ (tw_ hw 157 rfl)) (mvT hZ (tw_ hw 158 rfl)) (mvT hZ (tw_ hw 2 rfl)) (mvT hZ (tw_ hw 159 rfl)) (by decide) (backOf (W := 1) (own_shn l Z a0 hW c29 s29 T34.heap n0 (by omega) O35 hc29 q29) hZ (tw_ hw 159 rfl) (tw_ hw 2 rfl) (by decide) (by decide)) (g := (mkF m 69 #[vi p0, vi p1, vi p2, vi p3, vi (2 : Int32), vi c29, vi c30, vi c31, vr a32, vr a34] [(.int c29), (.int s29)])) rfl (by rw [hml]; rfl) (argsL := [(.int c29)]) (rest := [(.int s29)]) (lenOf pd_36 rfl) rfl (own_le rfl) (hb hby at_69) (fun _ _ => ⟨rfl, eh37, own_le rfl, own_le rfl⟩)
    dsimp only [Pt.U, Pt.locs, Pt.cells, Pt.slots] at X38 l38 y38 z38 st38 hQ38
    subst l38 y38 z38
    obtain ⟨rfl, Nq38, eh38⟩ := hQ38
    have N38 := Fr.app N37 Nq38
    refine own_go st38 ?_
    refine own_gs (cur' := T38.setTop (mkF m 86 #[vi p0, vi p1, vi p2, vi p3, vi (2 : Int32), vi c29, vi c30, vi c31, vr a32, vr a34] [(.int (1 : Int32)), (.ref a34)])) ?_ ?_
    · refine XS.icmpYes X38.here hx rfl (pc0 := 72) (pc' := 77) rfl (hb hby at_72) rfl (teq (rfl : s29 = s29)).1 (by decide) (by decide) ?_
      refine XS.iload X38.here hx rfl (hb hby at_77) rfl ?_
      refine XS.iconst X38.here hx rfl (hb hby at_79) ?_
      refine XS.icmpNo X38.here hx rfl (hb hby at_80) rfl (flt ((by decide) : ¬ ((2 : Int32) < (2 : Int32)))).1 ?_
      refine XS.aload X38.here hx rfl (hb hby at_83) rfl rfl ?_
      refine XS.iconst X38.here hx rfl (hb hby at_85) ?_
      exact Steps.refl _
    obtain ⟨cq39, kq39, q39a, q39b, q39c⟩ := isOf hZ eh38 ex34
    obtain ⟨_, _, ⟨T39, L39, k39, n39⟩, -, X39, ⟨Lc39, hQ39, l39, y39, z39⟩, st39⟩ := X38.virtualBack hx (y := own_y9) (z := own_y9) hown (mvT hZ (tw_ hw 156 rfl)) (mvT hZ (tw_ hw 66 rfl)) (notFace_of_selects (args := #[]) (mvT hZ (tw_ hw 68 rfl))) (mvT hZ (tw_ hw 68 rfl)) (mvT hZ (tw_ hw 67 rfl)) (by decide) (own_chB (W := 0) hZ hW F34 (i := 1) (j := (1 : Int32)) (Nat.le_of_ble_eq_true rfl) rfl (n0 := n0) (by omega) O35 (by decide) (by decide)) q39a q39c (g := (mkF m 86 #[vi p0, vi p1, vi p2, vi p3, vi (2 : Int32), vi c29, vi c30, vi c31, vr a32, vr a34] [(.int (1 : Int32)), (.ref a34)])) rfl (by rw [hml]; rfl) (Steps.refl _) (argsL := [(.int (1 : Int32))]) (rest := []) (lenOf pd_30 rfl) rfl (own_le rfl) (hb hby at_86) (fun _ _ => ⟨rfl, eh38, own_le rfl, own_le rfl⟩)
    dsimp only [Pt.U, Pt.locs, Pt.cells, Pt.slots] at X39 l39 y39 z39 st39 hQ39
    subst l39 y39 z39
    obtain ⟨rfl, Nq39, eh39⟩ := hQ39
    have N39 := Fr.app N38 Nq39
    refine own_gs st39 ?_
    refine own_gs (cur' := T39.setTop (mkF m 91 #[vi p0, vi p1, vi p2, vi p3, vi (2 : Int32), vi c29, vi c30, vi c31, vr a32, vr a34] [(.int c30), (.int s30)])) ?_ ?_
    · refine XS.iload X39.here hx rfl (hb hby at_89) rfl ?_
      exact Steps.refl _
    obtain ⟨_, _, ⟨T40, L40, k40, n40⟩, -, X40, ⟨Lc40, hQ40, l40, y40, z40⟩, st40⟩ := Jvm.LawKit.callS X39 hx (y := own_y44) hown (mvT hZ (tw_ hw 157 rfl)) (mvT hZ (tw_ hw 158 rfl)) (mvT hZ (tw_ hw 2 rfl)) (mvT hZ (tw_ hw 159 rfl)) (by decide) (backOf (W := 1) (own_shn l Z a0 hW c30 s30 T34.heap n0 (by omega) O35 hc30 q30) hZ (tw_ hw 159 rfl) (tw_ hw 2 rfl) (by decide) (by decide)) (g := (mkF m 91 #[vi p0, vi p1, vi p2, vi p3, vi (2 : Int32), vi c29, vi c30, vi c31, vr a32, vr a34] [(.int c30), (.int s30)])) rfl (by rw [hml]; rfl) (argsL := [(.int c30)]) (rest := [(.int s30)]) (lenOf pd_36 rfl) rfl (own_le rfl) (hb hby at_91) (fun _ _ => ⟨rfl, eh39, own_le rfl, own_le rfl⟩)
    dsimp only [Pt.U, Pt.locs, Pt.cells, Pt.slots] at X40 l40 y40 z40 st40 hQ40
    subst l40 y40 z40
    obtain ⟨rfl, Nq40, eh40⟩ := hQ40
    have N40 := Fr.app N39 Nq40
    refine own_go st40 ?_
    refine own_gs (cur' := T40.setTop (mkF m 122 #[vi p0, vi p1, vi p2, vi p3, vi (2 : Int32), vi c29, vi c30, vi c31, vr a32, vr a34] [(.int (1 : Int32))])) ?_ ?_
    · refine XS.icmpYes X40.here hx rfl (pc0 := 94) (pc' := 99) rfl (hb hby at_94) rfl (teq (rfl : s30 = s30)).1 (by decide) (by decide) ?_
      refine XS.iload X40.here hx rfl (hb hby at_99) rfl ?_
      refine XS.iconst X40.here hx rfl (hb hby at_101) ?_
      refine XS.icmpYes X40.here hx rfl (pc0 := 102) (pc' := 121) rfl (hb hby at_102) rfl (tlt ((by decide) : (2 : Int32) < (3 : Int32))).1 (by decide) (by decide) ?_
      refine XS.iconst X40.here hx rfl (hb hby at_121) ?_
      exact Steps.refl _
    obtain ⟨fs, hr, hrun, hended, hRE⟩ := X40.leaveW hS0 (show h0.size ≤ T40.heap.size by rw [eh40]; omega) (v := (some (.int (1 : Int32)))) (fun h => by rw [Bd.returns] at h; cases h)
    refine ⟨_, _, retN X40 hx (t := .boolean) Bd.returns (by simp) (hb hby at_122) hr, hrun, hended, _, _, rfl, ?_, ?_, hRE.1, hRE.2.1, hRE.2.2.1, hRE.2.2.2.mono (own_le rfl) (own_le rfl)⟩
    · show own_law_Q Z p0 p1 p2 p3 h0 n0 (some (.int (1 : Int32))) T40.heap _
      rw [eh40]
      exact ⟨rfl, N40⟩
    · have hfin := CH35.trans (CHv.at X40 hZ hEL CH35.1)
      rw [hh]
      show CHr Z own_EL s.vm h0 T40.vm T40.heap
      rw [eh40]
      exact hfin
  · rw [hn]
    show own_Fin p e below (s₁.setTop (mkF m 3 #[vi p0, vi p1, vi p2, vi p3, uu, uu, uu, uu, uu, uu] [(.int (3 : Int32))])) _
    refine own_gs (cur' := s₁.setTop (mkF m 6 #[vi p0, vi p1, vi p2, vi p3, vi (3 : Int32), uu, uu, uu, uu, uu] [(.int p0)])) ?_ ?_
    · refine XS.istore X0.here hx rfl (hb hby at_3) rfl (l' := #[vi p0, vi p1, vi p2, vi p3, vi (3 : Int32), uu, uu, uu, uu, uu]) rfl ?_
      refine XS.iloadN X0.here hx rfl (hb hby at_5) rfl ?_
      exact Steps.refl _
    obtain ⟨_, _, ⟨T41, L41, k41, n41⟩, -, X41, ⟨Lc41, hQ41, l41, y41, z41⟩, st41⟩ := Jvm.LawKit.callS X0 hx (y := own_y45) hown (mvT hZ (tw_ hw 0 rfl)) (mvT hZ (tw_ hw 1 rfl)) (mvT hZ (tw_ hw 2 rfl)) (mvT hZ (tw_ hw 3 rfl)) (by decide) (backOf (W := 0) (own_draw l Z a0 hW p0 h0 n0 (by omega) O0) hZ (tw_ hw 3 rfl) (tw_ hw 2 rfl) (by decide) (by decide)) (g := (mkF m 6 #[vi p0, vi p1, vi p2, vi p3, vi (3 : Int32), uu, uu, uu, uu, uu] [(.int p0)])) rfl (by rw [hml]; rfl) (argsL := [(.int p0)]) (rest := []) (lenOf pd_30 rfl) rfl (own_le rfl) (hb hby at_6) (fun _ _ => ⟨rfl, e0, own_le rfl, own_le rfl⟩)
    dsimp only [Pt.U, Pt.locs, Pt.cells, Pt.slots] at X41 l41 y41 z41 st41 hQ41
    subst l41 y41 z41
    obtain ⟨c41, rfl, hc41, Nq41, eh41⟩ := hQ41
    have N41 := Fr.app N0 Nq41
    obtain ⟨s41, q41⟩ : ∃ s, own_sh c41 = s := ⟨_, rfl⟩
    refine own_go st41 ?_
    refine own_gs (cur' := T41.setTop (mkF m 12 #[vi p0, vi p1, vi p2, vi p3, vi (3 : Int32), vi c41, uu, uu, uu, uu] [(.int p1)])) ?_ ?_
    · refine XS.istore X41.here hx rfl (hb hby at_9) rfl (l' := #[vi p0, vi p1, vi p2, vi p3, vi (3 : Int32), vi c41, uu, uu, uu, uu]) rfl ?_
      refine XS.iloadN X41.here hx rfl (hb hby at_11) rfl ?_
      exact Steps.refl _
    obtain ⟨_, _, ⟨T42, L42, k42, n42⟩, -, X42, ⟨Lc42, hQ42, l42, y42, z42⟩, st42⟩ := Jvm.LawKit.callS X41 hx (y := own_y45) hown (mvT hZ (tw_ hw 0 rfl)) (mvT hZ (tw_ hw 1 rfl)) (mvT hZ (tw_ hw 2 rfl)) (mvT hZ (tw_ hw 3 rfl)) (by decide) (backOf (W := 0) (own_draw l Z a0 hW p1 h0 n0 (by omega) O0) hZ (tw_ hw 3 rfl) (tw_ hw 2 rfl) (by decide) (by decide)) (g := (mkF m 12 #[vi p0, vi p1, vi p2, vi p3, vi (3 : Int32), vi c41, uu, uu, uu, uu] [(.int p1)])) rfl (by rw [hml]; rfl) (argsL := [(.int p1)]) (rest := []) (lenOf pd_30 rfl) rfl (own_le rfl) (hb hby at_12) (fun _ _ => ⟨rfl, eh41, own_le rfl, own_le rfl⟩)
    dsimp only [Pt.U, Pt.locs, Pt.cells, Pt.slots] at X42 l42 y42 z42 st42 hQ42
    subst l42 y42 z42
    obtain ⟨c42, rfl, hc42, Nq42, eh42⟩ := hQ42
    have N42 := Fr.app N41 Nq42
    obtain ⟨s42, q42⟩ : ∃ s, own_sh c42 = s := ⟨_, rfl⟩
    refine own_go st42 ?_
    refine own_gs (cur' := T42.setTop (mkF m 18 #[vi p0, vi p1, vi p2, vi p3, vi (3 : Int32), vi c41, vi c42, uu, uu, uu] [(.int p2)])) ?_ ?_
    · refine XS.istore X42.here hx rfl (hb hby at_15) rfl (l' := #[vi p0, vi p1, vi p2, vi p3, vi (3 : Int32), vi c41, vi c42, uu, uu, uu]) rfl ?_
      refine XS.iloadN X42.here hx rfl (hb hby at_17) rfl ?_
      exact Steps.refl _
    obtain ⟨_, _, ⟨T43, L43, k43, n43⟩, -, X43, ⟨Lc43, hQ43, l43, y43, z43⟩, st43⟩ := Jvm.LawKit.callS X42 hx (y := own_y45) hown (mvT hZ (tw_ hw 0 rfl)) (mvT hZ (tw_ hw 1 rfl)) (mvT hZ (tw_ hw 2 rfl)) (mvT hZ (tw_ hw 3 rfl)) (by decide) (backOf (W := 0) (own_draw l Z a0 hW p2 h0 n0 (by omega) O0) hZ (tw_ hw 3 rfl) (tw_ hw 2 rfl) (by decide) (by decide)) (g := (mkF m 18 #[vi p0, vi p1, vi p2, vi p3, vi (3 : Int32), vi c41, vi c42, uu, uu, uu] [(.int p2)])) rfl (by rw [hml]; rfl) (argsL := [(.int p2)]) (rest := []) (lenOf pd_30 rfl) rfl (own_le rfl) (hb hby at_18) (fun _ _ => ⟨rfl, eh42, own_le rfl, own_le rfl⟩)
    dsimp only [Pt.U, Pt.locs, Pt.cells, Pt.slots] at X43 l43 y43 z43 st43 hQ43
    subst l43 y43 z43
    obtain ⟨c43, rfl, hc43, Nq43, eh43⟩ := hQ43
    have N43 := Fr.app N42 Nq43
    obtain ⟨s43, q43⟩ : ∃ s, own_sh c43 = s := ⟨_, rfl⟩
    refine own_go st43 ?_
    refine own_gs (cur' := T43.setTop (mkF m 31 #[vi p0, vi p1, vi p2, vi p3, vi (3 : Int32), vi c41, vi c42, vi c43, uu, uu] [(.int c43), (.int c42), (.int c41), (.int (3 : Int32))])) ?_ ?_
    · refine XS.istore X43.here hx rfl (hb hby at_21) rfl (l' := #[vi p0, vi p1, vi p2, vi p3, vi (3 : Int32), vi c41, vi c42, vi c43, uu, uu]) rfl ?_
      refine XS.iload X43.here hx rfl (hb hby at_23) rfl ?_
      refine XS.iload X43.here hx rfl (hb hby at_25) rfl ?_
      refine XS.iload X43.here hx rfl (hb hby at_27) rfl ?_
      refine XS.iload X43.here hx rfl (hb hby at_29) rfl ?_
      exact Steps.refl _
    obtain ⟨_, _, ⟨T44, L44, k44, n44⟩, -, X44, ⟨Lc44, hQ44, l44, y44, z44⟩, st44⟩ := Jvm.LawKit.callS X43 hx (y := own_y48) hown (mvT hZ (tw_ hw 4 rfl)) (mvT hZ (tw_ hw 5 rfl)) (mvT hZ (tw_ hw 2 rfl)) (mvT hZ (tw_ hw 6 rfl)) (by decide) (backOf (W := 0) (own_make3 l Z a0 hW c41 c42 c43 h0 n0 (by omega) O0 hc41 hc42 hc43) hZ (tw_ hw 6 rfl) (tw_ hw 2 rfl) (by decide) (by decide)) (g := (mkF m 31 #[vi p0, vi p1, vi p2, vi p3, vi (3 : Int32), vi c41, vi c42, vi c43, uu, uu] [(.int c43), (.int c42), (.int c41), (.int (3 : Int32))])) rfl (by rw [hml]; rfl) (argsL := [(.int (3 : Int32)), (.int c41), (.int c42), (.int c43)]) (rest := []) (lenOf pd_34 rfl) rfl (own_le rfl) (hb hby at_31) (fun _ _ => ⟨rfl, eh43, own_le rfl, own_le rfl⟩)
    dsimp only [Pt.U, Pt.locs, Pt.cells, Pt.slots] at X44 l44 y44 z44 st44 hQ44
    subst l44 y44 z44
    obtain ⟨a44, t44, rfl, Nq44, Kq44, F44, ge44⟩ := hQ44
    have N44 := Fr.app N43 Nq44
    have z45 := Kq44.1
    have K45 := K0.trans Kq44 all0
    have O45 := O0.keep Kq44 all0
    have CH45 := CH0.trans (CHr.keep Kq44 all0 CH0.1)
    refine own_go st44 ?_
    refine own_gs (cur' := T44.setTop (mkF m 38 #[vi p0, vi p1, vi p2, vi p3, vi (3 : Int32), vi c41, vi c42, vi c43, vr a44, uu] [(.ref a44)])) ?_ ?_
    · refine XS.astore X44.here hx rfl (hb hby at_34) rfl rfl (l' := #[vi p0, vi p1, vi p2, vi p3, vi (3 : Int32), vi c41, vi c42, vi c43, vr a44, uu]) rfl ?_
      refine XS.aload X44.here hx rfl (hb hby at_36) rfl rfl ?_
      exact Steps.refl _
    obtain ⟨_, _, ⟨T46, L46, k46, n46⟩, -, X46, ⟨Lc46, hQ46, l46, y46, z46⟩, st46⟩ := Jvm.LawKit.callS X44 hx (y := own_y46) hown (mvT hZ (tw_ hw 33 rfl)) (mvT hZ (tw_ hw 34 rfl)) (mvT hZ (tw_ hw 35 rfl)) (mvT hZ (tw_ hw 36 rfl)) (by decide) (backOf (W := 0) (own_one3 l Z a0 hW a44 t44 c41 c42 c43 s41 s42 s43 T44.heap n0 (by omega) O45 F44 q41 q42 q43) hZ (tw_ hw 36 rfl) (tw_ hw 35 rfl) (by decide) (by decide)) (g := (mkF m 38 #[vi p0, vi p1, vi p2, vi p3, vi (3 : Int32), vi c41, vi c42, vi c43, vr a44, uu] [(.ref a44)])) rfl (by rw [hml]; rfl) (argsL := [(.ref a44)]) (rest := []) (lenOf pd_35 rfl) rfl (own_le rfl) (hb hby at_38) (fun _ _ => ⟨rfl, rfl, own_le rfl, own_le rfl⟩)
    dsimp only [Pt.U, Pt.locs, Pt.cells, Pt.slots] at X46 l46 y46 z46 st46 hQ46
    subst l46 y46 z46
    obtain ⟨a46, t46, rfl, Nq46, Kq46, F46, ge46⟩ := hQ46
    have N46 := Fr.app N44 Nq46
    have z47 := Kq46.1
    have K47 := K45.trans Kq46 all0
    have O47 := O45.keep Kq46 all0
    have CH47 := CH45.trans (CHr.keep Kq46 all0 CH45.1)
    have ex46 := F46.exa
    have lt46 := F46.lt
    refine own_go st46 ?_
    refine own_gs (cur' := T46.setTop (mkF m 45 #[vi p0, vi p1, vi p2, vi p3, vi (3 : Int32), vi c41, vi c42, vi c43, vr a44, vr a46] [(.ref a46)])) ?_ ?_
    · refine XS.astore X46.here hx rfl (hb hby at_41) rfl rfl (l' := #[vi p0, vi p1, vi p2, vi p3, vi (3 : Int32), vi c41, vi c42, vi c43, vr a44, vr a46]) rfl ?_
      refine XS.aload X46.here hx rfl (hb hby at_43) rfl rfl ?_
      exact Steps.refl _
    obtain ⟨cq48, kq48, q48a, q48b, q48c⟩ := isOf hZ rfl ex46
    obtain ⟨_, _, ⟨T48, L48, k48, n48⟩, -, X48, ⟨Lc48, hQ48, l48, y48, z48⟩, st48⟩ := X46.virtualBack hx (y := own_y47) (z := own_y47) hown (mvT hZ (tw_ hw 155 rfl)) (mvT hZ (tw_ hw 41 rfl)) (notFace_of_selects (args := #[]) (mvT hZ (tw_ hw 43 rfl))) (mvT hZ (tw_ hw 43 rfl)) (mvT hZ (tw_ hw 42 rfl)) (by decide) (own_lenB (W := 0) hZ hw F46 (O2.ext O47.2) P5 (by decide) (by decide)) q48a q48c (g := (mkF m 45 #[vi p0, vi p1, vi p2, vi p3, vi (3 : Int32), vi c41, vi c42, vi c43, vr a44, vr a46] [(.ref a46)])) rfl (by rw [hml]; rfl) (Steps.refl _) (argsL := []) (rest := []) (lenOf pd_23 rfl) rfl (own_le rfl) (hb hby at_45) (fun _ _ => ⟨rfl, rfl, own_le rfl, own_le rfl⟩)
    dsimp only [Pt.U, Pt.locs, Pt.cells, Pt.slots] at X48 l48 y48 z48 st48 hQ48
    subst l48 y48 z48
    obtain ⟨rfl, rfl, eh48⟩ := hQ48
    have N48 := Fr.app N46 (Fr.nil n0)
    refine own_gs st48 ?_
    refine own_gs (cur' := T48.setTop (mkF m 64 #[vi p0, vi p1, vi p2, vi p3, vi (3 : Int32), vi c41, vi c42, vi c43, vr a44, vr a46] [(.int (0 : Int32)), (.ref a46)])) ?_ ?_
    · refine XS.iload X48.here hx rfl (hb hby at_48) rfl ?_
      refine XS.icmpYes X48.here hx rfl (pc0 := 50) (pc' := 55) rfl (hb hby at_50) rfl (teq ((by decide) : (3 : Int32) = (3 : Int32))).1 (by decide) (by decide) ?_
      refine XS.iload X48.here hx rfl (hb hby at_55) rfl ?_
      refine XS.iconst X48.here hx rfl (hb hby at_57) ?_
      refine XS.icmpNo X48.here hx rfl (hb hby at_58) rfl (flt ((by decide) : ¬ ((3 : Int32) < (1 : Int32)))).1 ?_
      refine XS.aload X48.here hx rfl (hb hby at_61) rfl rfl ?_
      refine XS.iconst X48.here hx rfl (hb hby at_63) ?_
      exact Steps.refl _
    obtain ⟨cq49, kq49, q49a, q49b, q49c⟩ := isOf hZ eh48 ex46
    obtain ⟨_, _, ⟨T49, L49, k49, n49⟩, -, X49, ⟨Lc49, hQ49, l49, y49, z49⟩, st49⟩ := X48.virtualBack hx (y := own_y9) (z := own_y9) hown (mvT hZ (tw_ hw 156 rfl)) (mvT hZ (tw_ hw 66 rfl)) (notFace_of_selects (args := #[]) (mvT hZ (tw_ hw 68 rfl))) (mvT hZ (tw_ hw 68 rfl)) (mvT hZ (tw_ hw 67 rfl)) (by decide) (own_chB (W := 0) hZ hW F46 (i := 0) (j := (0 : Int32)) (Nat.le_of_ble_eq_true rfl) rfl (n0 := n0) (by omega) O47 (by decide) (by decide)) q49a q49c (g := (mkF m 64 #[vi p0, vi p1, vi p2, vi p3, vi (3 : Int32), vi c41, vi c42, vi c43, vr a44, vr a46] [(.int (0 : Int32)), (.ref a46)])) rfl (by rw [hml]; rfl) (Steps.refl _) (argsL := [(.int (0 : Int32))]) (rest := []) (lenOf pd_30 rfl) rfl (own_le rfl) (hb hby at_64) (fun _ _ => ⟨rfl, eh48, own_le rfl, own_le rfl⟩)
    dsimp only [Pt.U, Pt.locs, Pt.cells, Pt.slots] at X49 l49 y49 z49 st49 hQ49
    subst l49 y49 z49
    obtain ⟨rfl, Nq49, eh49⟩ := hQ49
    have N49 := Fr.app N48 Nq49
    refine own_gs st49 ?_
    refine own_gs (cur' := T49.setTop (mkF m 69 #[vi p0, vi p1, vi p2, vi p3, vi (3 : Int32), vi c41, vi c42, vi c43, vr a44, vr a46] [(.int c41), (.int s41)])) ?_ ?_
    · refine XS.iload X49.here hx rfl (hb hby at_67) rfl ?_
      exact Steps.refl _
    obtain ⟨_, _, ⟨T50, L50, k50, n50⟩, -, X50, ⟨Lc50, hQ50, l50, y50, z50⟩, st50⟩ := Jvm.LawKit.callS X49 hx (y := own_y44) hown (mvT hZ (tw_ hw 157 rfl)) (mvT hZ (tw_ hw 158 rfl)) (mvT hZ (tw_ hw 2 rfl)) (mvT hZ (tw_ hw 159 rfl)) (by decide) (backOf (W := 1) (own_shn l Z a0 hW c41 s41 T46.heap n0 (by omega) O47 hc41 q41) hZ (tw_ hw 159 rfl) (tw_ hw 2 rfl) (by decide) (by decide)) (g := (mkF m 69 #[vi p0, vi p1, vi p2, vi p3, vi (3 : Int32), vi c41, vi c42, vi c43, vr a44, vr a46] [(.int c41), (.int s41)])) rfl (by rw [hml]; rfl) (argsL := [(.int c41)]) (rest := [(.int s41)]) (lenOf pd_36 rfl) rfl (own_le rfl) (hb hby at_69) (fun _ _ => ⟨rfl, eh49, own_le rfl, own_le rfl⟩)
    dsimp only [Pt.U, Pt.locs, Pt.cells, Pt.slots] at X50 l50 y50 z50 st50 hQ50
    subst l50 y50 z50
    obtain ⟨rfl, Nq50, eh50⟩ := hQ50
    have N50 := Fr.app N49 Nq50
    refine own_go st50 ?_
    refine own_gs (cur' := T50.setTop (mkF m 86 #[vi p0, vi p1, vi p2, vi p3, vi (3 : Int32), vi c41, vi c42, vi c43, vr a44, vr a46] [(.int (1 : Int32)), (.ref a46)])) ?_ ?_
    · refine XS.icmpYes X50.here hx rfl (pc0 := 72) (pc' := 77) rfl (hb hby at_72) rfl (teq (rfl : s41 = s41)).1 (by decide) (by decide) ?_
      refine XS.iload X50.here hx rfl (hb hby at_77) rfl ?_
      refine XS.iconst X50.here hx rfl (hb hby at_79) ?_
      refine XS.icmpNo X50.here hx rfl (hb hby at_80) rfl (flt ((by decide) : ¬ ((3 : Int32) < (2 : Int32)))).1 ?_
      refine XS.aload X50.here hx rfl (hb hby at_83) rfl rfl ?_
      refine XS.iconst X50.here hx rfl (hb hby at_85) ?_
      exact Steps.refl _
    obtain ⟨cq51, kq51, q51a, q51b, q51c⟩ := isOf hZ eh50 ex46
    obtain ⟨_, _, ⟨T51, L51, k51, n51⟩, -, X51, ⟨Lc51, hQ51, l51, y51, z51⟩, st51⟩ := X50.virtualBack hx (y := own_y9) (z := own_y9) hown (mvT hZ (tw_ hw 156 rfl)) (mvT hZ (tw_ hw 66 rfl)) (notFace_of_selects (args := #[]) (mvT hZ (tw_ hw 68 rfl))) (mvT hZ (tw_ hw 68 rfl)) (mvT hZ (tw_ hw 67 rfl)) (by decide) (own_chB (W := 0) hZ hW F46 (i := 1) (j := (1 : Int32)) (Nat.le_of_ble_eq_true rfl) rfl (n0 := n0) (by omega) O47 (by decide) (by decide)) q51a q51c (g := (mkF m 86 #[vi p0, vi p1, vi p2, vi p3, vi (3 : Int32), vi c41, vi c42, vi c43, vr a44, vr a46] [(.int (1 : Int32)), (.ref a46)])) rfl (by rw [hml]; rfl) (Steps.refl _) (argsL := [(.int (1 : Int32))]) (rest := []) (lenOf pd_30 rfl) rfl (own_le rfl) (hb hby at_86) (fun _ _ => ⟨rfl, eh50, own_le rfl, own_le rfl⟩)
    dsimp only [Pt.U, Pt.locs, Pt.cells, Pt.slots] at X51 l51 y51 z51 st51 hQ51
    subst l51 y51 z51
    obtain ⟨rfl, Nq51, eh51⟩ := hQ51
    have N51 := Fr.app N50 Nq51
    refine own_gs st51 ?_
    refine own_gs (cur' := T51.setTop (mkF m 91 #[vi p0, vi p1, vi p2, vi p3, vi (3 : Int32), vi c41, vi c42, vi c43, vr a44, vr a46] [(.int c42), (.int s42)])) ?_ ?_
    · refine XS.iload X51.here hx rfl (hb hby at_89) rfl ?_
      exact Steps.refl _
    obtain ⟨_, _, ⟨T52, L52, k52, n52⟩, -, X52, ⟨Lc52, hQ52, l52, y52, z52⟩, st52⟩ := Jvm.LawKit.callS X51 hx (y := own_y44) hown (mvT hZ (tw_ hw 157 rfl)) (mvT hZ (tw_ hw 158 rfl)) (mvT hZ (tw_ hw 2 rfl)) (mvT hZ (tw_ hw 159 rfl)) (by decide) (backOf (W := 1) (own_shn l Z a0 hW c42 s42 T46.heap n0 (by omega) O47 hc42 q42) hZ (tw_ hw 159 rfl) (tw_ hw 2 rfl) (by decide) (by decide)) (g := (mkF m 91 #[vi p0, vi p1, vi p2, vi p3, vi (3 : Int32), vi c41, vi c42, vi c43, vr a44, vr a46] [(.int c42), (.int s42)])) rfl (by rw [hml]; rfl) (argsL := [(.int c42)]) (rest := [(.int s42)]) (lenOf pd_36 rfl) rfl (own_le rfl) (hb hby at_91) (fun _ _ => ⟨rfl, eh51, own_le rfl, own_le rfl⟩)
    dsimp only [Pt.U, Pt.locs, Pt.cells, Pt.slots] at X52 l52 y52 z52 st52 hQ52
    subst l52 y52 z52
    obtain ⟨rfl, Nq52, eh52⟩ := hQ52
    have N52 := Fr.app N51 Nq52
    refine own_go st52 ?_
    refine own_gs (cur' := T52.setTop (mkF m 108 #[vi p0, vi p1, vi p2, vi p3, vi (3 : Int32), vi c41, vi c42, vi c43, vr a44, vr a46] [(.int (2 : Int32)), (.ref a46)])) ?_ ?_
    · refine XS.icmpYes X52.here hx rfl (pc0 := 94) (pc' := 99) rfl (hb hby at_94) rfl (teq (rfl : s42 = s42)).1 (by decide) (by decide) ?_
      refine XS.iload X52.here hx rfl (hb hby at_99) rfl ?_
      refine XS.iconst X52.here hx rfl (hb hby at_101) ?_
      refine XS.icmpNo X52.here hx rfl (hb hby at_102) rfl (flt ((by decide) : ¬ ((3 : Int32) < (3 : Int32)))).1 ?_
      refine XS.aload X52.here hx rfl (hb hby at_105) rfl rfl ?_
      refine XS.iconst X52.here hx rfl (hb hby at_107) ?_
      exact Steps.refl _
    obtain ⟨cq53, kq53, q53a, q53b, q53c⟩ := isOf hZ eh52 ex46
    obtain ⟨_, _, ⟨T53, L53, k53, n53⟩, -, X53, ⟨Lc53, hQ53, l53, y53, z53⟩, st53⟩ := X52.virtualBack hx (y := own_y9) (z := own_y9) hown (mvT hZ (tw_ hw 156 rfl)) (mvT hZ (tw_ hw 66 rfl)) (notFace_of_selects (args := #[]) (mvT hZ (tw_ hw 68 rfl))) (mvT hZ (tw_ hw 68 rfl)) (mvT hZ (tw_ hw 67 rfl)) (by decide) (own_chB (W := 0) hZ hW F46 (i := 2) (j := (2 : Int32)) (Nat.le_of_ble_eq_true rfl) rfl (n0 := n0) (by omega) O47 (by decide) (by decide)) q53a q53c (g := (mkF m 108 #[vi p0, vi p1, vi p2, vi p3, vi (3 : Int32), vi c41, vi c42, vi c43, vr a44, vr a46] [(.int (2 : Int32)), (.ref a46)])) rfl (by rw [hml]; rfl) (Steps.refl _) (argsL := [(.int (2 : Int32))]) (rest := []) (lenOf pd_30 rfl) rfl (own_le rfl) (hb hby at_108) (fun _ _ => ⟨rfl, eh52, own_le rfl, own_le rfl⟩)
    dsimp only [Pt.U, Pt.locs, Pt.cells, Pt.slots] at X53 l53 y53 z53 st53 hQ53
    subst l53 y53 z53
    obtain ⟨rfl, Nq53, eh53⟩ := hQ53
    have N53 := Fr.app N52 Nq53
    refine own_gs st53 ?_
    refine own_gs (cur' := T53.setTop (mkF m 113 #[vi p0, vi p1, vi p2, vi p3, vi (3 : Int32), vi c41, vi c42, vi c43, vr a44, vr a46] [(.int c43), (.int s43)])) ?_ ?_
    · refine XS.iload X53.here hx rfl (hb hby at_111) rfl ?_
      exact Steps.refl _
    obtain ⟨_, _, ⟨T54, L54, k54, n54⟩, -, X54, ⟨Lc54, hQ54, l54, y54, z54⟩, st54⟩ := Jvm.LawKit.callS X53 hx (y := own_y44) hown (mvT hZ (tw_ hw 157 rfl)) (mvT hZ (tw_ hw 158 rfl)) (mvT hZ (tw_ hw 2 rfl)) (mvT hZ (tw_ hw 159 rfl)) (by decide) (backOf (W := 1) (own_shn l Z a0 hW c43 s43 T46.heap n0 (by omega) O47 hc43 q43) hZ (tw_ hw 159 rfl) (tw_ hw 2 rfl) (by decide) (by decide)) (g := (mkF m 113 #[vi p0, vi p1, vi p2, vi p3, vi (3 : Int32), vi c41, vi c42, vi c43, vr a44, vr a46] [(.int c43), (.int s43)])) rfl (by rw [hml]; rfl) (argsL := [(.int c43)]) (rest := [(.int s43)]) (lenOf pd_36 rfl) rfl (own_le rfl) (hb hby at_113) (fun _ _ => ⟨rfl, eh53, own_le rfl, own_le rfl⟩)
    dsimp only [Pt.U, Pt.locs, Pt.cells, Pt.slots] at X54 l54 y54 z54 st54 hQ54
    subst l54 y54 z54
    obtain ⟨rfl, Nq54, eh54⟩ := hQ54
    have N54 := Fr.app N53 Nq54
    refine own_go st54 ?_
    refine own_gs (cur' := T54.setTop (mkF m 122 #[vi p0, vi p1, vi p2, vi p3, vi (3 : Int32), vi c41, vi c42, vi c43, vr a44, vr a46] [(.int (1 : Int32))])) ?_ ?_
    · refine XS.icmpYes X54.here hx rfl (pc0 := 116) (pc' := 121) rfl (hb hby at_116) rfl (teq (rfl : s43 = s43)).1 (by decide) (by decide) ?_
      refine XS.iconst X54.here hx rfl (hb hby at_121) ?_
      exact Steps.refl _
    obtain ⟨fs, hr, hrun, hended, hRE⟩ := X54.leaveW hS0 (show h0.size ≤ T54.heap.size by rw [eh54]; omega) (v := (some (.int (1 : Int32)))) (fun h => by rw [Bd.returns] at h; cases h)
    refine ⟨_, _, retN X54 hx (t := .boolean) Bd.returns (by simp) (hb hby at_122) hr, hrun, hended, _, _, rfl, ?_, ?_, hRE.1, hRE.2.1, hRE.2.2.1, hRE.2.2.2.mono (own_le rfl) (own_le rfl)⟩
    · show own_law_Q Z p0 p1 p2 p3 h0 n0 (some (.int (1 : Int32))) T54.heap _
      rw [eh54]
      exact ⟨rfl, N54⟩
    · have hfin := CH47.trans (CHv.at X54 hZ hEL CH47.1)
      rw [hh]
      show CHr Z own_EL s.vm h0 T54.vm T54.heap
      rw [eh54]
      exact hfin
set_option maxRecDepth 65536 in
set_option maxHeartbeats 40000000 in
theorem comes_1 {Post : Tables → Env → Array Value → State → Outcome → State → Prop} (hpost : ∀ tb e args s v u, (limb_1_1.after args s (.returned v) u = true ∧ limb_1_2.after args s (.returned v) u = true ∧ True) → ReturnedEndW s (.returned v) u (Jvm.fieldLocs frame_1_writes args s ++ Jvm.arrayLocs frame_1_arrays args s ++ Jvm.staticLocs frame_1_statics s) 32 1216 → Post tb e args s (.returned v) u) :
    ArmFor flags0 classFile x code maxLocals ret World_1 tables_1 room_1 Calls_1 rest_1 Pre_1 Post := by
  intro l hfl _ _ p e ha hc hk s m args below hf hA hF happ hP
  obtain ⟨hcalls, hrest, hpre⟩ := hP
  obtain ⟨-, -, -, hnamed, -, -, -, hat⟩ := (Spec.applies_iff hf).mp happ
  obtain ⟨hg, hn⟩ := and_e (Cond.before_iff.mp (show (Jvm.Cond.and given_1 narrow_1).before args s = true from hpre))
  obtain ⟨ga0, gb0⟩ := and_e hg
  obtain ⟨ga1, gb1⟩ := and_e gb0
  obtain ⟨ga2, gb2⟩ := and_e gb1
  obtain ⟨ga3, gb3⟩ := and_e gb2
  obtain ⟨w0, w1, w2, w3, rfl⟩ : ∃ w0 w1 w2 w3 : Value, args = #[w0, w1, w2, w3] := by
    have hs : args.size = 4 := by simpa [Cond.value, given_1] using ga0
    obtain ⟨L⟩ := args
    match L, hs with
    | [w0, w1, w2, w3], _ => exact ⟨w0, w1, w2, w3, rfl⟩
  have hw := fun d (hd : d ∈ tables_1) => atoms_spec (ws := Jvm.Cond.code x code maxLocals ret :: tables_1) hat d (List.mem_cons_of_mem _ hd)
  obtain ⟨hsets, hown0⟩ := atoms_of _ (rest_1_c_eq ▸ (show rest_1_c.before _ s = true from hrest))
  obtain ⟨i0, ei0⟩ := is_v ga1
  obtain rfl : w0 = (.int i0) := Option.some.inj ei0
  obtain ⟨i1, ei1⟩ := is_v ga2
  obtain rfl : w1 = (.int i1) := Option.some.inj ei1
  obtain ⟨i2, ei2⟩ := is_v ga3
  obtain rfl : w2 = (.int i2) := Option.some.inj ei2
  obtain ⟨i3, ei3⟩ := is_v gb3
  obtain rfl : w3 = (.int i3) := Option.some.inj ei3
  have n5 := not_v (Cond.before_iff.mp (hsets _ (List.mem_of_getElem? (i := 2) rfl)))
  obtain ⟨g11, e10⟩ := is_v (Cond.before_iff.mp (hsets _ (List.mem_of_getElem? (i := 1) rfl)))
  have S12 : Sta s s.heap "java/lang/String" "COMPACT_STRINGS" "Z" (.int g11) := Sta.start e10 (Or.inl (hsets _ (List.mem_of_getElem? (i := 0) rfl)))
  have c17 : ¬ (g11 = (0 : Int32)) := gotF (Cond.eq_ints e10 (Term.int_eval (0))) n5
  obtain ⟨v13, e14, r15⟩ := isR_v (Cond.before_iff.mp (hsets _ (List.mem_of_getElem? (i := 8) rfl)))
  have S16 : Sta s s.heap "jdk/internal/util/Preconditions" "SIOOBE_FORMATTER" "Ljava/util/function/BiFunction;" v13 := Sta.start e14 (Or.inl (hsets _ (List.mem_of_getElem? (i := 7) rfl)))
  have Sa : Sta s s.heap "java/lang/StringUTF16" "$assertionsDisabled" "Z" (.int (1 : Int32)) := Sta.start (eqv_i (Term.int_eval (1)) (Cond.before_iff.mp (hsets _ (List.mem_of_getElem? (i := 12) rfl)))) (Or.inl (hsets _ (List.mem_of_getElem? (i := 11) rfl)))
  have Sh : Sta s s.heap "java/lang/StringUTF16" "HI_BYTE_SHIFT" "I" (.int (0 : Int32)) := Sta.start (eqv_i (Term.int_eval (0)) (Cond.before_iff.mp (hsets _ (List.mem_of_getElem? (i := 15) rfl)))) (Or.inl (hsets _ (List.mem_of_getElem? (i := 14) rfl)))
  have Sl : Sta s s.heap "java/lang/StringUTF16" "LO_BYTE_SHIFT" "I" (.int (8 : Int32)) := Sta.start (eqv_i (Term.int_eval (8)) (Cond.before_iff.mp (hsets _ (List.mem_of_getElem? (i := 18) rfl)))) (Or.inl (hsets _ (List.mem_of_getElem? (i := 17) rfl)))
  have hW : own_W s _ := ⟨hw, ⟨g11, S12, c17⟩, ⟨v13, S16, r15⟩, Sa, Sh, Sl⟩
  have hcw := hsets _ (List.mem_of_getElem? (i := 2) rfl)
  have hCH : CHv s own_EL s.vm s.heap := CHv.start (own_EW hw) (fun q hq => hcalls.1 q (by simpa [own_EL, consts_1] using hq)) hcw (tw_ hw 21 rfl) (tw_ hw 17 rfl)
  obtain ⟨n, o, h1, h2, h3, _, L, rfl, ⟨rfl, N⟩, -, hq⟩ := own_law l s _ hW tables_1 i0 i1 i2 i3 s.heap s.heap.size (Nat.le_refl _) (Old.start s) p e ha hc hk s m _ below hf ((Spec.applies_iff_loose hf).mp happ).1 ⟨rfl, State.Warmed39.refl s, rfl, hCH, all0⟩ trivial
  refine ⟨n, _, h1, h2, h3, hpost _ _ _ _ _ _ ⟨Cond.after_iff.mpr rfl, Cond.after_iff.mpr (eq_i res_at (Term.int_eval (1)) rfl), trivial⟩ ⟨hq.1, hq.2.1, hq.2.2.1, (hq.2.2.2.sift fun y hy => Or.inr (N y hy)).mono (by decide) (by decide)⟩⟩
theorem main_1_1 : Claimed_1_1 := comes_1 fun _ _ _ _ _ _ h hF => ⟨h.1, hF⟩
theorem main_1_2 : Claimed_1_2 := comes_1 fun _ _ _ _ _ _ h hF => ⟨h.2.1, hF⟩
end Jvm.Pilot.@@N@@
namespace Jvm.Pilot.@@N@@
open Jvm Jvm.ClassFile Sem Op Lib Jvm.Free Jvm.Stand Jvm.Pilot.@@N@@.Jvm.D
/-! MADE BY PROGRAM (witnessworld.py) out of the Statement's table words and the real class files: 27 classes; the members and pool entries that the words name. The judged class is class 1, her method 1. -/
namespace start1
open Jvm.ClassFile
def u (s : String) : CpInfo := .utf8 (stringToUtf16 s)
/-- a pool by its gaps: so many unusable entries, then the entry; so many at the end -/
def gap : Nat → List CpInfo → List CpInfo
  | 0, r => r
  | n + 1, r => .unusable :: gap n r
def poolList (es : List (Nat × CpInfo)) (last : Nat) : List CpInfo := es.foldr (fun e r => gap e.1 (e.2 :: r)) (gap last [])
def pool (es : List (Nat × CpInfo)) (last : Nat) : Array CpInfo := ⟨poolList es last⟩
def fileOf (pool : Array CpInfo) (this : Nat) (attrs : Array Attribute := #[]) (ms : Array MethodInfo := #[]) (fl : Nat := 33) (sup : Nat := 0) (ifs : Array Nat := #[]) (fds : Array FieldInfo := #[]) : ClassFile where
  minorVersion := 0
  majorVersion := 65
  constantPool := pool
  accessFlags := fl
  thisClass := this
  superClass := sup
  interfaces := ifs
  fields := fds
  methods := ms
  attributes := attrs
def plain (name : String) (sup : Option ClassId) : Class where
  name := name
  kind := .ordinary
  loader := none
  accessFlags := 33
  super := sup
  interfaces := #[]
  cf := none
  fields := #[]
  methods := #[]
  instanceTypes := #[]
  staticTypes := #[]
  resolved := #[]
  callSites := []
  init := .initialized
  statics := none
  mirror := none

def pool0 : Array CpInfo := pool [(5, u "<init>"), (0, u "()V"), (1, .class_ 10), (1, u "java/lang/Object"), (85, u "clone"), (0, u "()Ljava/lang/Object;")] 26

def k0c0 : Code := { maxStack := 0, maxLocals := 1, code := object_method_1_code, exceptionTable := #[], attributes := #[] }
def k0m0 : Method := { name := "<init>", desc := "()V", sig := { parameters := [], returnType := none }, accessFlags := 1, code := some k0c0 }
def k0m1 : Method := { name := "clone", desc := "()Ljava/lang/Object;", sig := { parameters := [], returnType := some (.object "java/lang/Object") }, accessFlags := 260, code := none }
/-- java/lang/Object -/
def k0 : Class := { plain "java/lang/Object" none with
  accessFlags := 33
  interfaces := #[]
  cf := some (fileOf pool0 8 #[] #[{ accessFlags := 1, nameIndex := 5, descriptorIndex := 6, attributes := #[] }, { accessFlags := 260, nameIndex := 96, descriptorIndex := 97, attributes := #[] }] 33 0 #[] #[])
  fields := #[]
  methods := #[k0m0, k0m1]
  instanceTypes := #[]
  staticTypes := #[]
  resolved := Array.replicate 124 none
  statics := none }

def pool1 : Array CpInfo := pool [(2, .class_ 4), (1, u "java/lang/Object"), (0, u "<init>"), (0, u "()V"), (0, .methodref 8 9), (0, .class_ 10), (0, .nameAndType 11 12), (0, u "com/example/firmhold/firmhold/io/InputRefusedExceptionOneLinePinLaw"), (0, u "draw"), (0, u "(I)C"), (0, .methodref 8 14), (0, .nameAndType 15 16), (0, u "make"), (0, u "(ICCC)Ljava/lang/String;"), (0, .methodref 18 19), (0, .class_ 20), (0, .nameAndType 21 22), (0, u "com/example/firmhold/firmhold/io/InputRefusedException"), (0, u "oneLine"), (0, u "(Ljava/lang/String;)Ljava/lang/String;"), (0, .methodref 24 25), (0, .class_ 26), (0, .nameAndType 27 28), (0, u "java/lang/String"), (0, u "length"), (0, u "()I"), (0, .methodref 24 30), (0, .nameAndType 31 12), (0, u "charAt"), (0, .methodref 8 33), (0, .nameAndType 34 35), (0, u "shown"), (0, u "(C)C"), (0, .integer 65535), (0, .methodref 24 38), (0, .nameAndType 5 39), (0, u "([C)V"), (0, .methodref 24 41), (0, .nameAndType 42 43), (0, u "valueOf"), (0, u "(C)Ljava/lang/String;"), (2, u "law"), (0, u "(IIII)Z")] 3

def k1m0 : Method := { name := "<init>", desc := "()V", sig := { parameters := [], returnType := none }, accessFlags := 1, code := none }
def k1c1 : Code := { maxStack := 4, maxLocals := 10, code := code, exceptionTable := #[], attributes := #[] }
def k1m1 : Method := { name := "law", desc := "(IIII)Z", sig := { parameters := [.int, .int, .int, .int], returnType := some .boolean }, accessFlags := 9, code := some k1c1 }
def k1c2 : Code := { maxStack := 2, maxLocals := 1, code := method_3_code, exceptionTable := #[], attributes := #[] }
def k1m2 : Method := { name := "draw", desc := "(I)C", sig := { parameters := [.int], returnType := some .char }, accessFlags := 10, code := some k1c2 }
def k1c3 : Code := { maxStack := 2, maxLocals := 1, code := method_4_code, exceptionTable := #[], attributes := #[] }
def k1m3 : Method := { name := "shown", desc := "(C)C", sig := { parameters := [.char], returnType := some .char }, accessFlags := 10, code := some k1c3 }
def k1c4 : Code := { maxStack := 3, maxLocals := 5, code := method_5_code, exceptionTable := #[], attributes := #[] }
def k1m4 : Method := { name := "make", desc := "(ICCC)Ljava/lang/String;", sig := { parameters := [.int, .char, .char, .char], returnType := some (.object "java/lang/String") }, accessFlags := 10, code := some k1c4 }
/-- com/example/firmhold/firmhold/io/InputRefusedExceptionOneLinePinLaw -/
def k1 : Class := { plain "com/example/firmhold/firmhold/io/InputRefusedExceptionOneLinePinLaw" (some 0) with
  accessFlags := 49
  interfaces := #[]
  cf := some (fileOf pool1 8 #[] #[{ accessFlags := 1, nameIndex := 5, descriptorIndex := 6, attributes := #[] }, { accessFlags := 9, nameIndex := 46, descriptorIndex := 47, attributes := #[] }, { accessFlags := 10, nameIndex := 11, descriptorIndex := 12, attributes := #[] }, { accessFlags := 10, nameIndex := 34, descriptorIndex := 35, attributes := #[] }, { accessFlags := 10, nameIndex := 15, descriptorIndex := 16, attributes := #[] }] 49 2 #[] #[])
  fields := #[]
  methods := #[k1m0, k1m1, k1m2, k1m3, k1m4]
  instanceTypes := #[]
  staticTypes := #[]
  resolved := Array.replicate 51 none
  statics := none }

def pool2 : Array CpInfo := pool [(1, .class_ 2), (0, u "java/io/Serializable"), (0, .class_ 4), (0, u "java/lang/Object")] 2

/-- java/io/Serializable -/
def k2 : Class := { plain "java/io/Serializable" (some 0) with
  accessFlags := 1537
  interfaces := #[]
  cf := some (fileOf pool2 1 #[] #[] 1537 3 #[] #[])
  fields := #[]
  methods := #[]
  instanceTypes := #[]
  staticTypes := #[]
  resolved := Array.replicate 7 none
  statics := none }

def pool3 : Array CpInfo := pool [(1, .class_ 2), (0, u "java/lang/Comparable"), (0, .class_ 4), (0, u "java/lang/Object")] 7

/-- java/lang/Comparable -/
def k3 : Class := { plain "java/lang/Comparable" (some 0) with
  accessFlags := 1537
  interfaces := #[]
  cf := some (fileOf pool3 1 #[] #[] 1537 3 #[] #[])
  fields := #[]
  methods := #[]
  instanceTypes := #[]
  staticTypes := #[]
  resolved := Array.replicate 12 none
  statics := none }

def pool4 : Array CpInfo := pool [(2, .class_ 4), (1, u "java/lang/CharSequence"), (42, .class_ 48), (0, u "java/lang/CharSequence$1CodePointIterator"), (10, .class_ 60), (0, u "java/lang/CharSequence$1CharIterator"), (5, .class_ 67), (0, u "java/lang/Object")] 63

/-- java/lang/CharSequence -/
def k4 : Class := { plain "java/lang/CharSequence" (some 0) with
  accessFlags := 1537
  interfaces := #[]
  cf := some (fileOf pool4 2 #[.nestMembers #[47, 59]] #[] 1537 66 #[] #[])
  fields := #[]
  methods := #[]
  instanceTypes := #[]
  staticTypes := #[]
  resolved := Array.replicate 131 none
  statics := none }

def pool5 : Array CpInfo := pool [(1, .class_ 2), (0, u "java/lang/constant/Constable"), (0, .class_ 4), (0, u "java/lang/Object")] 6

/-- java/lang/constant/Constable -/
def k5 : Class := { plain "java/lang/constant/Constable" (some 0) with
  accessFlags := 1537
  interfaces := #[]
  cf := some (fileOf pool5 1 #[] #[] 1537 3 #[] #[])
  fields := #[]
  methods := #[]
  instanceTypes := #[]
  staticTypes := #[]
  resolved := Array.replicate 11 none
  statics := none }

def pool6 : Array CpInfo := pool [(1, .class_ 2), (0, u "java/lang/constant/ConstantDesc"), (0, .class_ 4), (0, u "java/lang/Object")] 32

/-- java/lang/constant/ConstantDesc -/
def k6 : Class := { plain "java/lang/constant/ConstantDesc" (some 0) with
  accessFlags := 1537
  interfaces := #[]
  cf := some (fileOf pool6 1 #[] #[] 1537 3 #[] #[])
  fields := #[]
  methods := #[]
  instanceTypes := #[]
  staticTypes := #[]
  resolved := Array.replicate 37 none
  statics := none }

def pool7 : Array CpInfo := pool [(1, .methodref 2 3), (0, .class_ 4), (0, .nameAndType 5 6), (0, u "java/lang/Object"), (0, u "<init>"), (0, u "()V"), (0, .string 8), (0, u ""), (0, .fieldref 10 11), (0, .class_ 12), (0, .nameAndType 13 14), (0, u "java/lang/String"), (0, u "value"), (0, u "[B"), (0, .fieldref 10 16), (0, .nameAndType 17 18), (0, u "coder"), (0, u "B"), (2, u "hash"), (0, u "I"), (2, u "hashIsZero"), (0, u "Z"), (0, .methodref 10 28), (0, .nameAndType 5 29), (0, u "([CIILjava/lang/Void;)V"), (6, u "checkBoundsOffCount"), (0, u "(III)I"), (0, .fieldref 10 39), (0, .nameAndType 40 26), (0, u "COMPACT_STRINGS"), (1, .class_ 44), (1, u "java/lang/StringUTF16"), (0, u "compress"), (1, .methodref 42 48), (0, .nameAndType 49 50), (0, u "coderFromArrayLen"), (0, u "([BI)B"), (2, u "toBytes"), (0, .methodref 55 56), (0, .class_ 57), (0, .nameAndType 58 59), (0, u "java/util/Arrays"), (0, u "copyOfRange"), (0, u "([BII)[B"), (47, .class_ 109), (1, u "java/lang/StringLatin1"), (32, u "()Z"), (34, .methodref 42 178), (0, .nameAndType 45 179), (0, u "([CII)[B"), (29, .methodref 10 210), (0, .nameAndType 5 211), (0, u "([BB)V"), (122, u "()I"), (0, .methodref 10 336), (0, .nameAndType 17 337), (0, u "()B"), (2, u "()[B"), (22, u "([BI)C"), (5, u "(C)Z"), (21, u "(II)V"), (35, u "(I)C"), (61, .methodref 10 490), (0, .nameAndType 5 491), (0, u "(Ljava/lang/AbstractStringBuilder;Ljava/lang/Void;)V"), (0, .methodref 10 493), (0, .nameAndType 494 142), (0, u "isLatin1"), (0, .methodref 107 496), (0, .nameAndType 497 363), (0, u "charAt"), (0, .methodref 42 496), (2, u "checkIndex"), (4, .nameAndType 507 334), (0, u "length"), (41, .methodref 550 506), (0, .class_ 551), (0, u "java/lang/AbstractStringBuilder"), (0, .methodref 550 553), (0, .nameAndType 554 340), (0, u "getValue"), (20, .class_ 576), (0, u "java/lang/CharSequence"), (22, u "CASE_INSENSITIVE_ORDER"), (0, u "Ljava/util/Comparator;"), (181, u "valueOf"), (0, u "(C)Ljava/lang/String;"), (226, u "([C)V"), (4, .methodref 107 1016), (0, .nameAndType 1017 369), (0, u "canEncode"), (0, .methodref 107 1019), (0, .nameAndType 53 1020), (0, u "(C)[B"), (0, .methodref 42 1019), (25, .methodref 550 493), (0, .fieldref 550 1049), (0, .nameAndType 1050 26), (0, u "maybeLatin1"), (2, .fieldref 1054 1055), (0, .class_ 1056), (0, .nameAndType 1057 1058), (0, u "jdk/internal/util/Preconditions"), (0, u "SIOOBE_FORMATTER"), (0, u "Ljava/util/function/BiFunction;"), (0, .methodref 1054 1060), (0, .nameAndType 501 1061), (0, u "(IILjava/util/function/BiFunction;)I"), (2, u "(IIILjava/util/function/BiFunction;)I"), (0, .methodref 1054 1066), (0, .nameAndType 1067 1064), (0, u "checkFromIndexSize"), (33, u "serialPersistentFields"), (0, u "[Ljava/io/ObjectStreamField;"), (0, .class_ 1104), (0, u "java/lang/String$CaseInsensitiveComparator"), (1, .class_ 1107), (0, u "java/io/Serializable"), (0, .class_ 1109), (0, u "java/lang/Comparable"), (0, .class_ 1111), (0, u "java/lang/constant/Constable"), (0, .class_ 1113), (0, u "java/lang/constant/ConstantDesc"), (2, u "serialVersionUID"), (0, u "J"), (3, u "REPL"), (0, u "C"), (2, u "LATIN1"), (1, u "UTF16"), (105, u "(Ljava/lang/StringBuilder;)V")] 217

def k7m0 : Method := { name := "<init>", desc := "()V", sig := { parameters := [], returnType := none }, accessFlags := 1, code := none }
def k7c1 : Code := { maxStack := 5, maxLocals := 2, code := jdk_42_method_3_code, exceptionTable := #[], attributes := #[] }
def k7m1 : Method := { name := "<init>", desc := "([C)V", sig := { parameters := [(.array .char)], returnType := none }, accessFlags := 1, code := some k7c1 }
def k7c2 : Code := { maxStack := 3, maxLocals := 2, code := jdk_42_method_53_code, exceptionTable := #[], attributes := #[] }
def k7m2 : Method := { name := "<init>", desc := "(Ljava/lang/StringBuilder;)V", sig := { parameters := [(.object "java/lang/StringBuilder")], returnType := none }, accessFlags := 1, code := some k7c2 }
def k7c3 : Code := { maxStack := 2, maxLocals := 1, code := jdk_42_method_54_code, exceptionTable := #[], attributes := #[] }
def k7m3 : Method := { name := "length", desc := "()I", sig := { parameters := [], returnType := some .int }, accessFlags := 1, code := some k7c3 }
def k7c4 : Code := { maxStack := 2, maxLocals := 2, code := jdk_42_method_56_code, exceptionTable := #[], attributes := #[] }
def k7m4 : Method := { name := "charAt", desc := "(I)C", sig := { parameters := [.int], returnType := some .char }, accessFlags := 1, code := some k7c4 }
def k7c5 : Code := { maxStack := 4, maxLocals := 1, code := jdk_42_method_139_code, exceptionTable := #[], attributes := #[] }
def k7m5 : Method := { name := "valueOf", desc := "(C)Ljava/lang/String;", sig := { parameters := [.char], returnType := some (.object "java/lang/String") }, accessFlags := 9, code := some k7c5 }
def k7c6 : Code := { maxStack := 4, maxLocals := 6, code := jdk_42_method_149_code, exceptionTable := #[], attributes := #[] }
def k7m6 : Method := { name := "<init>", desc := "([CIILjava/lang/Void;)V", sig := { parameters := [(.array .char), .int, .int, (.object "java/lang/Void")], returnType := none }, accessFlags := 2, code := some k7c6 }
def k7c7 : Code := { maxStack := 5, maxLocals := 5, code := jdk_42_method_150_code, exceptionTable := #[], attributes := #[] }
def k7m7 : Method := { name := "<init>", desc := "(Ljava/lang/AbstractStringBuilder;Ljava/lang/Void;)V", sig := { parameters := [(.object "java/lang/AbstractStringBuilder"), (.object "java/lang/Void")], returnType := none }, accessFlags := 0, code := some k7c7 }
def k7c8 : Code := { maxStack := 2, maxLocals := 3, code := jdk_42_method_151_code, exceptionTable := #[], attributes := #[] }
def k7m8 : Method := { name := "<init>", desc := "([BB)V", sig := { parameters := [(.array .byte), .byte], returnType := none }, accessFlags := 0, code := some k7c8 }
def k7c9 : Code := { maxStack := 1, maxLocals := 1, code := jdk_42_method_152_code, exceptionTable := #[], attributes := #[] }
def k7m9 : Method := { name := "coder", desc := "()B", sig := { parameters := [], returnType := some .byte }, accessFlags := 0, code := some k7c9 }
def k7c10 : Code := { maxStack := 1, maxLocals := 1, code := jdk_42_method_154_code, exceptionTable := #[], attributes := #[] }
def k7m10 : Method := { name := "isLatin1", desc := "()Z", sig := { parameters := [], returnType := some .boolean }, accessFlags := 0, code := some k7c10 }
def k7c11 : Code := { maxStack := 3, maxLocals := 2, code := jdk_42_method_155_code, exceptionTable := #[], attributes := #[] }
def k7m11 : Method := { name := "checkIndex", desc := "(II)V", sig := { parameters := [.int, .int], returnType := none }, accessFlags := 8, code := some k7c11 }
def k7c12 : Code := { maxStack := 4, maxLocals := 3, code := jdk_42_method_157_code, exceptionTable := #[], attributes := #[] }
def k7m12 : Method := { name := "checkBoundsOffCount", desc := "(III)I", sig := { parameters := [.int, .int, .int], returnType := some .int }, accessFlags := 8, code := some k7c12 }
/-- java/lang/String -/
def k7 : Class := { plain "java/lang/String" (some 0) with
  accessFlags := 49
  interfaces := #[2, 3, 4, 5, 6]
  cf := some (fileOf pool7 10 #[.nestMembers #[1103]] #[{ accessFlags := 1, nameIndex := 5, descriptorIndex := 6, attributes := #[] }, { accessFlags := 1, nameIndex := 5, descriptorIndex := 1010, attributes := #[] }, { accessFlags := 1, nameIndex := 5, descriptorIndex := 1233, attributes := #[] }, { accessFlags := 1, nameIndex := 507, descriptorIndex := 334, attributes := #[] }, { accessFlags := 1, nameIndex := 497, descriptorIndex := 427, attributes := #[] }, { accessFlags := 9, nameIndex := 782, descriptorIndex := 783, attributes := #[] }, { accessFlags := 2, nameIndex := 5, descriptorIndex := 29, attributes := #[] }, { accessFlags := 0, nameIndex := 5, descriptorIndex := 491, attributes := #[] }, { accessFlags := 0, nameIndex := 5, descriptorIndex := 211, attributes := #[] }, { accessFlags := 0, nameIndex := 17, descriptorIndex := 337, attributes := #[] }, { accessFlags := 0, nameIndex := 494, descriptorIndex := 142, attributes := #[] }, { accessFlags := 8, nameIndex := 501, descriptorIndex := 391, attributes := #[] }, { accessFlags := 8, nameIndex := 36, descriptorIndex := 37, attributes := #[] }] 49 2 #[1106, 1108, 575, 1110, 1112] #[{ accessFlags := 18, nameIndex := 13, descriptorIndex := 14, attributes := #[] }, { accessFlags := 18, nameIndex := 17, descriptorIndex := 18, attributes := #[] }, { accessFlags := 2, nameIndex := 21, descriptorIndex := 22, attributes := #[] }, { accessFlags := 2, nameIndex := 25, descriptorIndex := 26, attributes := #[] }, { accessFlags := 26, nameIndex := 1116, descriptorIndex := 1117, attributes := #[] }, { accessFlags := 24, nameIndex := 40, descriptorIndex := 26, attributes := #[] }, { accessFlags := 26, nameIndex := 1101, descriptorIndex := 1102, attributes := #[] }, { accessFlags := 26, nameIndex := 1121, descriptorIndex := 1122, attributes := #[] }, { accessFlags := 25, nameIndex := 599, descriptorIndex := 600, attributes := #[] }, { accessFlags := 24, nameIndex := 1125, descriptorIndex := 18, attributes := #[] }, { accessFlags := 24, nameIndex := 1127, descriptorIndex := 18, attributes := #[] }])
  fields := #[{ name := "value", type := (.array .byte), accessFlags := 18, slot := 0, constantValue := 0 }, { name := "coder", type := .byte, accessFlags := 18, slot := 1, constantValue := 0 }, { name := "hash", type := .int, accessFlags := 2, slot := 2, constantValue := 0 }, { name := "hashIsZero", type := .boolean, accessFlags := 2, slot := 3, constantValue := 0 }, { name := "serialVersionUID", type := .long, accessFlags := 26, slot := 0, constantValue := 0 }, { name := "COMPACT_STRINGS", type := .boolean, accessFlags := 24, slot := 1, constantValue := 0 }, { name := "serialPersistentFields", type := (.array (.object "java/io/ObjectStreamField")), accessFlags := 26, slot := 2, constantValue := 0 }, { name := "REPL", type := .char, accessFlags := 26, slot := 3, constantValue := 0 }, { name := "CASE_INSENSITIVE_ORDER", type := (.object "java/util/Comparator"), accessFlags := 25, slot := 4, constantValue := 0 }, { name := "LATIN1", type := .byte, accessFlags := 24, slot := 5, constantValue := 0 }, { name := "UTF16", type := .byte, accessFlags := 24, slot := 6, constantValue := 0 }]
  methods := #[k7m0, k7m1, k7m2, k7m3, k7m4, k7m5, k7m6, k7m7, k7m8, k7m9, k7m10, k7m11, k7m12]
  instanceTypes := #[(.array .byte), .byte, .int, .boolean]
  staticTypes := #[.long, .boolean, (.array (.object "java/io/ObjectStreamField")), .char, (.object "java/util/Comparator"), .byte, .byte]
  resolved := Array.replicate 1451 none
  statics := some 0 }

def pool8 : Array CpInfo := pool [(1, .class_ 2), (0, u "java/lang/String"), (1, .class_ 6), (1, u "java/lang/Object"), (0, u "<init>"), (0, u "()V"), (0, .methodref 1 10), (0, .nameAndType 11 12), (0, u "checkIndex"), (0, u "(II)V"), (1, .class_ 16), (1, u "java/lang/StringLatin1"), (0, u "inflate"), (2, .class_ 22), (1, u "java/lang/StringUTF16"), (3, .nameAndType 17 27), (0, u "([BI[BII)V"), (25, u "([BI)C"), (36, u "canEncode"), (14, u "(C)Z"), (15, u "$assertionsDisabled"), (0, u "Z"), (98, .class_ 223), (1, u "java/lang/StringLatin1$LinesSpliterator"), (16, .methodref 20 26), (11, u "charAt"), (127, u "toBytes"), (1, u "(C)[B"), (7, .class_ 391), (0, u "java/lang/StringLatin1$CharsSpliterator")] 3

def k8m0 : Method := { name := "<init>", desc := "()V", sig := { parameters := [], returnType := none }, accessFlags := 0, code := none }
def k8c1 : Code := { maxStack := 2, maxLocals := 2, code := jdk_43_method_2_code, exceptionTable := #[], attributes := #[] }
def k8m1 : Method := { name := "charAt", desc := "([BI)C", sig := { parameters := [(.array .byte), .int], returnType := some .char }, accessFlags := 9, code := some k8c1 }
def k8c2 : Code := { maxStack := 2, maxLocals := 1, code := jdk_43_method_3_code, exceptionTable := #[], attributes := #[] }
def k8m2 : Method := { name := "canEncode", desc := "(C)Z", sig := { parameters := [.char], returnType := some .boolean }, accessFlags := 9, code := some k8c2 }
def k8c3 : Code := { maxStack := 4, maxLocals := 1, code := jdk_43_method_46_code, exceptionTable := #[], attributes := #[] }
def k8m3 : Method := { name := "toBytes", desc := "(C)[B", sig := { parameters := [.char], returnType := some (.array .byte) }, accessFlags := 9, code := some k8c3 }
def k8c4 : Code := { maxStack := 5, maxLocals := 5, code := jdk_43_method_50_code, exceptionTable := #[], attributes := #[] }
def k8m4 : Method := { name := "inflate", desc := "([BI[BII)V", sig := { parameters := [(.array .byte), .int, (.array .byte), .int, .int], returnType := none }, accessFlags := 9, code := some k8c4 }
/-- java/lang/StringLatin1 -/
def k8 : Class := { plain "java/lang/StringLatin1" (some 0) with
  accessFlags := 48
  interfaces := #[]
  cf := some (fileOf pool8 14 #[.nestMembers #[390, 221]] #[{ accessFlags := 0, nameIndex := 7, descriptorIndex := 8, attributes := #[] }, { accessFlags := 9, nameIndex := 252, descriptorIndex := 53, attributes := #[] }, { accessFlags := 9, nameIndex := 90, descriptorIndex := 105, attributes := #[] }, { accessFlags := 9, nameIndex := 380, descriptorIndex := 382, attributes := #[] }, { accessFlags := 9, nameIndex := 17, descriptorIndex := 27, attributes := #[] }] 48 4 #[] #[{ accessFlags := 4120, nameIndex := 121, descriptorIndex := 122, attributes := #[] }])
  fields := #[{ name := "$assertionsDisabled", type := .boolean, accessFlags := 4120, slot := 0, constantValue := 0 }]
  methods := #[k8m0, k8m1, k8m2, k8m3, k8m4]
  instanceTypes := #[]
  staticTypes := #[.boolean]
  resolved := Array.replicate 395 none
  statics := none }

def pool9 : Array CpInfo := pool [(2, .class_ 4), (1, u "java/lang/Object"), (0, u "<init>"), (0, u "()V"), (1, .class_ 10), (1, u "java/lang/Throwable"), (0, u "cause"), (0, u "Ljava/lang/Throwable;"), (2, u "UNASSIGNED_STACK"), (0, u "[Ljava/lang/StackTraceElement;"), (2, u "stackTrace"), (2, u "SUPPRESSED_SENTINEL"), (0, u "Ljava/util/List;"), (2, u "suppressedExceptions"), (6, u "detailMessage"), (0, u "Ljava/lang/String;"), (58, .class_ 94), (0, u "java/lang/Throwable$WrappedPrintStream"), (6, .class_ 103), (1, u "java/lang/Throwable$PrintStreamOrWriter"), (61, u "$assertionsDisabled"), (0, u "Z"), (26, .class_ 194), (0, u "java/lang/Throwable$WrappedPrintWriter"), (5, u "backtrace"), (0, u "Ljava/lang/Object;"), (9, u "depth"), (0, u "I"), (56, .class_ 271), (1, u "java/lang/Throwable$SentinelHolder"), (32, u "EMPTY_THROWABLE_ARRAY"), (0, u "[Ljava/lang/Throwable;"), (12, .class_ 319), (0, u "java/io/Serializable"), (0, u "serialVersionUID"), (0, u "J"), (5, u "NULL_CAUSE_MESSAGE"), (0, u "SELF_SUPPRESSION_MESSAGE"), (0, u "CAUSE_CAPTION"), (0, u "SUPPRESSED_CAPTION")] 73

def k9m0 : Method := { name := "<init>", desc := "()V", sig := { parameters := [], returnType := none }, accessFlags := 1, code := none }
/-- java/lang/Throwable -/
def k9 : Class := { plain "java/lang/Throwable" (some 0) with
  accessFlags := 33
  interfaces := #[2]
  cf := some (fileOf pool9 8 #[.nestMembers #[193, 93, 101, 269]] #[{ accessFlags := 1, nameIndex := 5, descriptorIndex := 6, attributes := #[] }] 33 2 #[318] #[{ accessFlags := 26, nameIndex := 320, descriptorIndex := 321, attributes := #[] }, { accessFlags := 130, nameIndex := 200, descriptorIndex := 201, attributes := #[] }, { accessFlags := 2, nameIndex := 33, descriptorIndex := 34, attributes := #[] }, { accessFlags := 26, nameIndex := 15, descriptorIndex := 16, attributes := #[] }, { accessFlags := 2, nameIndex := 11, descriptorIndex := 12, attributes := #[] }, { accessFlags := 2, nameIndex := 19, descriptorIndex := 16, attributes := #[] }, { accessFlags := 130, nameIndex := 211, descriptorIndex := 212, attributes := #[] }, { accessFlags := 26, nameIndex := 22, descriptorIndex := 23, attributes := #[] }, { accessFlags := 2, nameIndex := 26, descriptorIndex := 23, attributes := #[] }, { accessFlags := 26, nameIndex := 327, descriptorIndex := 34, attributes := #[] }, { accessFlags := 26, nameIndex := 328, descriptorIndex := 34, attributes := #[] }, { accessFlags := 26, nameIndex := 329, descriptorIndex := 34, attributes := #[] }, { accessFlags := 26, nameIndex := 330, descriptorIndex := 34, attributes := #[] }, { accessFlags := 26, nameIndex := 304, descriptorIndex := 305, attributes := #[] }, { accessFlags := 4120, nameIndex := 165, descriptorIndex := 166, attributes := #[] }])
  fields := #[{ name := "serialVersionUID", type := .long, accessFlags := 26, slot := 0, constantValue := 0 }, { name := "backtrace", type := (.object "java/lang/Object"), accessFlags := 130, slot := 0, constantValue := 0 }, { name := "detailMessage", type := (.object "java/lang/String"), accessFlags := 2, slot := 1, constantValue := 0 }, { name := "UNASSIGNED_STACK", type := (.array (.object "java/lang/StackTraceElement")), accessFlags := 26, slot := 1, constantValue := 0 }, { name := "cause", type := (.object "java/lang/Throwable"), accessFlags := 2, slot := 2, constantValue := 0 }, { name := "stackTrace", type := (.array (.object "java/lang/StackTraceElement")), accessFlags := 2, slot := 3, constantValue := 0 }, { name := "depth", type := .int, accessFlags := 130, slot := 4, constantValue := 0 }, { name := "SUPPRESSED_SENTINEL", type := (.object "java/util/List"), accessFlags := 26, slot := 2, constantValue := 0 }, { name := "suppressedExceptions", type := (.object "java/util/List"), accessFlags := 2, slot := 5, constantValue := 0 }, { name := "NULL_CAUSE_MESSAGE", type := (.object "java/lang/String"), accessFlags := 26, slot := 3, constantValue := 0 }, { name := "SELF_SUPPRESSION_MESSAGE", type := (.object "java/lang/String"), accessFlags := 26, slot := 4, constantValue := 0 }, { name := "CAUSE_CAPTION", type := (.object "java/lang/String"), accessFlags := 26, slot := 5, constantValue := 0 }, { name := "SUPPRESSED_CAPTION", type := (.object "java/lang/String"), accessFlags := 26, slot := 6, constantValue := 0 }, { name := "EMPTY_THROWABLE_ARRAY", type := (.array (.object "java/lang/Throwable")), accessFlags := 26, slot := 7, constantValue := 0 }, { name := "$assertionsDisabled", type := .boolean, accessFlags := 4120, slot := 8, constantValue := 0 }]
  methods := #[k9m0]
  instanceTypes := #[(.object "java/lang/Object"), (.object "java/lang/String"), (.object "java/lang/Throwable"), (.array (.object "java/lang/StackTraceElement")), .int, (.object "java/util/List")]
  staticTypes := #[.long, (.array (.object "java/lang/StackTraceElement")), (.object "java/util/List"), (.object "java/lang/String"), (.object "java/lang/String"), (.object "java/lang/String"), (.object "java/lang/String"), (.array (.object "java/lang/Throwable")), .boolean]
  resolved := Array.replicate 404 none
  statics := none }

def pool10 : Array CpInfo := pool [(2, .class_ 4), (1, u "java/lang/Throwable"), (0, u "<init>"), (0, u "()V"), (12, .class_ 20), (0, u "java/lang/Exception"), (0, u "serialVersionUID"), (0, u "J")] 17

def k10m0 : Method := { name := "<init>", desc := "()V", sig := { parameters := [], returnType := none }, accessFlags := 1, code := none }
/-- java/lang/Exception -/
def k10 : Class := { plain "java/lang/Exception" (some 9) with
  accessFlags := 33
  interfaces := #[]
  cf := some (fileOf pool10 19 #[] #[{ accessFlags := 1, nameIndex := 5, descriptorIndex := 6, attributes := #[] }] 33 2 #[] #[{ accessFlags := 24, nameIndex := 21, descriptorIndex := 22, attributes := #[] }])
  fields := #[{ name := "serialVersionUID", type := .long, accessFlags := 24, slot := 0, constantValue := 0 }]
  methods := #[k10m0]
  instanceTypes := #[(.object "java/lang/Object"), (.object "java/lang/String"), (.object "java/lang/Throwable"), (.array (.object "java/lang/StackTraceElement")), .int, (.object "java/util/List")]
  staticTypes := #[.long]
  resolved := Array.replicate 40 none
  statics := none }

def pool11 : Array CpInfo := pool [(2, .class_ 4), (1, u "com/example/firmhold/firmhold/io/InputRefusedException"), (0, u "oneLine"), (0, u "(Ljava/lang/String;)Ljava/lang/String;"), (5, .class_ 14), (1, u "java/lang/Exception"), (0, u "<init>"), (1, .class_ 18), (0, u "java/lang/StringBuilder"), (0, .methodref 20 21), (0, .class_ 22), (0, .nameAndType 23 24), (0, u "java/lang/String"), (0, u "length"), (0, u "()I"), (0, .methodref 17 26), (0, .nameAndType 15 27), (0, u "(I)V"), (0, .methodref 20 29), (0, .nameAndType 30 31), (0, u "charAt"), (0, u "(I)C"), (0, .methodref 33 34), (0, .class_ 35), (0, .nameAndType 36 37), (0, u "java/lang/Character"), (0, u "isISOControl"), (0, u "(C)Z"), (0, .methodref 17 39), (0, .nameAndType 40 41), (0, u "append"), (0, u "(C)Ljava/lang/StringBuilder;"), (0, .methodref 17 43), (0, .nameAndType 44 45), (0, u "toString"), (0, u "()Ljava/lang/String;"), (0, u "serialVersionUID"), (0, u "J")] 24

def k11c0 : Code := { maxStack := 3, maxLocals := 4, code := prog_71_method_2_code, exceptionTable := #[], attributes := #[] }
def k11m0 : Method := { name := "oneLine", desc := "(Ljava/lang/String;)Ljava/lang/String;", sig := { parameters := [(.object "java/lang/String")], returnType := some (.object "java/lang/String") }, accessFlags := 8, code := some k11c0 }
/-- com/example/firmhold/firmhold/io/InputRefusedException -/
def k11 : Class := { plain "com/example/firmhold/firmhold/io/InputRefusedException" (some 10) with
  accessFlags := 49
  interfaces := #[]
  cf := some (fileOf pool11 2 #[] #[{ accessFlags := 8, nameIndex := 5, descriptorIndex := 6, attributes := #[] }] 49 12 #[] #[{ accessFlags := 26, nameIndex := 46, descriptorIndex := 47, attributes := #[] }])
  fields := #[{ name := "serialVersionUID", type := .long, accessFlags := 26, slot := 0, constantValue := 0 }]
  methods := #[k11m0]
  instanceTypes := #[(.object "java/lang/Object"), (.object "java/lang/String"), (.object "java/lang/Throwable"), (.array (.object "java/lang/StackTraceElement")), .int, (.object "java/util/List")]
  staticTypes := #[.long]
  resolved := Array.replicate 72 none
  statics := none }

def pool12 : Array CpInfo := pool [(1, .class_ 2), (0, u "java/lang/Appendable"), (0, .class_ 4), (0, u "java/lang/Object")] 9

/-- java/lang/Appendable -/
def k12 : Class := { plain "java/lang/Appendable" (some 0) with
  accessFlags := 1537
  interfaces := #[]
  cf := some (fileOf pool12 1 #[] #[] 1537 3 #[] #[])
  fields := #[]
  methods := #[]
  instanceTypes := #[]
  staticTypes := #[]
  resolved := Array.replicate 14 none
  statics := none }

def pool13 : Array CpInfo := pool [(1, .class_ 2), (0, u "java/lang/String"), (0, .methodref 4 5), (0, .class_ 6), (0, .nameAndType 7 8), (0, u "java/lang/Object"), (0, u "<init>"), (0, u "()V"), (1, .class_ 12), (1, u "java/lang/AbstractStringBuilder"), (0, u "EMPTYVALUE"), (0, u "[B"), (0, .fieldref 10 16), (0, .nameAndType 17 14), (0, u "value"), (0, .fieldref 1 19), (0, .nameAndType 20 21), (0, u "COMPACT_STRINGS"), (0, u "Z"), (0, .fieldref 10 23), (0, .nameAndType 24 25), (0, u "coder"), (0, u "B"), (0, .methodref 27 28), (0, .class_ 29), (0, .nameAndType 30 31), (0, u "java/lang/StringUTF16"), (0, u "newBytesFor"), (0, u "(I)[B"), (2, u "length"), (0, u "()I"), (9, u "append"), (2, .class_ 49), (0, u "java/lang/CharSequence"), (25, u "maybeLatin1"), (3, .fieldref 10 80), (0, .nameAndType 81 82), (0, u "count"), (0, u "I"), (0, .methodref 10 84), (0, .nameAndType 85 86), (0, u "isLatin1"), (0, u "()Z"), (1, .class_ 90), (1, u "java/lang/StringLatin1"), (9, .methodref 10 101), (0, .nameAndType 102 103), (0, u "ensureCapacityInternal"), (0, u "(I)V"), (21, .methodref 88 126), (0, .nameAndType 127 128), (0, u "inflate"), (0, u "([BI[BII)V"), (7, u "([BII)V"), (54, .methodref 88 192), (0, .nameAndType 193 194), (0, u "canEncode"), (0, u "(C)Z"), (0, .methodref 10 196), (0, .nameAndType 127 8), (0, .methodref 27 198), (0, .nameAndType 199 136), (0, u "putCharSB"), (92, u "(C)Ljava/lang/AbstractStringBuilder;"), (110, u "()[B"), (40, .class_ 445), (0, u "java/lang/Appendable"), (106, u "getValue")] 56

def k13m0 : Method := { name := "<init>", desc := "()V", sig := { parameters := [], returnType := none }, accessFlags := 0, code := none }
def k13c1 : Code := { maxStack := 2, maxLocals := 2, code := jdk_68_method_2_code, exceptionTable := #[], attributes := #[] }
def k13m1 : Method := { name := "<init>", desc := "(I)V", sig := { parameters := [.int], returnType := none }, accessFlags := 0, code := some k13c1 }
def k13c2 : Code := { maxStack := 1, maxLocals := 1, code := jdk_68_method_6_code, exceptionTable := #[], attributes := #[] }
def k13m2 : Method := { name := "length", desc := "()I", sig := { parameters := [], returnType := some .int }, accessFlags := 1, code := some k13c2 }
def k13c3 : Code := { maxStack := 4, maxLocals := 3, code := jdk_68_method_9_code, exceptionTable := #[], attributes := #[] }
def k13m3 : Method := { name := "ensureCapacityInternal", desc := "(I)V", sig := { parameters := [.int], returnType := none }, accessFlags := 2, code := some k13c3 }
def k13c4 : Code := { maxStack := 5, maxLocals := 2, code := jdk_68_method_11_code, exceptionTable := #[], attributes := #[] }
def k13m4 : Method := { name := "inflate", desc := "()V", sig := { parameters := [], returnType := none }, accessFlags := 2, code := some k13c4 }
def k13c5 : Code := { maxStack := 5, maxLocals := 2, code := jdk_68_method_31_code, exceptionTable := #[], attributes := #[] }
def k13m5 : Method := { name := "append", desc := "(C)Ljava/lang/AbstractStringBuilder;", sig := { parameters := [.char], returnType := some (.object "java/lang/AbstractStringBuilder") }, accessFlags := 1, code := some k13c5 }
def k13c6 : Code := { maxStack := 1, maxLocals := 1, code := jdk_68_method_64_code, exceptionTable := #[], attributes := #[] }
def k13m6 : Method := { name := "getValue", desc := "()[B", sig := { parameters := [], returnType := some (.array .byte) }, accessFlags := 16, code := some k13c6 }
def k13c7 : Code := { maxStack := 1, maxLocals := 1, code := jdk_68_method_68_code, exceptionTable := #[], attributes := #[] }
def k13m7 : Method := { name := "isLatin1", desc := "()Z", sig := { parameters := [], returnType := some .boolean }, accessFlags := 16, code := some k13c7 }
/-- java/lang/AbstractStringBuilder -/
def k13 : Class := { plain "java/lang/AbstractStringBuilder" (some 0) with
  accessFlags := 1056
  interfaces := #[12, 4]
  cf := some (fileOf pool13 10 #[] #[{ accessFlags := 0, nameIndex := 7, descriptorIndex := 8, attributes := #[] }, { accessFlags := 0, nameIndex := 7, descriptorIndex := 103, attributes := #[] }, { accessFlags := 1, nameIndex := 34, descriptorIndex := 35, attributes := #[] }, { accessFlags := 2, nameIndex := 102, descriptorIndex := 103, attributes := #[] }, { accessFlags := 2, nameIndex := 127, descriptorIndex := 8, attributes := #[] }, { accessFlags := 1, nameIndex := 45, descriptorIndex := 292, attributes := #[] }, { accessFlags := 16, nameIndex := 552, descriptorIndex := 403, attributes := #[] }, { accessFlags := 16, nameIndex := 85, descriptorIndex := 86, attributes := #[] }] 1056 4 #[444, 48] #[{ accessFlags := 0, nameIndex := 17, descriptorIndex := 14, attributes := #[] }, { accessFlags := 0, nameIndex := 24, descriptorIndex := 25, attributes := #[] }, { accessFlags := 0, nameIndex := 75, descriptorIndex := 21, attributes := #[] }, { accessFlags := 0, nameIndex := 81, descriptorIndex := 82, attributes := #[] }, { accessFlags := 26, nameIndex := 13, descriptorIndex := 14, attributes := #[] }])
  fields := #[{ name := "value", type := (.array .byte), accessFlags := 0, slot := 0, constantValue := 0 }, { name := "coder", type := .byte, accessFlags := 0, slot := 1, constantValue := 0 }, { name := "maybeLatin1", type := .boolean, accessFlags := 0, slot := 2, constantValue := 0 }, { name := "count", type := .int, accessFlags := 0, slot := 3, constantValue := 0 }, { name := "EMPTYVALUE", type := (.array .byte), accessFlags := 26, slot := 0, constantValue := 0 }]
  methods := #[k13m0, k13m1, k13m2, k13m3, k13m4, k13m5, k13m6, k13m7]
  instanceTypes := #[(.array .byte), .byte, .boolean, .int]
  staticTypes := #[(.array .byte)]
  resolved := Array.replicate 609 none
  statics := none }

def pool14 : Array CpInfo := pool [(1, .methodref 2 3), (0, .class_ 4), (0, .nameAndType 5 6), (0, u "java/lang/AbstractStringBuilder"), (0, u "<init>"), (0, u "(I)V"), (11, .class_ 20), (1, u "java/lang/String"), (3, .class_ 26), (1, u "java/lang/StringBuilder"), (0, u "append"), (22, .methodref 2 51), (0, .nameAndType 27 52), (0, u "(C)Ljava/lang/AbstractStringBuilder;"), (84, .methodref 18 138), (0, .nameAndType 5 139), (0, u "(Ljava/lang/StringBuilder;)V"), (5, u "()V"), (10, u "()I"), (129, u "(C)Ljava/lang/StringBuilder;"), (56, .methodref 2 344), (0, .nameAndType 345 156), (0, u "length"), (3, .class_ 350), (0, u "java/lang/Appendable"), (0, .class_ 352), (0, u "java/io/Serializable"), (0, .class_ 354), (0, u "java/lang/Comparable"), (0, .class_ 356), (0, u "java/lang/CharSequence"), (0, u "serialVersionUID"), (0, u "J"), (40, u "toString"), (0, u "()Ljava/lang/String;")] 21

def k14m0 : Method := { name := "<init>", desc := "()V", sig := { parameters := [], returnType := none }, accessFlags := 1, code := none }
def k14c1 : Code := { maxStack := 2, maxLocals := 2, code := jdk_67_method_2_code, exceptionTable := #[], attributes := #[] }
def k14m1 : Method := { name := "<init>", desc := "(I)V", sig := { parameters := [.int], returnType := none }, accessFlags := 1, code := some k14c1 }
def k14c2 : Code := { maxStack := 2, maxLocals := 2, code := jdk_67_method_14_code, exceptionTable := #[], attributes := #[] }
def k14m2 : Method := { name := "append", desc := "(C)Ljava/lang/StringBuilder;", sig := { parameters := [.char], returnType := some (.object "java/lang/StringBuilder") }, accessFlags := 1, code := some k14c2 }
def k14c3 : Code := { maxStack := 3, maxLocals := 1, code := jdk_67_method_42_code, exceptionTable := #[], attributes := #[] }
def k14m3 : Method := { name := "toString", desc := "()Ljava/lang/String;", sig := { parameters := [], returnType := some (.object "java/lang/String") }, accessFlags := 1, code := some k14c3 }
def k14c4 : Code := { maxStack := 1, maxLocals := 1, code := jdk_67_method_93_code, exceptionTable := #[], attributes := #[] }
def k14m4 : Method := { name := "length", desc := "()I", sig := { parameters := [], returnType := some .int }, accessFlags := 4161, code := some k14c4 }
/-- java/lang/StringBuilder -/
def k14 : Class := { plain "java/lang/StringBuilder" (some 13) with
  accessFlags := 49
  interfaces := #[12, 2, 3, 4]
  cf := some (fileOf pool14 24 #[] #[{ accessFlags := 1, nameIndex := 5, descriptorIndex := 145, attributes := #[] }, { accessFlags := 1, nameIndex := 5, descriptorIndex := 6, attributes := #[] }, { accessFlags := 1, nameIndex := 27, descriptorIndex := 286, attributes := #[] }, { accessFlags := 1, nameIndex := 399, descriptorIndex := 400, attributes := #[] }, { accessFlags := 4161, nameIndex := 345, descriptorIndex := 156, attributes := #[] }] 49 2 #[349, 351, 353, 355] #[{ accessFlags := 24, nameIndex := 357, descriptorIndex := 358, attributes := #[] }])
  fields := #[{ name := "serialVersionUID", type := .long, accessFlags := 24, slot := 0, constantValue := 0 }]
  methods := #[k14m0, k14m1, k14m2, k14m3, k14m4]
  instanceTypes := #[(.array .byte), .byte, .boolean, .int]
  staticTypes := #[.long]
  resolved := Array.replicate 422 none
  statics := none }

def pool15 : Array CpInfo := pool [(2, .class_ 4), (1, u "java/lang/Object"), (0, u "<init>"), (0, u "()V"), (17, .class_ 26), (1, u "jdk/internal/util/Preconditions"), (6, u "checkIndex"), (15, u "checkFromIndexSize"), (5, .class_ 56), (0, u "jdk/internal/util/Preconditions$4"), (57, .class_ 115), (0, u "jdk/internal/util/Preconditions$1"), (7, u "SIOOBE_FORMATTER"), (0, u "Ljava/util/function/BiFunction;"), (0, .class_ 126), (0, u "jdk/internal/util/Preconditions$2"), (3, u "AIOOBE_FORMATTER"), (0, .class_ 132), (0, u "jdk/internal/util/Preconditions$3"), (3, u "IOOBE_FORMATTER"), (41, u "(IILjava/util/function/BiFunction;)I"), (4, u "(IIILjava/util/function/BiFunction;)I")] 10

def k15m0 : Method := { name := "<init>", desc := "()V", sig := { parameters := [], returnType := none }, accessFlags := 1, code := none }
def k15c1 : Code := { maxStack := 3, maxLocals := 3, code := jdk_41_method_11_code, exceptionTable := #[], attributes := #[] }
def k15m1 : Method := { name := "checkIndex", desc := "(IILjava/util/function/BiFunction;)I", sig := { parameters := [.int, .int, (.object "java/util/function/BiFunction")], returnType := some .int }, accessFlags := 9, code := some k15c1 }
def k15c2 : Code := { maxStack := 4, maxLocals := 4, code := jdk_41_method_13_code, exceptionTable := #[], attributes := #[] }
def k15m2 : Method := { name := "checkFromIndexSize", desc := "(IIILjava/util/function/BiFunction;)I", sig := { parameters := [.int, .int, .int, (.object "java/util/function/BiFunction")], returnType := some .int }, accessFlags := 9, code := some k15c2 }
/-- jdk/internal/util/Preconditions -/
def k15 : Class := { plain "jdk/internal/util/Preconditions" (some 0) with
  accessFlags := 33
  interfaces := #[]
  cf := some (fileOf pool15 24 #[.nestMembers #[55, 131, 125, 114]] #[{ accessFlags := 1, nameIndex := 5, descriptorIndex := 6, attributes := #[] }, { accessFlags := 9, nameIndex := 33, descriptorIndex := 178, attributes := #[] }, { accessFlags := 9, nameIndex := 49, descriptorIndex := 183, attributes := #[] }] 33 2 #[] #[{ accessFlags := 25, nameIndex := 123, descriptorIndex := 124, attributes := #[] }, { accessFlags := 25, nameIndex := 130, descriptorIndex := 124, attributes := #[] }, { accessFlags := 25, nameIndex := 136, descriptorIndex := 124, attributes := #[] }])
  fields := #[{ name := "SIOOBE_FORMATTER", type := (.object "java/util/function/BiFunction"), accessFlags := 25, slot := 0, constantValue := 0 }, { name := "AIOOBE_FORMATTER", type := (.object "java/util/function/BiFunction"), accessFlags := 25, slot := 1, constantValue := 0 }, { name := "IOOBE_FORMATTER", type := (.object "java/util/function/BiFunction"), accessFlags := 25, slot := 2, constantValue := 0 }]
  methods := #[k15m0, k15m1, k15m2]
  instanceTypes := #[]
  staticTypes := #[(.object "java/util/function/BiFunction"), (.object "java/util/function/BiFunction"), (.object "java/util/function/BiFunction")]
  resolved := Array.replicate 194 none
  statics := some 1 }

def pool16 : Array CpInfo := pool [(1, .class_ 2), (0, u "java/lang/Character"), (18, u "value"), (0, u "C"), (19, .class_ 44), (1, u "java/lang/Object"), (3, .class_ 50), (1, u "java/lang/Character$CharacterCache"), (30, u "(C)Z"), (32, u "(I)Z"), (151, .methodref 1 267), (0, .nameAndType 268 114), (0, u "isISOControl"), (15, u "$assertionsDisabled"), (0, u "Z"), (21, .class_ 309), (1, u "java/lang/Character$UnicodeBlock"), (73, u "TYPE"), (0, u "Ljava/lang/Class;"), (0, .class_ 386), (0, u "java/io/Serializable"), (0, .class_ 388), (0, u "java/lang/Comparable"), (0, .class_ 390), (0, u "java/lang/constant/Constable"), (0, u "MIN_RADIX"), (0, u "I"), (2, u "MAX_RADIX"), (1, u "MIN_VALUE"), (1, u "MAX_VALUE"), (3, u "UNASSIGNED"), (0, u "B"), (0, u "UPPERCASE_LETTER"), (1, u "LOWERCASE_LETTER"), (0, u "TITLECASE_LETTER"), (1, u "MODIFIER_LETTER"), (1, u "OTHER_LETTER"), (1, u "NON_SPACING_MARK"), (1, u "ENCLOSING_MARK"), (1, u "COMBINING_SPACING_MARK"), (1, u "DECIMAL_DIGIT_NUMBER"), (1, u "LETTER_NUMBER"), (1, u "OTHER_NUMBER"), (1, u "SPACE_SEPARATOR"), (1, u "LINE_SEPARATOR"), (1, u "PARAGRAPH_SEPARATOR"), (1, u "CONTROL"), (1, u "FORMAT"), (1, u "PRIVATE_USE"), (1, u "SURROGATE"), (1, u "DASH_PUNCTUATION"), (1, u "START_PUNCTUATION"), (1, u "END_PUNCTUATION"), (1, u "CONNECTOR_PUNCTUATION"), (1, u "OTHER_PUNCTUATION"), (1, u "MATH_SYMBOL"), (1, u "CURRENCY_SYMBOL"), (1, u "MODIFIER_SYMBOL"), (1, u "OTHER_SYMBOL"), (1, u "INITIAL_QUOTE_PUNCTUATION"), (1, u "FINAL_QUOTE_PUNCTUATION"), (1, u "ERROR"), (1, u "DIRECTIONALITY_UNDEFINED"), (0, u "DIRECTIONALITY_LEFT_TO_RIGHT"), (0, u "DIRECTIONALITY_RIGHT_TO_LEFT"), (0, u "DIRECTIONALITY_RIGHT_TO_LEFT_ARABIC"), (0, u "DIRECTIONALITY_EUROPEAN_NUMBER"), (0, u "DIRECTIONALITY_EUROPEAN_NUMBER_SEPARATOR"), (0, u "DIRECTIONALITY_EUROPEAN_NUMBER_TERMINATOR"), (0, u "DIRECTIONALITY_ARABIC_NUMBER"), (0, u "DIRECTIONALITY_COMMON_NUMBER_SEPARATOR"), (0, u "DIRECTIONALITY_NONSPACING_MARK"), (0, u "DIRECTIONALITY_BOUNDARY_NEUTRAL"), (0, u "DIRECTIONALITY_PARAGRAPH_SEPARATOR"), (0, u "DIRECTIONALITY_SEGMENT_SEPARATOR"), (0, u "DIRECTIONALITY_WHITESPACE"), (0, u "DIRECTIONALITY_OTHER_NEUTRALS"), (0, u "DIRECTIONALITY_LEFT_TO_RIGHT_EMBEDDING"), (0, u "DIRECTIONALITY_LEFT_TO_RIGHT_OVERRIDE"), (0, u "DIRECTIONALITY_RIGHT_TO_LEFT_EMBEDDING"), (0, u "DIRECTIONALITY_RIGHT_TO_LEFT_OVERRIDE"), (1, u "DIRECTIONALITY_POP_DIRECTIONAL_FORMAT"), (0, u "DIRECTIONALITY_LEFT_TO_RIGHT_ISOLATE"), (0, u "DIRECTIONALITY_RIGHT_TO_LEFT_ISOLATE"), (0, u "DIRECTIONALITY_FIRST_STRONG_ISOLATE"), (0, u "DIRECTIONALITY_POP_DIRECTIONAL_ISOLATE"), (0, u "MIN_HIGH_SURROGATE"), (0, u "MAX_HIGH_SURROGATE"), (1, u "MIN_LOW_SURROGATE"), (0, u "MAX_LOW_SURROGATE"), (1, u "MIN_SURROGATE"), (0, u "MAX_SURROGATE"), (0, u "MIN_SUPPLEMENTARY_CODE_POINT"), (0, u "MIN_CODE_POINT"), (0, u "MAX_CODE_POINT"), (1, u "serialVersionUID"), (0, u "J"), (2, u "SIZE"), (0, u "BYTES"), (88, .class_ 596), (0, u "java/lang/Character$UnicodeScript"), (0, .class_ 598), (0, u "java/lang/Character$Subset")] 5

def k16c0 : Code := { maxStack := 1, maxLocals := 1, code := jdk_89_method_88_code, exceptionTable := #[], attributes := #[] }
def k16m0 : Method := { name := "isISOControl", desc := "(C)Z", sig := { parameters := [.char], returnType := some .boolean }, accessFlags := 9, code := some k16c0 }
def k16c1 : Code := { maxStack := 2, maxLocals := 1, code := jdk_89_method_89_code, exceptionTable := #[], attributes := #[] }
def k16m1 : Method := { name := "isISOControl", desc := "(I)Z", sig := { parameters := [.int], returnType := some .boolean }, accessFlags := 9, code := some k16c1 }
/-- java/lang/Character -/
def k16 : Class := { plain "java/lang/Character" (some 0) with
  accessFlags := 49
  interfaces := #[2, 3, 5]
  cf := some (fileOf pool16 1 #[.nestMembers #[48, 595, 307, 597]] #[{ accessFlags := 9, nameIndex := 268, descriptorIndex := 81, attributes := #[] }, { accessFlags := 9, nameIndex := 268, descriptorIndex := 114, attributes := #[] }] 49 42 #[385, 387, 389] #[{ accessFlags := 25, nameIndex := 391, descriptorIndex := 392, attributes := #[] }, { accessFlags := 25, nameIndex := 395, descriptorIndex := 392, attributes := #[] }, { accessFlags := 25, nameIndex := 397, descriptorIndex := 22, attributes := #[] }, { accessFlags := 25, nameIndex := 399, descriptorIndex := 22, attributes := #[] }, { accessFlags := 25, nameIndex := 383, descriptorIndex := 384, attributes := #[] }, { accessFlags := 25, nameIndex := 403, descriptorIndex := 404, attributes := #[] }, { accessFlags := 25, nameIndex := 405, descriptorIndex := 404, attributes := #[] }, { accessFlags := 25, nameIndex := 407, descriptorIndex := 404, attributes := #[] }, { accessFlags := 25, nameIndex := 408, descriptorIndex := 404, attributes := #[] }, { accessFlags := 25, nameIndex := 410, descriptorIndex := 404, attributes := #[] }, { accessFlags := 25, nameIndex := 412, descriptorIndex := 404, attributes := #[] }, { accessFlags := 25, nameIndex := 414, descriptorIndex := 404, attributes := #[] }, { accessFlags := 25, nameIndex := 416, descriptorIndex := 404, attributes := #[] }, { accessFlags := 25, nameIndex := 418, descriptorIndex := 404, attributes := #[] }, { accessFlags := 25, nameIndex := 420, descriptorIndex := 404, attributes := #[] }, { accessFlags := 25, nameIndex := 422, descriptorIndex := 404, attributes := #[] }, { accessFlags := 25, nameIndex := 424, descriptorIndex := 404, attributes := #[] }, { accessFlags := 25, nameIndex := 426, descriptorIndex := 404, attributes := #[] }, { accessFlags := 25, nameIndex := 428, descriptorIndex := 404, attributes := #[] }, { accessFlags := 25, nameIndex := 430, descriptorIndex := 404, attributes := #[] }, { accessFlags := 25, nameIndex := 432, descriptorIndex := 404, attributes := #[] }, { accessFlags := 25, nameIndex := 434, descriptorIndex := 404, attributes := #[] }, { accessFlags := 25, nameIndex := 436, descriptorIndex := 404, attributes := #[] }, { accessFlags := 25, nameIndex := 438, descriptorIndex := 404, attributes := #[] }, { accessFlags := 25, nameIndex := 440, descriptorIndex := 404, attributes := #[] }, { accessFlags := 25, nameIndex := 442, descriptorIndex := 404, attributes := #[] }, { accessFlags := 25, nameIndex := 444, descriptorIndex := 404, attributes := #[] }, { accessFlags := 25, nameIndex := 446, descriptorIndex := 404, attributes := #[] }, { accessFlags := 25, nameIndex := 448, descriptorIndex := 404, attributes := #[] }, { accessFlags := 25, nameIndex := 450, descriptorIndex := 404, attributes := #[] }, { accessFlags := 25, nameIndex := 452, descriptorIndex := 404, attributes := #[] }, { accessFlags := 25, nameIndex := 454, descriptorIndex := 404, attributes := #[] }, { accessFlags := 25, nameIndex := 456, descriptorIndex := 404, attributes := #[] }, { accessFlags := 25, nameIndex := 458, descriptorIndex := 404, attributes := #[] }, { accessFlags := 25, nameIndex := 460, descriptorIndex := 404, attributes := #[] }, { accessFlags := 24, nameIndex := 462, descriptorIndex := 392, attributes := #[] }, { accessFlags := 25, nameIndex := 464, descriptorIndex := 404, attributes := #[] }, { accessFlags := 25, nameIndex := 465, descriptorIndex := 404, attributes := #[] }, { accessFlags := 25, nameIndex := 466, descriptorIndex := 404, attributes := #[] }, { accessFlags := 25, nameIndex := 467, descriptorIndex := 404, attributes := #[] }, { accessFlags := 25, nameIndex := 468, descriptorIndex := 404, attributes := #[] }, { accessFlags := 25, nameIndex := 469, descriptorIndex := 404, attributes := #[] }, { accessFlags := 25, nameIndex := 470, descriptorIndex := 404, attributes := #[] }, { accessFlags := 25, nameIndex := 471, descriptorIndex := 404, attributes := #[] }, { accessFlags := 25, nameIndex := 472, descriptorIndex := 404, attributes := #[] }, { accessFlags := 25, nameIndex := 473, descriptorIndex := 404, attributes := #[] }, { accessFlags := 25, nameIndex := 474, descriptorIndex := 404, attributes := #[] }, { accessFlags := 25, nameIndex := 475, descriptorIndex := 404, attributes := #[] }, { accessFlags := 25, nameIndex := 476, descriptorIndex := 404, attributes := #[] }, { accessFlags := 25, nameIndex := 477, descriptorIndex := 404, attributes := #[] }, { accessFlags := 25, nameIndex := 478, descriptorIndex := 404, attributes := #[] }, { accessFlags := 25, nameIndex := 479, descriptorIndex := 404, attributes := #[] }, { accessFlags := 25, nameIndex := 480, descriptorIndex := 404, attributes := #[] }, { accessFlags := 25, nameIndex := 481, descriptorIndex := 404, attributes := #[] }, { accessFlags := 25, nameIndex := 482, descriptorIndex := 404, attributes := #[] }, { accessFlags := 25, nameIndex := 484, descriptorIndex := 404, attributes := #[] }, { accessFlags := 25, nameIndex := 485, descriptorIndex := 404, attributes := #[] }, { accessFlags := 25, nameIndex := 486, descriptorIndex := 404, attributes := #[] }, { accessFlags := 25, nameIndex := 487, descriptorIndex := 404, attributes := #[] }, { accessFlags := 25, nameIndex := 488, descriptorIndex := 404, attributes := #[] }, { accessFlags := 25, nameIndex := 489, descriptorIndex := 22, attributes := #[] }, { accessFlags := 25, nameIndex := 490, descriptorIndex := 22, attributes := #[] }, { accessFlags := 25, nameIndex := 492, descriptorIndex := 22, attributes := #[] }, { accessFlags := 25, nameIndex := 493, descriptorIndex := 22, attributes := #[] }, { accessFlags := 25, nameIndex := 495, descriptorIndex := 22, attributes := #[] }, { accessFlags := 25, nameIndex := 496, descriptorIndex := 22, attributes := #[] }, { accessFlags := 25, nameIndex := 497, descriptorIndex := 392, attributes := #[] }, { accessFlags := 25, nameIndex := 498, descriptorIndex := 392, attributes := #[] }, { accessFlags := 25, nameIndex := 499, descriptorIndex := 392, attributes := #[] }, { accessFlags := 18, nameIndex := 21, descriptorIndex := 22, attributes := #[] }, { accessFlags := 26, nameIndex := 501, descriptorIndex := 502, attributes := #[] }, { accessFlags := 25, nameIndex := 505, descriptorIndex := 392, attributes := #[] }, { accessFlags := 25, nameIndex := 506, descriptorIndex := 392, attributes := #[] }, { accessFlags := 4120, nameIndex := 284, descriptorIndex := 285, attributes := #[] }])
  fields := #[{ name := "MIN_RADIX", type := .int, accessFlags := 25, slot := 0, constantValue := 0 }, { name := "MAX_RADIX", type := .int, accessFlags := 25, slot := 1, constantValue := 0 }, { name := "MIN_VALUE", type := .char, accessFlags := 25, slot := 2, constantValue := 0 }, { name := "MAX_VALUE", type := .char, accessFlags := 25, slot := 3, constantValue := 0 }, { name := "TYPE", type := (.object "java/lang/Class"), accessFlags := 25, slot := 4, constantValue := 0 }, { name := "UNASSIGNED", type := .byte, accessFlags := 25, slot := 5, constantValue := 0 }, { name := "UPPERCASE_LETTER", type := .byte, accessFlags := 25, slot := 6, constantValue := 0 }, { name := "LOWERCASE_LETTER", type := .byte, accessFlags := 25, slot := 7, constantValue := 0 }, { name := "TITLECASE_LETTER", type := .byte, accessFlags := 25, slot := 8, constantValue := 0 }, { name := "MODIFIER_LETTER", type := .byte, accessFlags := 25, slot := 9, constantValue := 0 }, { name := "OTHER_LETTER", type := .byte, accessFlags := 25, slot := 10, constantValue := 0 }, { name := "NON_SPACING_MARK", type := .byte, accessFlags := 25, slot := 11, constantValue := 0 }, { name := "ENCLOSING_MARK", type := .byte, accessFlags := 25, slot := 12, constantValue := 0 }, { name := "COMBINING_SPACING_MARK", type := .byte, accessFlags := 25, slot := 13, constantValue := 0 }, { name := "DECIMAL_DIGIT_NUMBER", type := .byte, accessFlags := 25, slot := 14, constantValue := 0 }, { name := "LETTER_NUMBER", type := .byte, accessFlags := 25, slot := 15, constantValue := 0 }, { name := "OTHER_NUMBER", type := .byte, accessFlags := 25, slot := 16, constantValue := 0 }, { name := "SPACE_SEPARATOR", type := .byte, accessFlags := 25, slot := 17, constantValue := 0 }, { name := "LINE_SEPARATOR", type := .byte, accessFlags := 25, slot := 18, constantValue := 0 }, { name := "PARAGRAPH_SEPARATOR", type := .byte, accessFlags := 25, slot := 19, constantValue := 0 }, { name := "CONTROL", type := .byte, accessFlags := 25, slot := 20, constantValue := 0 }, { name := "FORMAT", type := .byte, accessFlags := 25, slot := 21, constantValue := 0 }, { name := "PRIVATE_USE", type := .byte, accessFlags := 25, slot := 22, constantValue := 0 }, { name := "SURROGATE", type := .byte, accessFlags := 25, slot := 23, constantValue := 0 }, { name := "DASH_PUNCTUATION", type := .byte, accessFlags := 25, slot := 24, constantValue := 0 }, { name := "START_PUNCTUATION", type := .byte, accessFlags := 25, slot := 25, constantValue := 0 }, { name := "END_PUNCTUATION", type := .byte, accessFlags := 25, slot := 26, constantValue := 0 }, { name := "CONNECTOR_PUNCTUATION", type := .byte, accessFlags := 25, slot := 27, constantValue := 0 }, { name := "OTHER_PUNCTUATION", type := .byte, accessFlags := 25, slot := 28, constantValue := 0 }, { name := "MATH_SYMBOL", type := .byte, accessFlags := 25, slot := 29, constantValue := 0 }, { name := "CURRENCY_SYMBOL", type := .byte, accessFlags := 25, slot := 30, constantValue := 0 }, { name := "MODIFIER_SYMBOL", type := .byte, accessFlags := 25, slot := 31, constantValue := 0 }, { name := "OTHER_SYMBOL", type := .byte, accessFlags := 25, slot := 32, constantValue := 0 }, { name := "INITIAL_QUOTE_PUNCTUATION", type := .byte, accessFlags := 25, slot := 33, constantValue := 0 }, { name := "FINAL_QUOTE_PUNCTUATION", type := .byte, accessFlags := 25, slot := 34, constantValue := 0 }, { name := "ERROR", type := .int, accessFlags := 24, slot := 35, constantValue := 0 }, { name := "DIRECTIONALITY_UNDEFINED", type := .byte, accessFlags := 25, slot := 36, constantValue := 0 }, { name := "DIRECTIONALITY_LEFT_TO_RIGHT", type := .byte, accessFlags := 25, slot := 37, constantValue := 0 }, { name := "DIRECTIONALITY_RIGHT_TO_LEFT", type := .byte, accessFlags := 25, slot := 38, constantValue := 0 }, { name := "DIRECTIONALITY_RIGHT_TO_LEFT_ARABIC", type := .byte, accessFlags := 25, slot := 39, constantValue := 0 }, { name := "DIRECTIONALITY_EUROPEAN_NUMBER", type := .byte, accessFlags := 25, slot := 40, constantValue := 0 }, { name := "DIRECTIONALITY_EUROPEAN_NUMBER_SEPARATOR", type := .byte, accessFlags := 25, slot := 41, constantValue := 0 }, { name := "DIRECTIONALITY_EUROPEAN_NUMBER_TERMINATOR", type := .byte, accessFlags := 25, slot := 42, constantValue := 0 }, { name := "DIRECTIONALITY_ARABIC_NUMBER", type := .byte, accessFlags := 25, slot := 43, constantValue := 0 }, { name := "DIRECTIONALITY_COMMON_NUMBER_SEPARATOR", type := .byte, accessFlags := 25, slot := 44, constantValue := 0 }, { name := "DIRECTIONALITY_NONSPACING_MARK", type := .byte, accessFlags := 25, slot := 45, constantValue := 0 }, { name := "DIRECTIONALITY_BOUNDARY_NEUTRAL", type := .byte, accessFlags := 25, slot := 46, constantValue := 0 }, { name := "DIRECTIONALITY_PARAGRAPH_SEPARATOR", type := .byte, accessFlags := 25, slot := 47, constantValue := 0 }, { name := "DIRECTIONALITY_SEGMENT_SEPARATOR", type := .byte, accessFlags := 25, slot := 48, constantValue := 0 }, { name := "DIRECTIONALITY_WHITESPACE", type := .byte, accessFlags := 25, slot := 49, constantValue := 0 }, { name := "DIRECTIONALITY_OTHER_NEUTRALS", type := .byte, accessFlags := 25, slot := 50, constantValue := 0 }, { name := "DIRECTIONALITY_LEFT_TO_RIGHT_EMBEDDING", type := .byte, accessFlags := 25, slot := 51, constantValue := 0 }, { name := "DIRECTIONALITY_LEFT_TO_RIGHT_OVERRIDE", type := .byte, accessFlags := 25, slot := 52, constantValue := 0 }, { name := "DIRECTIONALITY_RIGHT_TO_LEFT_EMBEDDING", type := .byte, accessFlags := 25, slot := 53, constantValue := 0 }, { name := "DIRECTIONALITY_RIGHT_TO_LEFT_OVERRIDE", type := .byte, accessFlags := 25, slot := 54, constantValue := 0 }, { name := "DIRECTIONALITY_POP_DIRECTIONAL_FORMAT", type := .byte, accessFlags := 25, slot := 55, constantValue := 0 }, { name := "DIRECTIONALITY_LEFT_TO_RIGHT_ISOLATE", type := .byte, accessFlags := 25, slot := 56, constantValue := 0 }, { name := "DIRECTIONALITY_RIGHT_TO_LEFT_ISOLATE", type := .byte, accessFlags := 25, slot := 57, constantValue := 0 }, { name := "DIRECTIONALITY_FIRST_STRONG_ISOLATE", type := .byte, accessFlags := 25, slot := 58, constantValue := 0 }, { name := "DIRECTIONALITY_POP_DIRECTIONAL_ISOLATE", type := .byte, accessFlags := 25, slot := 59, constantValue := 0 }, { name := "MIN_HIGH_SURROGATE", type := .char, accessFlags := 25, slot := 60, constantValue := 0 }, { name := "MAX_HIGH_SURROGATE", type := .char, accessFlags := 25, slot := 61, constantValue := 0 }, { name := "MIN_LOW_SURROGATE", type := .char, accessFlags := 25, slot := 62, constantValue := 0 }, { name := "MAX_LOW_SURROGATE", type := .char, accessFlags := 25, slot := 63, constantValue := 0 }, { name := "MIN_SURROGATE", type := .char, accessFlags := 25, slot := 64, constantValue := 0 }, { name := "MAX_SURROGATE", type := .char, accessFlags := 25, slot := 65, constantValue := 0 }, { name := "MIN_SUPPLEMENTARY_CODE_POINT", type := .int, accessFlags := 25, slot := 66, constantValue := 0 }, { name := "MIN_CODE_POINT", type := .int, accessFlags := 25, slot := 67, constantValue := 0 }, { name := "MAX_CODE_POINT", type := .int, accessFlags := 25, slot := 68, constantValue := 0 }, { name := "value", type := .char, accessFlags := 18, slot := 0, constantValue := 0 }, { name := "serialVersionUID", type := .long, accessFlags := 26, slot := 69, constantValue := 0 }, { name := "SIZE", type := .int, accessFlags := 25, slot := 70, constantValue := 0 }, { name := "BYTES", type := .int, accessFlags := 25, slot := 71, constantValue := 0 }, { name := "$assertionsDisabled", type := .boolean, accessFlags := 4120, slot := 72, constantValue := 0 }]
  methods := #[k16m0, k16m1]
  instanceTypes := #[.char]
  staticTypes := #[.int, .int, .char, .char, (.object "java/lang/Class"), .byte, .byte, .byte, .byte, .byte, .byte, .byte, .byte, .byte, .byte, .byte, .byte, .byte, .byte, .byte, .byte, .byte, .byte, .byte, .byte, .byte, .byte, .byte, .byte, .byte, .byte, .byte, .byte, .byte, .byte, .int, .byte, .byte, .byte, .byte, .byte, .byte, .byte, .byte, .byte, .byte, .byte, .byte, .byte, .byte, .byte, .byte, .byte, .byte, .byte, .byte, .byte, .byte, .byte, .byte, .char, .char, .char, .char, .char, .char, .int, .int, .int, .long, .int, .int, .boolean]
  resolved := Array.replicate 604 none
  statics := none }

def pool17 : Array CpInfo := pool [(2, .class_ 4), (1, u "java/lang/Object"), (0, u "<init>"), (0, u "()V"), (7, .class_ 16), (1, u "java/util/Arrays"), (57, .class_ 76), (1, u "java/util/Arrays$NaturalOrder"), (32, u "()Ljava/lang/Object;"), (3, .class_ 115), (1, u "java/util/Arrays$LegacyMergeSort"), (1, u "Z"), (10, .nameAndType 129 109), (0, u "clone"), (9, u "copyOfRange"), (170, .methodref 311 128), (0, .class_ 312), (0, u "[B"), (29, u "([BII)[B"), (32, .class_ 376), (0, u "java/util/Arrays$ArrayList"), (68, u "$assertionsDisabled"), (269, u "MIN_ARRAY_SORT_GRAN"), (0, u "I"), (2, u "INSERTIONSORT_THRESHOLD"), (255, .class_ 976), (0, u "java/util/Arrays$ArrayItr")] 52

def k17m0 : Method := { name := "<init>", desc := "()V", sig := { parameters := [], returnType := none }, accessFlags := 2, code := none }
def k17c1 : Code := { maxStack := 3, maxLocals := 3, code := jdk_65_method_132_code, exceptionTable := #[], attributes := #[] }
def k17m1 : Method := { name := "copyOfRange", desc := "([BII)[B", sig := { parameters := [(.array .byte), .int, .int], returnType := some (.array .byte) }, accessFlags := 9, code := some k17c1 }
/-- java/util/Arrays -/
def k17 : Class := { plain "java/util/Arrays" (some 0) with
  accessFlags := 49
  interfaces := #[]
  cf := some (fileOf pool17 14 #[.nestMembers #[975, 375, 113, 74]] #[{ accessFlags := 2, nameIndex := 5, descriptorIndex := 6, attributes := #[] }, { accessFlags := 9, nameIndex := 139, descriptorIndex := 342, attributes := #[] }] 49 2 #[] #[{ accessFlags := 26, nameIndex := 715, descriptorIndex := 716, attributes := #[] }, { accessFlags := 26, nameIndex := 719, descriptorIndex := 716, attributes := #[] }, { accessFlags := 4120, nameIndex := 445, descriptorIndex := 117, attributes := #[] }])
  fields := #[{ name := "MIN_ARRAY_SORT_GRAN", type := .int, accessFlags := 26, slot := 0, constantValue := 0 }, { name := "INSERTIONSORT_THRESHOLD", type := .int, accessFlags := 26, slot := 1, constantValue := 0 }, { name := "$assertionsDisabled", type := .boolean, accessFlags := 4120, slot := 2, constantValue := 0 }]
  methods := #[k17m0, k17m1]
  instanceTypes := #[]
  staticTypes := #[.int, .int, .boolean]
  resolved := Array.replicate 1029 none
  statics := none }

def pool18 : Array CpInfo := pool [(1, .class_ 2), (0, u "java/lang/Cloneable"), (0, .class_ 4), (0, u "java/lang/Object")] 2

/-- java/lang/Cloneable -/
def k18 : Class := { plain "java/lang/Cloneable" (some 0) with
  accessFlags := 1537
  interfaces := #[]
  cf := some (fileOf pool18 1 #[] #[] 1537 3 #[] #[])
  fields := #[]
  methods := #[]
  instanceTypes := #[]
  staticTypes := #[]
  resolved := Array.replicate 7 none
  statics := none }

def pool19 : Array CpInfo := pool [(3, .class_ 4), (0, u "java/lang/String"), (1, .class_ 8), (1, u "java/lang/Object"), (0, u "<init>"), (0, u "()V"), (0, .methodref 12 13), (0, .class_ 14), (0, .nameAndType 15 16), (0, u "java/lang/StringUTF16"), (0, u "newBytesLength"), (0, u "(I)I"), (3, .integer 1073741823), (23, .fieldref 12 45), (0, .nameAndType 46 47), (0, u "$assertionsDisabled"), (0, u "Z"), (0, .methodref 12 49), (0, .nameAndType 50 51), (0, u "length"), (0, u "([B)I"), (7, .fieldref 12 60), (0, .nameAndType 61 62), (0, u "HI_BYTE_SHIFT"), (0, u "I"), (0, .fieldref 12 64), (0, .nameAndType 65 62), (0, u "LO_BYTE_SHIFT"), (1, .methodref 12 68), (0, .nameAndType 69 70), (0, u "checkIndex"), (0, u "(I[B)V"), (0, .methodref 12 72), (0, .nameAndType 73 74), (0, u "getChar"), (0, u "([BI)C"), (24, u "(II[B)V"), (7, .methodref 12 108), (0, .nameAndType 109 110), (0, u "newBytesFor"), (0, u "(I)[B"), (0, .methodref 12 112), (0, .nameAndType 113 114), (0, u "putChar"), (0, u "([BII)V"), (0, .methodref 12 116), (0, .nameAndType 117 118), (0, u "compress"), (0, u "([CI[BII)I"), (0, .methodref 12 120), (0, .nameAndType 121 122), (0, u "toBytes"), (0, u "([CII)[B"), (17, u "inflate"), (0, u "([BI[BII)V"), (31, .methodref 12 174), (0, .nameAndType 175 99), (0, u "checkBoundsOffCount"), (85, u "coderFromArrayLen"), (0, u "([BI)B"), (18, u "(III)I"), (87, .class_ 371), (1, u "java/lang/StringUTF16$LinesSpliterator"), (20, u "charAt"), (21, .methodref 3 415), (0, .nameAndType 69 416), (0, u "(II)V"), (2, .methodref 3 420), (0, .nameAndType 175 281), (9, u "MAX_LENGTH"), (44, u "(C)[B"), (110, u "putCharSB"), (40, .class_ 628), (0, u "java/lang/StringUTF16$CodePointsSpliterator"), (0, .class_ 630), (0, u "java/lang/StringUTF16$CharsSpliterator")] 4

def k19m0 : Method := { name := "<init>", desc := "()V", sig := { parameters := [], returnType := none }, accessFlags := 0, code := none }
def k19c1 : Code := { maxStack := 1, maxLocals := 1, code := jdk_52_method_2_code, exceptionTable := #[], attributes := #[] }
def k19m1 : Method := { name := "newBytesFor", desc := "(I)[B", sig := { parameters := [.int], returnType := some (.array .byte) }, accessFlags := 9, code := some k19c1 }
def k19c2 : Code := { maxStack := 4, maxLocals := 1, code := jdk_52_method_3_code, exceptionTable := #[], attributes := #[] }
def k19m2 : Method := { name := "newBytesLength", desc := "(I)I", sig := { parameters := [.int], returnType := some .int }, accessFlags := 9, code := some k19c2 }
def k19c3 : Code := { maxStack := 4, maxLocals := 3, code := jdk_52_method_4_code, exceptionTable := #[], attributes := #[] }
def k19m3 : Method := { name := "putChar", desc := "([BII)V", sig := { parameters := [(.array .byte), .int, .int], returnType := none }, accessFlags := 8, code := some k19c3 }
def k19c4 : Code := { maxStack := 3, maxLocals := 2, code := jdk_52_method_5_code, exceptionTable := #[], attributes := #[] }
def k19m4 : Method := { name := "getChar", desc := "([BI)C", sig := { parameters := [(.array .byte), .int], returnType := some .char }, accessFlags := 8, code := some k19c4 }
def k19c5 : Code := { maxStack := 2, maxLocals := 1, code := jdk_52_method_6_code, exceptionTable := #[], attributes := #[] }
def k19m5 : Method := { name := "length", desc := "([B)I", sig := { parameters := [(.array .byte)], returnType := some .int }, accessFlags := 9, code := some k19c5 }
def k19c6 : Code := { maxStack := 4, maxLocals := 5, code := jdk_52_method_14_code, exceptionTable := #[], attributes := #[] }
def k19m6 : Method := { name := "toBytes", desc := "([CII)[B", sig := { parameters := [(.array .char), .int, .int], returnType := some (.array .byte) }, accessFlags := 9, code := some k19c6 }
def k19c7 : Code := { maxStack := 2, maxLocals := 2, code := jdk_52_method_15_code, exceptionTable := #[], attributes := #[] }
def k19m7 : Method := { name := "coderFromArrayLen", desc := "([BI)B", sig := { parameters := [(.array .byte), .int], returnType := some .byte }, accessFlags := 8, code := some k19c7 }
def k19c8 : Code := { maxStack := 5, maxLocals := 6, code := jdk_52_method_16_code, exceptionTable := #[], attributes := #[] }
def k19m8 : Method := { name := "compress", desc := "([CII)[B", sig := { parameters := [(.array .char), .int, .int], returnType := some (.array .byte) }, accessFlags := 9, code := some k19c8 }
def k19c9 : Code := { maxStack := 3, maxLocals := 7, code := jdk_52_method_21_code, exceptionTable := #[], attributes := #[] }
def k19m9 : Method := { name := "compress", desc := "([CI[BII)I", sig := { parameters := [(.array .char), .int, (.array .byte), .int, .int], returnType := some .int }, accessFlags := 9, code := some k19c9 }
def k19c10 : Code := { maxStack := 3, maxLocals := 2, code := jdk_52_method_24_code, exceptionTable := #[], attributes := #[] }
def k19m10 : Method := { name := "toBytes", desc := "(C)[B", sig := { parameters := [.char], returnType := some (.array .byte) }, accessFlags := 9, code := some k19c10 }
def k19c11 : Code := { maxStack := 3, maxLocals := 3, code := jdk_52_method_71_code, exceptionTable := #[], attributes := #[] }
def k19m11 : Method := { name := "putCharSB", desc := "([BII)V", sig := { parameters := [(.array .byte), .int, .int], returnType := none }, accessFlags := 9, code := some k19c11 }
def k19c12 : Code := { maxStack := 2, maxLocals := 2, code := jdk_52_method_83_code, exceptionTable := #[], attributes := #[] }
def k19m12 : Method := { name := "charAt", desc := "([BI)C", sig := { parameters := [(.array .byte), .int], returnType := some .char }, accessFlags := 9, code := some k19c12 }
def k19c13 : Code := { maxStack := 4, maxLocals := 6, code := jdk_52_method_86_code, exceptionTable := #[], attributes := #[] }
def k19m13 : Method := { name := "inflate", desc := "([BI[BII)V", sig := { parameters := [(.array .byte), .int, (.array .byte), .int, .int], returnType := none }, accessFlags := 9, code := some k19c13 }
def k19c14 : Code := { maxStack := 2, maxLocals := 2, code := jdk_52_method_91_code, exceptionTable := #[], attributes := #[] }
def k19m14 : Method := { name := "checkIndex", desc := "(I[B)V", sig := { parameters := [.int, (.array .byte)], returnType := none }, accessFlags := 9, code := some k19c14 }
def k19c15 : Code := { maxStack := 3, maxLocals := 3, code := jdk_52_method_94_code, exceptionTable := #[], attributes := #[] }
def k19m15 : Method := { name := "checkBoundsOffCount", desc := "(II[B)V", sig := { parameters := [.int, .int, (.array .byte)], returnType := none }, accessFlags := 9, code := some k19c15 }
/-- java/lang/StringUTF16 -/
def k19 : Class := { plain "java/lang/StringUTF16" (some 0) with
  accessFlags := 48
  interfaces := #[]
  cf := some (fileOf pool19 12 #[.nestMembers #[627, 629, 369]] #[{ accessFlags := 0, nameIndex := 9, descriptorIndex := 10, attributes := #[] }, { accessFlags := 9, nameIndex := 109, descriptorIndex := 110, attributes := #[] }, { accessFlags := 9, nameIndex := 15, descriptorIndex := 16, attributes := #[] }, { accessFlags := 8, nameIndex := 113, descriptorIndex := 114, attributes := #[] }, { accessFlags := 8, nameIndex := 73, descriptorIndex := 74, attributes := #[] }, { accessFlags := 9, nameIndex := 50, descriptorIndex := 51, attributes := #[] }, { accessFlags := 9, nameIndex := 121, descriptorIndex := 122, attributes := #[] }, { accessFlags := 8, nameIndex := 261, descriptorIndex := 262, attributes := #[] }, { accessFlags := 9, nameIndex := 117, descriptorIndex := 122, attributes := #[] }, { accessFlags := 9, nameIndex := 117, descriptorIndex := 118, attributes := #[] }, { accessFlags := 9, nameIndex := 121, descriptorIndex := 475, attributes := #[] }, { accessFlags := 9, nameIndex := 586, descriptorIndex := 114, attributes := #[] }, { accessFlags := 9, nameIndex := 392, descriptorIndex := 74, attributes := #[] }, { accessFlags := 9, nameIndex := 140, descriptorIndex := 141, attributes := #[] }, { accessFlags := 9, nameIndex := 69, descriptorIndex := 70, attributes := #[] }, { accessFlags := 9, nameIndex := 175, descriptorIndex := 99, attributes := #[] }] 48 6 #[] #[{ accessFlags := 26, nameIndex := 61, descriptorIndex := 62, attributes := #[] }, { accessFlags := 26, nameIndex := 65, descriptorIndex := 62, attributes := #[] }, { accessFlags := 24, nameIndex := 430, descriptorIndex := 62, attributes := #[] }, { accessFlags := 4120, nameIndex := 46, descriptorIndex := 47, attributes := #[] }])
  fields := #[{ name := "HI_BYTE_SHIFT", type := .int, accessFlags := 26, slot := 0, constantValue := 0 }, { name := "LO_BYTE_SHIFT", type := .int, accessFlags := 26, slot := 1, constantValue := 0 }, { name := "MAX_LENGTH", type := .int, accessFlags := 24, slot := 2, constantValue := 0 }, { name := "$assertionsDisabled", type := .boolean, accessFlags := 4120, slot := 3, constantValue := 0 }]
  methods := #[k19m0, k19m1, k19m2, k19m3, k19m4, k19m5, k19m6, k19m7, k19m8, k19m9, k19m10, k19m11, k19m12, k19m13, k19m14, k19m15]
  instanceTypes := #[]
  staticTypes := #[.int, .int, .int, .boolean]
  resolved := Array.replicate 635 none
  statics := some 2 }

def pool20 : Array CpInfo := pool [(9, u "<init>"), (6, .class_ 18), (1, u "java/lang/Object"), (0, u "()V"), (1, .class_ 23), (1, u "jdk/internal/util/ArraysSupport"), (0, u "LOG2_ARRAY_LONG_INDEX_SCALE"), (0, u "I"), (2, u "U"), (0, u "Ljdk/internal/misc/Unsafe;"), (8, u "BIG_ENDIAN"), (0, u "Z"), (8, u "LOG2_BYTE_BIT_SIZE"), (4, u "LOG2_ARRAY_INT_INDEX_SCALE"), (54, u "JLA"), (0, u "Ljdk/internal/access/JavaLangAccess;"), (11, u "LOG2_ARRAY_BOOLEAN_INDEX_SCALE"), (9, u "LOG2_ARRAY_BYTE_INDEX_SCALE"), (5, u "LOG2_ARRAY_CHAR_INDEX_SCALE"), (5, u "LOG2_ARRAY_SHORT_INDEX_SCALE"), (18, u "LOG2_ARRAY_FLOAT_INDEX_SCALE"), (24, u "LOG2_ARRAY_DOUBLE_INDEX_SCALE"), (89, u "T_BOOLEAN"), (2, u "T_CHAR"), (1, u "T_FLOAT"), (1, u "T_DOUBLE"), (1, u "T_BYTE"), (1, u "T_SHORT"), (1, u "T_INT"), (1, u "T_LONG"), (1, u "SOFT_MAX_ARRAY_LENGTH")] 83

def k20m0 : Method := { name := "<init>", desc := "()V", sig := { parameters := [], returnType := none }, accessFlags := 2, code := none }
/-- jdk/internal/util/ArraysSupport -/
def k20 : Class := { plain "jdk/internal/util/ArraysSupport" (some 0) with
  accessFlags := 33
  interfaces := #[]
  cf := some (fileOf pool20 21 #[] #[{ accessFlags := 2, nameIndex := 9, descriptorIndex := 19, attributes := #[] }] 33 16 #[] #[{ accessFlags := 24, nameIndex := 28, descriptorIndex := 29, attributes := #[] }, { accessFlags := 26, nameIndex := 38, descriptorIndex := 39, attributes := #[] }, { accessFlags := 25, nameIndex := 121, descriptorIndex := 25, attributes := #[] }, { accessFlags := 25, nameIndex := 131, descriptorIndex := 25, attributes := #[] }, { accessFlags := 25, nameIndex := 137, descriptorIndex := 25, attributes := #[] }, { accessFlags := 25, nameIndex := 143, descriptorIndex := 25, attributes := #[] }, { accessFlags := 25, nameIndex := 53, descriptorIndex := 25, attributes := #[] }, { accessFlags := 25, nameIndex := 24, descriptorIndex := 25, attributes := #[] }, { accessFlags := 25, nameIndex := 162, descriptorIndex := 25, attributes := #[] }, { accessFlags := 25, nameIndex := 187, descriptorIndex := 25, attributes := #[] }, { accessFlags := 26, nameIndex := 48, descriptorIndex := 25, attributes := #[] }, { accessFlags := 25, nameIndex := 277, descriptorIndex := 25, attributes := #[] }, { accessFlags := 25, nameIndex := 280, descriptorIndex := 25, attributes := #[] }, { accessFlags := 25, nameIndex := 282, descriptorIndex := 25, attributes := #[] }, { accessFlags := 25, nameIndex := 284, descriptorIndex := 25, attributes := #[] }, { accessFlags := 25, nameIndex := 286, descriptorIndex := 25, attributes := #[] }, { accessFlags := 25, nameIndex := 288, descriptorIndex := 25, attributes := #[] }, { accessFlags := 25, nameIndex := 290, descriptorIndex := 25, attributes := #[] }, { accessFlags := 25, nameIndex := 292, descriptorIndex := 25, attributes := #[] }, { accessFlags := 26, nameIndex := 108, descriptorIndex := 109, attributes := #[] }, { accessFlags := 25, nameIndex := 294, descriptorIndex := 25, attributes := #[] }])
  fields := #[{ name := "U", type := (.object "jdk/internal/misc/Unsafe"), accessFlags := 24, slot := 0, constantValue := 0 }, { name := "BIG_ENDIAN", type := .boolean, accessFlags := 26, slot := 1, constantValue := 0 }, { name := "LOG2_ARRAY_BOOLEAN_INDEX_SCALE", type := .int, accessFlags := 25, slot := 2, constantValue := 0 }, { name := "LOG2_ARRAY_BYTE_INDEX_SCALE", type := .int, accessFlags := 25, slot := 3, constantValue := 0 }, { name := "LOG2_ARRAY_CHAR_INDEX_SCALE", type := .int, accessFlags := 25, slot := 4, constantValue := 0 }, { name := "LOG2_ARRAY_SHORT_INDEX_SCALE", type := .int, accessFlags := 25, slot := 5, constantValue := 0 }, { name := "LOG2_ARRAY_INT_INDEX_SCALE", type := .int, accessFlags := 25, slot := 6, constantValue := 0 }, { name := "LOG2_ARRAY_LONG_INDEX_SCALE", type := .int, accessFlags := 25, slot := 7, constantValue := 0 }, { name := "LOG2_ARRAY_FLOAT_INDEX_SCALE", type := .int, accessFlags := 25, slot := 8, constantValue := 0 }, { name := "LOG2_ARRAY_DOUBLE_INDEX_SCALE", type := .int, accessFlags := 25, slot := 9, constantValue := 0 }, { name := "LOG2_BYTE_BIT_SIZE", type := .int, accessFlags := 26, slot := 10, constantValue := 0 }, { name := "T_BOOLEAN", type := .int, accessFlags := 25, slot := 11, constantValue := 0 }, { name := "T_CHAR", type := .int, accessFlags := 25, slot := 12, constantValue := 0 }, { name := "T_FLOAT", type := .int, accessFlags := 25, slot := 13, constantValue := 0 }, { name := "T_DOUBLE", type := .int, accessFlags := 25, slot := 14, constantValue := 0 }, { name := "T_BYTE", type := .int, accessFlags := 25, slot := 15, constantValue := 0 }, { name := "T_SHORT", type := .int, accessFlags := 25, slot := 16, constantValue := 0 }, { name := "T_INT", type := .int, accessFlags := 25, slot := 17, constantValue := 0 }, { name := "T_LONG", type := .int, accessFlags := 25, slot := 18, constantValue := 0 }, { name := "JLA", type := (.object "jdk/internal/access/JavaLangAccess"), accessFlags := 26, slot := 19, constantValue := 0 }, { name := "SOFT_MAX_ARRAY_LENGTH", type := .int, accessFlags := 25, slot := 20, constantValue := 0 }]
  methods := #[k20m0]
  instanceTypes := #[]
  staticTypes := #[(.object "jdk/internal/misc/Unsafe"), .boolean, .int, .int, .int, .int, .int, .int, .int, .int, .int, .int, .int, .int, .int, .int, .int, .int, .int, (.object "jdk/internal/access/JavaLangAccess"), .int]
  resolved := Array.replicate 378 none
  statics := none }

/-- the primitive byte -/
def k21 : Class := { plain "byte" none with kind := .primitive 'B', accessFlags := 0x411 }
/-- [B -/
def k22 : Class := { plain "[B" (some 0) with kind := .array 21 .byte, interfaces := #[18, 2], accessFlags := 1041 }

/-- the primitive char -/
def k23 : Class := { plain "char" none with kind := .primitive 'C', accessFlags := 0x411 }
/-- [C -/
def k24 : Class := { plain "[C" (some 0) with kind := .array 23 .char, interfaces := #[18, 2], accessFlags := 1041 }

/-- the primitive int -/
def k25 : Class := { plain "int" none with kind := .primitive 'I', accessFlags := 0x411 }
/-- [I -/
def k26 : Class := { plain "[I" (some 0) with kind := .array 25 .int, interfaces := #[18, 2], accessFlags := 1041 }

def heap : Heap := #[{ cls := 7, slots := #[.long 0, .int 1, .null, .int 0, .null, .int 0, .int 0], vm := .statics 7 },
  { cls := 15, slots := #[.null, .null, .null], vm := .statics 15 },
  { cls := 19, slots := #[.int 0, .int 8, .int 0, .int 1], vm := .statics 19 }]
def classes : Array Class := #[k0, k1, k2, k3, k4, k5, k6, k7, k8, k9, k10, k11, k12, k13, k14, k15, k16, k17, k18, k19, k20, k21, k22, k23, k24, k25, k26]
def interned : List (Array UInt16 × Addr) := []
def slotsUsed : Nat := 14
def theMethod : MethodId := ⟨1, 1⟩
def args0 : Array Value := #[.int 5, .int 6, .int 7, .int 2]
def aboutOver (below : List Frame) : State where
  vm := { classes := classes, interned := interned.toArray }
  heap := heap
  slotsUsed := slotsUsed
  threads := #[{ frames := .invoking theMethod args0 :: below }]
def below0 : List Frame := [.native { method := ⟨0, 0⟩, args := #[] }]
def about1 : State := aboutOver below0
def p0 : Program := .bare "" "" ""
def e0 : Env := launch0.env 0 0 0
theorem w_frames : about1.frames = Frame.invoking theMethod args0 :: below0 := rfl
set_option maxRecDepth 65536 in
theorem w_args : argsFit about1.vm theMethod args0 = true := by decide +kernel
set_option maxRecDepth 65536 in
theorem w_heap : heapFits about1 = true := by decide +kernel
set_option maxRecDepth 65536 in
theorem w_runnable : about1.curStatus? = some .runnable := by decide +kernel
set_option maxRecDepth 65536 in
theorem w_alone : about1.alone = true := by decide +kernel
set_option maxRecDepth 65536 in
theorem w_named : about1.methodNamed? x = some theMethod := by decide +kernel
set_option maxRecDepth 65536 in
theorem w_hears : about1.hears theMethod below0 = true := by decide +kernel
set_option maxRecDepth 65536 in
theorem w_ripe : about1.ripe theMethod args0 below0 = true := by decide +kernel
theorem w_running : about1.status = .running := rfl
set_option maxRecDepth 65536 in
theorem w_room : about1.hasRoom e0.platform room_1 = true :=
  launch0.hasRoom_least _ room_1 (by decide +kernel) (by decide +kernel) (by decide +kernel) (by decide +kernel) (by decide +kernel) (by decide +kernel)
theorem allAtoms_all (ts : List Jvm.Cond) (a : Array Jvm.Value) (st : Jvm.State) : (allAtoms ts).before a st = ts.all (fun c => c.before a st) := by
  induction ts with
  | nil => rfl
  | cons c t ih =>
    show (Jvm.Cond.and c (allAtoms t)).before a st = _
    rw [Jvm.Cond.before_and, ih, List.all_cons]
def words1 : List Jvm.Cond := Jvm.Cond.code x code maxLocals ret :: tables_1
/-- a 'code' word, met by the world's own term for the bytes: nothing is compared byte by byte -/
theorem code_word {y : MethodName} {bytes : ByteArray} {mx : Nat} {rt : Option FieldType} {a : Array Value} {s : State} {m : MethodId} {meth : Method} {c : Code} (h1 : s.methodNamed? y = some m) (h2 : s.vm.method? m = some meth) (h3 : meth.code = some c) (h4 : c.code = bytes)
    (h5 : (c.maxLocals == mx && c.exceptionTable.isEmpty && decide (c.maxStack ≤ mostOperands) && decide (meth.sig.returnType = rt) && !meth.locks && decide (parseMethodDescriptor y.desc = some meth.sig)) = true) : (Jvm.Cond.code y bytes mx rt).before a s = true := by
  simp only [Bool.and_eq_true, beq_iff_eq, Bool.not_eq_true', decide_eq_true_eq] at h5
  obtain ⟨⟨⟨⟨⟨g1, g2⟩, g3⟩, g4⟩, g5⟩, g6⟩ := h5
  simp [Cond.before, Cond.holds, Cond.value, h1, h2, h3, h4, g1, g2, g3, g4, g5, g6]
def isCode : Jvm.Cond → Bool
  | .code _ _ _ _ => true
  | _ => false
theorem all_split {L : List Jvm.Cond} {P : Jvm.Cond → Bool} (h1 : L.all (fun c => isCode c || P c) = true) (h2 : ∀ c ∈ L.filter isCode, P c = true) : L.all P = true := by
  refine List.all_eq_true.mpr fun c hc => ?_
  have h := List.all_eq_true.mp h1 c hc
  rcases Bool.eq_false_or_eq_true (isCode c) with hi | hi
  · exact h2 c (List.mem_filter.mpr ⟨hc, hi⟩)
  · simpa [hi] using h
set_option maxRecDepth 65536 in
theorem w_c0 : (Jvm.Cond.code x code maxLocals ret).before args0 about1 = true := code_word (m := ⟨1, 1⟩) (meth := k1m1) (c := k1c1) (by decide +kernel) rfl rfl rfl (by decide +kernel)
set_option maxRecDepth 65536 in
theorem w_c1 : (Jvm.Cond.code ({ cls := "com/example/firmhold/firmhold/io/InputRefusedExceptionOneLinePinLaw", name := "draw", desc := "(I)C" } : Jvm.MethodName) method_3_code (1 : Nat) (Option.some Jvm.ClassFile.FieldType.char)).before args0 about1 = true := code_word (m := ⟨1, 2⟩) (meth := k1m2) (c := k1c2) (by decide +kernel) rfl rfl rfl (by decide +kernel)
set_option maxRecDepth 65536 in
theorem w_c2 : (Jvm.Cond.code ({ cls := "com/example/firmhold/firmhold/io/InputRefusedExceptionOneLinePinLaw", name := "make", desc := "(ICCC)Ljava/lang/String;" } : Jvm.MethodName) method_5_code (5 : Nat) (Option.some (Jvm.ClassFile.FieldType.object "java/lang/String"))).before args0 about1 = true := code_word (m := ⟨1, 4⟩) (meth := k1m4) (c := k1c4) (by decide +kernel) rfl rfl rfl (by decide +kernel)
set_option maxRecDepth 65536 in
theorem w_c3 : (Jvm.Cond.code ({ cls := "java/lang/String", name := "valueOf", desc := "(C)Ljava/lang/String;" } : Jvm.MethodName) jdk_42_method_139_code (1 : Nat) (Option.some (Jvm.ClassFile.FieldType.object "java/lang/String"))).before args0 about1 = true := code_word (m := ⟨7, 5⟩) (meth := k7m5) (c := k7c5) (by decide +kernel) rfl rfl rfl (by decide +kernel)
set_option maxRecDepth 65536 in
theorem w_c4 : (Jvm.Cond.code ({ cls := "java/lang/StringLatin1", name := "canEncode", desc := "(C)Z" } : Jvm.MethodName) jdk_43_method_3_code (1 : Nat) (Option.some Jvm.ClassFile.FieldType.boolean)).before args0 about1 = true := code_word (m := ⟨8, 2⟩) (meth := k8m2) (c := k8c2) (by decide +kernel) rfl rfl rfl (by decide +kernel)
set_option maxRecDepth 65536 in
theorem w_c5 : (Jvm.Cond.code ({ cls := "java/lang/StringLatin1", name := "toBytes", desc := "(C)[B" } : Jvm.MethodName) jdk_43_method_46_code (1 : Nat) (Option.some (Jvm.ClassFile.FieldType.array Jvm.ClassFile.FieldType.byte))).before args0 about1 = true := code_word (m := ⟨8, 3⟩) (meth := k8m3) (c := k8c3) (by decide +kernel) rfl rfl rfl (by decide +kernel)
set_option maxRecDepth 65536 in
theorem w_c6 : (Jvm.Cond.code ({ cls := "java/lang/String", name := "<init>", desc := "([BB)V" } : Jvm.MethodName) jdk_42_method_151_code (3 : Nat) (Option.none : Option Jvm.ClassFile.FieldType)).before args0 about1 = true := code_word (m := ⟨7, 8⟩) (meth := k7m8) (c := k7c8) (by decide +kernel) rfl rfl rfl (by decide +kernel)
set_option maxRecDepth 65536 in
theorem w_c7 : (Jvm.Cond.code ({ cls := "java/lang/Object", name := "<init>", desc := "()V" } : Jvm.MethodName) object_method_1_code (1 : Nat) (Option.none : Option Jvm.ClassFile.FieldType)).before args0 about1 = true := code_word (m := ⟨0, 0⟩) (meth := k0m0) (c := k0c0) (by decide +kernel) rfl rfl rfl (by decide +kernel)
set_option maxRecDepth 65536 in
theorem w_c8 : (Jvm.Cond.code ({ cls := "com/example/firmhold/firmhold/io/InputRefusedException", name := "oneLine", desc := "(Ljava/lang/String;)Ljava/lang/String;" } : Jvm.MethodName) prog_71_method_2_code (4 : Nat) (Option.some (Jvm.ClassFile.FieldType.object "java/lang/String"))).before args0 about1 = true := code_word (m := ⟨11, 0⟩) (meth := k11m0) (c := k11c0) (by decide +kernel) rfl rfl rfl (by decide +kernel)
set_option maxRecDepth 65536 in
theorem w_c9 : (Jvm.Cond.code ({ cls := "java/lang/String", name := "length", desc := "()I" } : Jvm.MethodName) jdk_42_method_54_code (1 : Nat) (Option.some Jvm.ClassFile.FieldType.int)).before args0 about1 = true := code_word (m := ⟨7, 3⟩) (meth := k7m3) (c := k7c3) (by decide +kernel) rfl rfl rfl (by decide +kernel)
set_option maxRecDepth 65536 in
theorem w_c10 : (Jvm.Cond.code ({ cls := "java/lang/String", name := "coder", desc := "()B" } : Jvm.MethodName) jdk_42_method_152_code (1 : Nat) (Option.some Jvm.ClassFile.FieldType.byte)).before args0 about1 = true := code_word (m := ⟨7, 9⟩) (meth := k7m9) (c := k7c9) (by decide +kernel) rfl rfl rfl (by decide +kernel)
set_option maxRecDepth 65536 in
theorem w_c11 : (Jvm.Cond.code ({ cls := "java/lang/StringBuilder", name := "<init>", desc := "(I)V" } : Jvm.MethodName) jdk_67_method_2_code (2 : Nat) (Option.none : Option Jvm.ClassFile.FieldType)).before args0 about1 = true := code_word (m := ⟨14, 1⟩) (meth := k14m1) (c := k14c1) (by decide +kernel) rfl rfl rfl (by decide +kernel)
set_option maxRecDepth 65536 in
theorem w_c12 : (Jvm.Cond.code ({ cls := "java/lang/AbstractStringBuilder", name := "<init>", desc := "(I)V" } : Jvm.MethodName) jdk_68_method_2_code (2 : Nat) (Option.none : Option Jvm.ClassFile.FieldType)).before args0 about1 = true := code_word (m := ⟨13, 1⟩) (meth := k13m1) (c := k13c1) (by decide +kernel) rfl rfl rfl (by decide +kernel)
set_option maxRecDepth 65536 in
theorem w_c13 : (Jvm.Cond.code ({ cls := "java/lang/String", name := "charAt", desc := "(I)C" } : Jvm.MethodName) jdk_42_method_56_code (2 : Nat) (Option.some Jvm.ClassFile.FieldType.char)).before args0 about1 = true := code_word (m := ⟨7, 4⟩) (meth := k7m4) (c := k7c4) (by decide +kernel) rfl rfl rfl (by decide +kernel)
set_option maxRecDepth 65536 in
theorem w_c14 : (Jvm.Cond.code ({ cls := "java/lang/String", name := "isLatin1", desc := "()Z" } : Jvm.MethodName) jdk_42_method_154_code (1 : Nat) (Option.some Jvm.ClassFile.FieldType.boolean)).before args0 about1 = true := code_word (m := ⟨7, 10⟩) (meth := k7m10) (c := k7c10) (by decide +kernel) rfl rfl rfl (by decide +kernel)
set_option maxRecDepth 65536 in
theorem w_c15 : (Jvm.Cond.code ({ cls := "java/lang/StringLatin1", name := "charAt", desc := "([BI)C" } : Jvm.MethodName) jdk_43_method_2_code (2 : Nat) (Option.some Jvm.ClassFile.FieldType.char)).before args0 about1 = true := code_word (m := ⟨8, 1⟩) (meth := k8m1) (c := k8c1) (by decide +kernel) rfl rfl rfl (by decide +kernel)
set_option maxRecDepth 65536 in
theorem w_c16 : (Jvm.Cond.code ({ cls := "java/lang/String", name := "checkIndex", desc := "(II)V" } : Jvm.MethodName) jdk_42_method_155_code (2 : Nat) (Option.none : Option Jvm.ClassFile.FieldType)).before args0 about1 = true := code_word (m := ⟨7, 11⟩) (meth := k7m11) (c := k7c11) (by decide +kernel) rfl rfl rfl (by decide +kernel)
set_option maxRecDepth 65536 in
theorem w_c17 : (Jvm.Cond.code ({ cls := "jdk/internal/util/Preconditions", name := "checkIndex", desc := "(IILjava/util/function/BiFunction;)I" } : Jvm.MethodName) jdk_41_method_11_code (3 : Nat) (Option.some Jvm.ClassFile.FieldType.int)).before args0 about1 = true := code_word (m := ⟨15, 1⟩) (meth := k15m1) (c := k15c1) (by decide +kernel) rfl rfl rfl (by decide +kernel)
set_option maxRecDepth 65536 in
theorem w_c18 : (Jvm.Cond.code ({ cls := "java/lang/Character", name := "isISOControl", desc := "(C)Z" } : Jvm.MethodName) jdk_89_method_88_code (1 : Nat) (Option.some Jvm.ClassFile.FieldType.boolean)).before args0 about1 = true := code_word (m := ⟨16, 0⟩) (meth := k16m0) (c := k16c0) (by decide +kernel) rfl rfl rfl (by decide +kernel)
set_option maxRecDepth 65536 in
theorem w_c19 : (Jvm.Cond.code ({ cls := "java/lang/Character", name := "isISOControl", desc := "(I)Z" } : Jvm.MethodName) jdk_89_method_89_code (1 : Nat) (Option.some Jvm.ClassFile.FieldType.boolean)).before args0 about1 = true := code_word (m := ⟨16, 1⟩) (meth := k16m1) (c := k16c1) (by decide +kernel) rfl rfl rfl (by decide +kernel)
set_option maxRecDepth 65536 in
theorem w_c20 : (Jvm.Cond.code ({ cls := "java/lang/StringBuilder", name := "append", desc := "(C)Ljava/lang/StringBuilder;" } : Jvm.MethodName) jdk_67_method_14_code (2 : Nat) (Option.some (Jvm.ClassFile.FieldType.object "java/lang/StringBuilder"))).before args0 about1 = true := code_word (m := ⟨14, 2⟩) (meth := k14m2) (c := k14c2) (by decide +kernel) rfl rfl rfl (by decide +kernel)
set_option maxRecDepth 65536 in
theorem w_c21 : (Jvm.Cond.code ({ cls := "java/lang/AbstractStringBuilder", name := "append", desc := "(C)Ljava/lang/AbstractStringBuilder;" } : Jvm.MethodName) jdk_68_method_31_code (2 : Nat) (Option.some (Jvm.ClassFile.FieldType.object "java/lang/AbstractStringBuilder"))).before args0 about1 = true := code_word (m := ⟨13, 5⟩) (meth := k13m5) (c := k13c5) (by decide +kernel) rfl rfl rfl (by decide +kernel)
set_option maxRecDepth 65536 in
theorem w_c22 : (Jvm.Cond.code ({ cls := "java/lang/AbstractStringBuilder", name := "ensureCapacityInternal", desc := "(I)V" } : Jvm.MethodName) jdk_68_method_9_code (3 : Nat) (Option.none : Option Jvm.ClassFile.FieldType)).before args0 about1 = true := code_word (m := ⟨13, 3⟩) (meth := k13m3) (c := k13c3) (by decide +kernel) rfl rfl rfl (by decide +kernel)
set_option maxRecDepth 65536 in
theorem w_c23 : (Jvm.Cond.code ({ cls := "java/lang/AbstractStringBuilder", name := "isLatin1", desc := "()Z" } : Jvm.MethodName) jdk_68_method_68_code (1 : Nat) (Option.some Jvm.ClassFile.FieldType.boolean)).before args0 about1 = true := code_word (m := ⟨13, 7⟩) (meth := k13m7) (c := k13c7) (by decide +kernel) rfl rfl rfl (by decide +kernel)
set_option maxRecDepth 65536 in
theorem w_c24 : (Jvm.Cond.code ({ cls := "java/lang/StringBuilder", name := "toString", desc := "()Ljava/lang/String;" } : Jvm.MethodName) jdk_67_method_42_code (1 : Nat) (Option.some (Jvm.ClassFile.FieldType.object "java/lang/String"))).before args0 about1 = true := code_word (m := ⟨14, 3⟩) (meth := k14m3) (c := k14c3) (by decide +kernel) rfl rfl rfl (by decide +kernel)
set_option maxRecDepth 65536 in
theorem w_c25 : (Jvm.Cond.code ({ cls := "java/lang/String", name := "<init>", desc := "(Ljava/lang/StringBuilder;)V" } : Jvm.MethodName) jdk_42_method_53_code (2 : Nat) (Option.none : Option Jvm.ClassFile.FieldType)).before args0 about1 = true := code_word (m := ⟨7, 2⟩) (meth := k7m2) (c := k7c2) (by decide +kernel) rfl rfl rfl (by decide +kernel)
set_option maxRecDepth 65536 in
theorem w_c26 : (Jvm.Cond.code ({ cls := "java/lang/String", name := "<init>", desc := "(Ljava/lang/AbstractStringBuilder;Ljava/lang/Void;)V" } : Jvm.MethodName) jdk_42_method_150_code (5 : Nat) (Option.none : Option Jvm.ClassFile.FieldType)).before args0 about1 = true := code_word (m := ⟨7, 7⟩) (meth := k7m7) (c := k7c7) (by decide +kernel) rfl rfl rfl (by decide +kernel)
set_option maxRecDepth 65536 in
theorem w_c27 : (Jvm.Cond.code ({ cls := "java/lang/AbstractStringBuilder", name := "getValue", desc := "()[B" } : Jvm.MethodName) jdk_68_method_64_code (1 : Nat) (Option.some (Jvm.ClassFile.FieldType.array Jvm.ClassFile.FieldType.byte))).before args0 about1 = true := code_word (m := ⟨13, 6⟩) (meth := k13m6) (c := k13c6) (by decide +kernel) rfl rfl rfl (by decide +kernel)
set_option maxRecDepth 65536 in
theorem w_c28 : (Jvm.Cond.code ({ cls := "java/lang/StringBuilder", name := "length", desc := "()I" } : Jvm.MethodName) jdk_67_method_93_code (1 : Nat) (Option.some Jvm.ClassFile.FieldType.int)).before args0 about1 = true := code_word (m := ⟨14, 4⟩) (meth := k14m4) (c := k14c4) (by decide +kernel) rfl rfl rfl (by decide +kernel)
set_option maxRecDepth 65536 in
theorem w_c29 : (Jvm.Cond.code ({ cls := "java/lang/AbstractStringBuilder", name := "length", desc := "()I" } : Jvm.MethodName) jdk_68_method_6_code (1 : Nat) (Option.some Jvm.ClassFile.FieldType.int)).before args0 about1 = true := code_word (m := ⟨13, 2⟩) (meth := k13m2) (c := k13c2) (by decide +kernel) rfl rfl rfl (by decide +kernel)
set_option maxRecDepth 65536 in
theorem w_c30 : (Jvm.Cond.code ({ cls := "java/util/Arrays", name := "copyOfRange", desc := "([BII)[B" } : Jvm.MethodName) jdk_65_method_132_code (3 : Nat) (Option.some (Jvm.ClassFile.FieldType.array Jvm.ClassFile.FieldType.byte))).before args0 about1 = true := code_word (m := ⟨17, 1⟩) (meth := k17m1) (c := k17c1) (by decide +kernel) rfl rfl rfl (by decide +kernel)
set_option maxRecDepth 65536 in
theorem w_c31 : (Jvm.Cond.code ({ cls := "com/example/firmhold/firmhold/io/InputRefusedExceptionOneLinePinLaw", name := "shown", desc := "(C)C" } : Jvm.MethodName) method_4_code (1 : Nat) (Option.some Jvm.ClassFile.FieldType.char)).before args0 about1 = true := code_word (m := ⟨1, 3⟩) (meth := k1m3) (c := k1c3) (by decide +kernel) rfl rfl rfl (by decide +kernel)
set_option maxRecDepth 65536 in
theorem w_c32 : (Jvm.Cond.code ({ cls := "java/lang/String", name := "<init>", desc := "([C)V" } : Jvm.MethodName) jdk_42_method_3_code (2 : Nat) (Option.none : Option Jvm.ClassFile.FieldType)).before args0 about1 = true := code_word (m := ⟨7, 1⟩) (meth := k7m1) (c := k7c1) (by decide +kernel) rfl rfl rfl (by decide +kernel)
set_option maxRecDepth 65536 in
theorem w_c33 : (Jvm.Cond.code ({ cls := "java/lang/String", name := "<init>", desc := "([CIILjava/lang/Void;)V" } : Jvm.MethodName) jdk_42_method_149_code (6 : Nat) (Option.none : Option Jvm.ClassFile.FieldType)).before args0 about1 = true := code_word (m := ⟨7, 6⟩) (meth := k7m6) (c := k7c6) (by decide +kernel) rfl rfl rfl (by decide +kernel)
set_option maxRecDepth 65536 in
theorem w_c34 : (Jvm.Cond.code ({ cls := "java/lang/StringUTF16", name := "compress", desc := "([CII)[B" } : Jvm.MethodName) jdk_52_method_16_code (6 : Nat) (Option.some (Jvm.ClassFile.FieldType.array Jvm.ClassFile.FieldType.byte))).before args0 about1 = true := code_word (m := ⟨19, 8⟩) (meth := k19m8) (c := k19c8) (by decide +kernel) rfl rfl rfl (by decide +kernel)
set_option maxRecDepth 65536 in
theorem w_c35 : (Jvm.Cond.code ({ cls := "java/lang/StringUTF16", name := "compress", desc := "([CI[BII)I" } : Jvm.MethodName) jdk_52_method_21_code (7 : Nat) (Option.some Jvm.ClassFile.FieldType.int)).before args0 about1 = true := code_word (m := ⟨19, 9⟩) (meth := k19m9) (c := k19c9) (by decide +kernel) rfl rfl rfl (by decide +kernel)
set_option maxRecDepth 65536 in
theorem w_c36 : (Jvm.Cond.code ({ cls := "java/lang/StringUTF16", name := "coderFromArrayLen", desc := "([BI)B" } : Jvm.MethodName) jdk_52_method_15_code (2 : Nat) (Option.some Jvm.ClassFile.FieldType.byte)).before args0 about1 = true := code_word (m := ⟨19, 7⟩) (meth := k19m7) (c := k19c7) (by decide +kernel) rfl rfl rfl (by decide +kernel)
set_option maxRecDepth 65536 in
theorem w_c37 : (Jvm.Cond.code ({ cls := "java/lang/StringUTF16", name := "toBytes", desc := "([CII)[B" } : Jvm.MethodName) jdk_52_method_14_code (5 : Nat) (Option.some (Jvm.ClassFile.FieldType.array Jvm.ClassFile.FieldType.byte))).before args0 about1 = true := code_word (m := ⟨19, 6⟩) (meth := k19m6) (c := k19c6) (by decide +kernel) rfl rfl rfl (by decide +kernel)
set_option maxRecDepth 65536 in
theorem w_c38 : (Jvm.Cond.code ({ cls := "java/lang/StringUTF16", name := "newBytesFor", desc := "(I)[B" } : Jvm.MethodName) jdk_52_method_2_code (1 : Nat) (Option.some (Jvm.ClassFile.FieldType.array Jvm.ClassFile.FieldType.byte))).before args0 about1 = true := code_word (m := ⟨19, 1⟩) (meth := k19m1) (c := k19c1) (by decide +kernel) rfl rfl rfl (by decide +kernel)
set_option maxRecDepth 65536 in
theorem w_c39 : (Jvm.Cond.code ({ cls := "java/lang/StringUTF16", name := "newBytesLength", desc := "(I)I" } : Jvm.MethodName) jdk_52_method_3_code (1 : Nat) (Option.some Jvm.ClassFile.FieldType.int)).before args0 about1 = true := code_word (m := ⟨19, 2⟩) (meth := k19m2) (c := k19c2) (by decide +kernel) rfl rfl rfl (by decide +kernel)
set_option maxRecDepth 65536 in
theorem w_c40 : (Jvm.Cond.code ({ cls := "java/lang/StringUTF16", name := "putChar", desc := "([BII)V" } : Jvm.MethodName) jdk_52_method_4_code (3 : Nat) (Option.none : Option Jvm.ClassFile.FieldType)).before args0 about1 = true := code_word (m := ⟨19, 3⟩) (meth := k19m3) (c := k19c3) (by decide +kernel) rfl rfl rfl (by decide +kernel)
set_option maxRecDepth 65536 in
theorem w_c41 : (Jvm.Cond.code ({ cls := "java/lang/StringUTF16", name := "getChar", desc := "([BI)C" } : Jvm.MethodName) jdk_52_method_5_code (2 : Nat) (Option.some Jvm.ClassFile.FieldType.char)).before args0 about1 = true := code_word (m := ⟨19, 4⟩) (meth := k19m4) (c := k19c4) (by decide +kernel) rfl rfl rfl (by decide +kernel)
set_option maxRecDepth 65536 in
theorem w_c42 : (Jvm.Cond.code ({ cls := "java/lang/StringUTF16", name := "charAt", desc := "([BI)C" } : Jvm.MethodName) jdk_52_method_83_code (2 : Nat) (Option.some Jvm.ClassFile.FieldType.char)).before args0 about1 = true := code_word (m := ⟨19, 12⟩) (meth := k19m12) (c := k19c12) (by decide +kernel) rfl rfl rfl (by decide +kernel)
set_option maxRecDepth 65536 in
theorem w_c43 : (Jvm.Cond.code ({ cls := "java/lang/StringUTF16", name := "checkIndex", desc := "(I[B)V" } : Jvm.MethodName) jdk_52_method_91_code (2 : Nat) (Option.none : Option Jvm.ClassFile.FieldType)).before args0 about1 = true := code_word (m := ⟨19, 14⟩) (meth := k19m14) (c := k19c14) (by decide +kernel) rfl rfl rfl (by decide +kernel)
set_option maxRecDepth 65536 in
theorem w_c44 : (Jvm.Cond.code ({ cls := "java/lang/StringUTF16", name := "length", desc := "([B)I" } : Jvm.MethodName) jdk_52_method_6_code (1 : Nat) (Option.some Jvm.ClassFile.FieldType.int)).before args0 about1 = true := code_word (m := ⟨19, 5⟩) (meth := k19m5) (c := k19c5) (by decide +kernel) rfl rfl rfl (by decide +kernel)
set_option maxRecDepth 65536 in
theorem w_c45 : (Jvm.Cond.code ({ cls := "java/lang/AbstractStringBuilder", name := "inflate", desc := "()V" } : Jvm.MethodName) jdk_68_method_11_code (2 : Nat) (Option.none : Option Jvm.ClassFile.FieldType)).before args0 about1 = true := code_word (m := ⟨13, 4⟩) (meth := k13m4) (c := k13c4) (by decide +kernel) rfl rfl rfl (by decide +kernel)
set_option maxRecDepth 65536 in
theorem w_c46 : (Jvm.Cond.code ({ cls := "java/lang/StringLatin1", name := "inflate", desc := "([BI[BII)V" } : Jvm.MethodName) jdk_43_method_50_code (5 : Nat) (Option.none : Option Jvm.ClassFile.FieldType)).before args0 about1 = true := code_word (m := ⟨8, 4⟩) (meth := k8m4) (c := k8c4) (by decide +kernel) rfl rfl rfl (by decide +kernel)
set_option maxRecDepth 65536 in
theorem w_c47 : (Jvm.Cond.code ({ cls := "java/lang/StringUTF16", name := "inflate", desc := "([BI[BII)V" } : Jvm.MethodName) jdk_52_method_86_code (6 : Nat) (Option.none : Option Jvm.ClassFile.FieldType)).before args0 about1 = true := code_word (m := ⟨19, 13⟩) (meth := k19m13) (c := k19c13) (by decide +kernel) rfl rfl rfl (by decide +kernel)
set_option maxRecDepth 65536 in
theorem w_c48 : (Jvm.Cond.code ({ cls := "java/lang/StringUTF16", name := "checkBoundsOffCount", desc := "(II[B)V" } : Jvm.MethodName) jdk_52_method_94_code (3 : Nat) (Option.none : Option Jvm.ClassFile.FieldType)).before args0 about1 = true := code_word (m := ⟨19, 15⟩) (meth := k19m15) (c := k19c15) (by decide +kernel) rfl rfl rfl (by decide +kernel)
set_option maxRecDepth 65536 in
theorem w_c49 : (Jvm.Cond.code ({ cls := "java/lang/String", name := "checkBoundsOffCount", desc := "(III)I" } : Jvm.MethodName) jdk_42_method_157_code (3 : Nat) (Option.some Jvm.ClassFile.FieldType.int)).before args0 about1 = true := code_word (m := ⟨7, 12⟩) (meth := k7m12) (c := k7c12) (by decide +kernel) rfl rfl rfl (by decide +kernel)
set_option maxRecDepth 65536 in
theorem w_c50 : (Jvm.Cond.code ({ cls := "jdk/internal/util/Preconditions", name := "checkFromIndexSize", desc := "(IIILjava/util/function/BiFunction;)I" } : Jvm.MethodName) jdk_41_method_13_code (4 : Nat) (Option.some Jvm.ClassFile.FieldType.int)).before args0 about1 = true := code_word (m := ⟨15, 2⟩) (meth := k15m2) (c := k15c2) (by decide +kernel) rfl rfl rfl (by decide +kernel)
set_option maxRecDepth 65536 in
theorem w_c51 : (Jvm.Cond.code ({ cls := "java/lang/StringUTF16", name := "putCharSB", desc := "([BII)V" } : Jvm.MethodName) jdk_52_method_71_code (3 : Nat) (Option.none : Option Jvm.ClassFile.FieldType)).before args0 about1 = true := code_word (m := ⟨19, 11⟩) (meth := k19m11) (c := k19c11) (by decide +kernel) rfl rfl rfl (by decide +kernel)
set_option maxRecDepth 65536 in
theorem w_c52 : (Jvm.Cond.code ({ cls := "java/lang/StringUTF16", name := "toBytes", desc := "(C)[B" } : Jvm.MethodName) jdk_52_method_24_code (2 : Nat) (Option.some (Jvm.ClassFile.FieldType.array Jvm.ClassFile.FieldType.byte))).before args0 about1 = true := code_word (m := ⟨19, 10⟩) (meth := k19m10) (c := k19c10) (by decide +kernel) rfl rfl rfl (by decide +kernel)
def codes1 : List Jvm.Cond := [Jvm.Cond.code x code maxLocals ret, Jvm.Cond.code ({ cls := "com/example/firmhold/firmhold/io/InputRefusedExceptionOneLinePinLaw", name := "draw", desc := "(I)C" } : Jvm.MethodName) method_3_code (1 : Nat) (Option.some Jvm.ClassFile.FieldType.char), Jvm.Cond.code ({ cls := "com/example/firmhold/firmhold/io/InputRefusedExceptionOneLinePinLaw", name := "make", desc := "(ICCC)Ljava/lang/String;" } : Jvm.MethodName) method_5_code (5 : Nat) (Option.some (Jvm.ClassFile.FieldType.object "java/lang/String")), Jvm.Cond.code ({ cls := "java/lang/String", name := "valueOf", desc := "(C)Ljava/lang/String;" } : Jvm.MethodName) jdk_42_method_139_code (1 : Nat) (Option.some (Jvm.ClassFile.FieldType.object "java/lang/String")), Jvm.Cond.code ({ cls := "java/lang/StringLatin1", name := "canEncode", desc := "(C)Z" } : Jvm.MethodName) jdk_43_method_3_code (1 : Nat) (Option.some Jvm.ClassFile.FieldType.boolean), Jvm.Cond.code ({ cls := "java/lang/StringLatin1", name := "toBytes", desc := "(C)[B" } : Jvm.MethodName) jdk_43_method_46_code (1 : Nat) (Option.some (Jvm.ClassFile.FieldType.array Jvm.ClassFile.FieldType.byte)), Jvm.Cond.code ({ cls := "java/lang/String", name := "<init>", desc := "([BB)V" } : Jvm.MethodName) jdk_42_method_151_code (3 : Nat) (Option.none : Option Jvm.ClassFile.FieldType), Jvm.Cond.code ({ cls := "java/lang/Object", name := "<init>", desc := "()V" } : Jvm.MethodName) object_method_1_code (1 : Nat) (Option.none : Option Jvm.ClassFile.FieldType), Jvm.Cond.code ({ cls := "com/example/firmhold/firmhold/io/InputRefusedException", name := "oneLine", desc := "(Ljava/lang/String;)Ljava/lang/String;" } : Jvm.MethodName) prog_71_method_2_code (4 : Nat) (Option.some (Jvm.ClassFile.FieldType.object "java/lang/String")), Jvm.Cond.code ({ cls := "java/lang/String", name := "length", desc := "()I" } : Jvm.MethodName) jdk_42_method_54_code (1 : Nat) (Option.some Jvm.ClassFile.FieldType.int), Jvm.Cond.code ({ cls := "java/lang/String", name := "coder", desc := "()B" } : Jvm.MethodName) jdk_42_method_152_code (1 : Nat) (Option.some Jvm.ClassFile.FieldType.byte), Jvm.Cond.code ({ cls := "java/lang/StringBuilder", name := "<init>", desc := "(I)V" } : Jvm.MethodName) jdk_67_method_2_code (2 : Nat) (Option.none : Option Jvm.ClassFile.FieldType), Jvm.Cond.code ({ cls := "java/lang/AbstractStringBuilder", name := "<init>", desc := "(I)V" } : Jvm.MethodName) jdk_68_method_2_code (2 : Nat) (Option.none : Option Jvm.ClassFile.FieldType), Jvm.Cond.code ({ cls := "java/lang/String", name := "charAt", desc := "(I)C" } : Jvm.MethodName) jdk_42_method_56_code (2 : Nat) (Option.some Jvm.ClassFile.FieldType.char), Jvm.Cond.code ({ cls := "java/lang/String", name := "isLatin1", desc := "()Z" } : Jvm.MethodName) jdk_42_method_154_code (1 : Nat) (Option.some Jvm.ClassFile.FieldType.boolean), Jvm.Cond.code ({ cls := "java/lang/StringLatin1", name := "charAt", desc := "([BI)C" } : Jvm.MethodName) jdk_43_method_2_code (2 : Nat) (Option.some Jvm.ClassFile.FieldType.char), Jvm.Cond.code ({ cls := "java/lang/String", name := "checkIndex", desc := "(II)V" } : Jvm.MethodName) jdk_42_method_155_code (2 : Nat) (Option.none : Option Jvm.ClassFile.FieldType), Jvm.Cond.code ({ cls := "jdk/internal/util/Preconditions", name := "checkIndex", desc := "(IILjava/util/function/BiFunction;)I" } : Jvm.MethodName) jdk_41_method_11_code (3 : Nat) (Option.some Jvm.ClassFile.FieldType.int), Jvm.Cond.code ({ cls := "java/lang/Character", name := "isISOControl", desc := "(C)Z" } : Jvm.MethodName) jdk_89_method_88_code (1 : Nat) (Option.some Jvm.ClassFile.FieldType.boolean), Jvm.Cond.code ({ cls := "java/lang/Character", name := "isISOControl", desc := "(I)Z" } : Jvm.MethodName) jdk_89_method_89_code (1 : Nat) (Option.some Jvm.ClassFile.FieldType.boolean), Jvm.Cond.code ({ cls := "java/lang/StringBuilder", name := "append", desc := "(C)Ljava/lang/StringBuilder;" } : Jvm.MethodName) jdk_67_method_14_code (2 : Nat) (Option.some (Jvm.ClassFile.FieldType.object "java/lang/StringBuilder")), Jvm.Cond.code ({ cls := "java/lang/AbstractStringBuilder", name := "append", desc := "(C)Ljava/lang/AbstractStringBuilder;" } : Jvm.MethodName) jdk_68_method_31_code (2 : Nat) (Option.some (Jvm.ClassFile.FieldType.object "java/lang/AbstractStringBuilder")), Jvm.Cond.code ({ cls := "java/lang/AbstractStringBuilder", name := "ensureCapacityInternal", desc := "(I)V" } : Jvm.MethodName) jdk_68_method_9_code (3 : Nat) (Option.none : Option Jvm.ClassFile.FieldType), Jvm.Cond.code ({ cls := "java/lang/AbstractStringBuilder", name := "isLatin1", desc := "()Z" } : Jvm.MethodName) jdk_68_method_68_code (1 : Nat) (Option.some Jvm.ClassFile.FieldType.boolean), Jvm.Cond.code ({ cls := "java/lang/StringBuilder", name := "toString", desc := "()Ljava/lang/String;" } : Jvm.MethodName) jdk_67_method_42_code (1 : Nat) (Option.some (Jvm.ClassFile.FieldType.object "java/lang/String")), Jvm.Cond.code ({ cls := "java/lang/String", name := "<init>", desc := "(Ljava/lang/StringBuilder;)V" } : Jvm.MethodName) jdk_42_method_53_code (2 : Nat) (Option.none : Option Jvm.ClassFile.FieldType), Jvm.Cond.code ({ cls := "java/lang/String", name := "<init>", desc := "(Ljava/lang/AbstractStringBuilder;Ljava/lang/Void;)V" } : Jvm.MethodName) jdk_42_method_150_code (5 : Nat) (Option.none : Option Jvm.ClassFile.FieldType), Jvm.Cond.code ({ cls := "java/lang/AbstractStringBuilder", name := "getValue", desc := "()[B" } : Jvm.MethodName) jdk_68_method_64_code (1 : Nat) (Option.some (Jvm.ClassFile.FieldType.array Jvm.ClassFile.FieldType.byte)), Jvm.Cond.code ({ cls := "java/lang/StringBuilder", name := "length", desc := "()I" } : Jvm.MethodName) jdk_67_method_93_code (1 : Nat) (Option.some Jvm.ClassFile.FieldType.int), Jvm.Cond.code ({ cls := "java/lang/AbstractStringBuilder", name := "length", desc := "()I" } : Jvm.MethodName) jdk_68_method_6_code (1 : Nat) (Option.some Jvm.ClassFile.FieldType.int), Jvm.Cond.code ({ cls := "java/util/Arrays", name := "copyOfRange", desc := "([BII)[B" } : Jvm.MethodName) jdk_65_method_132_code (3 : Nat) (Option.some (Jvm.ClassFile.FieldType.array Jvm.ClassFile.FieldType.byte)), Jvm.Cond.code ({ cls := "com/example/firmhold/firmhold/io/InputRefusedExceptionOneLinePinLaw", name := "shown", desc := "(C)C" } : Jvm.MethodName) method_4_code (1 : Nat) (Option.some Jvm.ClassFile.FieldType.char), Jvm.Cond.code ({ cls := "java/lang/String", name := "<init>", desc := "([C)V" } : Jvm.MethodName) jdk_42_method_3_code (2 : Nat) (Option.none : Option Jvm.ClassFile.FieldType), Jvm.Cond.code ({ cls := "java/lang/String", name := "<init>", desc := "([CIILjava/lang/Void;)V" } : Jvm.MethodName) jdk_42_method_149_code (6 : Nat) (Option.none : Option Jvm.ClassFile.FieldType), Jvm.Cond.code ({ cls := "java/lang/StringUTF16", name := "compress", desc := "([CII)[B" } : Jvm.MethodName) jdk_52_method_16_code (6 : Nat) (Option.some (Jvm.ClassFile.FieldType.array Jvm.ClassFile.FieldType.byte)), Jvm.Cond.code ({ cls := "java/lang/StringUTF16", name := "compress", desc := "([CI[BII)I" } : Jvm.MethodName) jdk_52_method_21_code (7 : Nat) (Option.some Jvm.ClassFile.FieldType.int), Jvm.Cond.code ({ cls := "java/lang/StringUTF16", name := "coderFromArrayLen", desc := "([BI)B" } : Jvm.MethodName) jdk_52_method_15_code (2 : Nat) (Option.some Jvm.ClassFile.FieldType.byte), Jvm.Cond.code ({ cls := "java/lang/StringUTF16", name := "toBytes", desc := "([CII)[B" } : Jvm.MethodName) jdk_52_method_14_code (5 : Nat) (Option.some (Jvm.ClassFile.FieldType.array Jvm.ClassFile.FieldType.byte)), Jvm.Cond.code ({ cls := "java/lang/StringUTF16", name := "newBytesFor", desc := "(I)[B" } : Jvm.MethodName) jdk_52_method_2_code (1 : Nat) (Option.some (Jvm.ClassFile.FieldType.array Jvm.ClassFile.FieldType.byte)), Jvm.Cond.code ({ cls := "java/lang/StringUTF16", name := "newBytesLength", desc := "(I)I" } : Jvm.MethodName) jdk_52_method_3_code (1 : Nat) (Option.some Jvm.ClassFile.FieldType.int), Jvm.Cond.code ({ cls := "java/lang/StringUTF16", name := "putChar", desc := "([BII)V" } : Jvm.MethodName) jdk_52_method_4_code (3 : Nat) (Option.none : Option Jvm.ClassFile.FieldType), Jvm.Cond.code ({ cls := "java/lang/StringUTF16", name := "getChar", desc := "([BI)C" } : Jvm.MethodName) jdk_52_method_5_code (2 : Nat) (Option.some Jvm.ClassFile.FieldType.char), Jvm.Cond.code ({ cls := "java/lang/StringUTF16", name := "charAt", desc := "([BI)C" } : Jvm.MethodName) jdk_52_method_83_code (2 : Nat) (Option.some Jvm.ClassFile.FieldType.char), Jvm.Cond.code ({ cls := "java/lang/StringUTF16", name := "checkIndex", desc := "(I[B)V" } : Jvm.MethodName) jdk_52_method_91_code (2 : Nat) (Option.none : Option Jvm.ClassFile.FieldType), Jvm.Cond.code ({ cls := "java/lang/StringUTF16", name := "length", desc := "([B)I" } : Jvm.MethodName) jdk_52_method_6_code (1 : Nat) (Option.some Jvm.ClassFile.FieldType.int), Jvm.Cond.code ({ cls := "java/lang/AbstractStringBuilder", name := "inflate", desc := "()V" } : Jvm.MethodName) jdk_68_method_11_code (2 : Nat) (Option.none : Option Jvm.ClassFile.FieldType), Jvm.Cond.code ({ cls := "java/lang/StringLatin1", name := "inflate", desc := "([BI[BII)V" } : Jvm.MethodName) jdk_43_method_50_code (5 : Nat) (Option.none : Option Jvm.ClassFile.FieldType), Jvm.Cond.code ({ cls := "java/lang/StringUTF16", name := "inflate", desc := "([BI[BII)V" } : Jvm.MethodName) jdk_52_method_86_code (6 : Nat) (Option.none : Option Jvm.ClassFile.FieldType), Jvm.Cond.code ({ cls := "java/lang/StringUTF16", name := "checkBoundsOffCount", desc := "(II[B)V" } : Jvm.MethodName) jdk_52_method_94_code (3 : Nat) (Option.none : Option Jvm.ClassFile.FieldType), Jvm.Cond.code ({ cls := "java/lang/String", name := "checkBoundsOffCount", desc := "(III)I" } : Jvm.MethodName) jdk_42_method_157_code (3 : Nat) (Option.some Jvm.ClassFile.FieldType.int), Jvm.Cond.code ({ cls := "jdk/internal/util/Preconditions", name := "checkFromIndexSize", desc := "(IIILjava/util/function/BiFunction;)I" } : Jvm.MethodName) jdk_41_method_13_code (4 : Nat) (Option.some Jvm.ClassFile.FieldType.int), Jvm.Cond.code ({ cls := "java/lang/StringUTF16", name := "putCharSB", desc := "([BII)V" } : Jvm.MethodName) jdk_52_method_71_code (3 : Nat) (Option.none : Option Jvm.ClassFile.FieldType), Jvm.Cond.code ({ cls := "java/lang/StringUTF16", name := "toBytes", desc := "(C)[B" } : Jvm.MethodName) jdk_52_method_24_code (2 : Nat) (Option.some (Jvm.ClassFile.FieldType.array Jvm.ClassFile.FieldType.byte))]
set_option maxRecDepth 65536 in
theorem codes_eq : words1.filter isCode = codes1 := rfl
theorem w_codes : ∀ c ∈ words1.filter isCode, c.before args0 about1 = true := by
  rw [codes_eq]
  intro c hc
  simp only [codes1, List.mem_cons, List.not_mem_nil, or_false] at hc
  rcases hc with rfl | rfl | rfl | rfl | rfl | rfl | rfl | rfl | rfl | rfl | rfl | rfl | rfl | rfl | rfl | rfl | rfl | rfl | rfl | rfl | rfl | rfl | rfl | rfl | rfl | rfl | rfl | rfl | rfl | rfl | rfl | rfl | rfl | rfl | rfl | rfl | rfl | rfl | rfl | rfl | rfl | rfl | rfl | rfl | rfl | rfl | rfl | rfl | rfl | rfl | rfl | rfl | rfl
  · exact w_c0
  · exact w_c1
  · exact w_c2
  · exact w_c3
  · exact w_c4
  · exact w_c5
  · exact w_c6
  · exact w_c7
  · exact w_c8
  · exact w_c9
  · exact w_c10
  · exact w_c11
  · exact w_c12
  · exact w_c13
  · exact w_c14
  · exact w_c15
  · exact w_c16
  · exact w_c17
  · exact w_c18
  · exact w_c19
  · exact w_c20
  · exact w_c21
  · exact w_c22
  · exact w_c23
  · exact w_c24
  · exact w_c25
  · exact w_c26
  · exact w_c27
  · exact w_c28
  · exact w_c29
  · exact w_c30
  · exact w_c31
  · exact w_c32
  · exact w_c33
  · exact w_c34
  · exact w_c35
  · exact w_c36
  · exact w_c37
  · exact w_c38
  · exact w_c39
  · exact w_c40
  · exact w_c41
  · exact w_c42
  · exact w_c43
  · exact w_c44
  · exact w_c45
  · exact w_c46
  · exact w_c47
  · exact w_c48
  · exact w_c49
  · exact w_c50
  · exact w_c51
  · exact w_c52
set_option maxRecDepth 65536 in
theorem w_t1 : (words1.take 24).all (fun c => isCode c || c.before args0 about1) = true := by decide +kernel
set_option maxRecDepth 65536 in
theorem w_t2 : ((words1.drop 24).take 24).all (fun c => isCode c || c.before args0 about1) = true := by decide +kernel
set_option maxRecDepth 65536 in
theorem w_t3 : (((words1.drop 24).drop 24).take 24).all (fun c => isCode c || c.before args0 about1) = true := by decide +kernel
set_option maxRecDepth 65536 in
theorem w_t4 : ((((words1.drop 24).drop 24).drop 24).take 24).all (fun c => isCode c || c.before args0 about1) = true := by decide +kernel
set_option maxRecDepth 65536 in
theorem w_t5 : (((((words1.drop 24).drop 24).drop 24).drop 24).take 24).all (fun c => isCode c || c.before args0 about1) = true := by decide +kernel
set_option maxRecDepth 65536 in
theorem w_t6 : ((((((words1.drop 24).drop 24).drop 24).drop 24).drop 24).take 24).all (fun c => isCode c || c.before args0 about1) = true := by decide +kernel
set_option maxRecDepth 65536 in
theorem w_t7 : (((((((words1.drop 24).drop 24).drop 24).drop 24).drop 24).drop 24).take 24).all (fun c => isCode c || c.before args0 about1) = true := by decide +kernel
set_option maxRecDepth 65536 in
theorem w_t8 : ((((((((words1.drop 24).drop 24).drop 24).drop 24).drop 24).drop 24).drop 24).take 24).all (fun c => isCode c || c.before args0 about1) = true := by decide +kernel
set_option maxRecDepth 65536 in
theorem w_t9 : (((((((((words1.drop 24).drop 24).drop 24).drop 24).drop 24).drop 24).drop 24).drop 24).take 24).all (fun c => isCode c || c.before args0 about1) = true := by decide +kernel
set_option maxRecDepth 65536 in
theorem w_t10 : ((((((((((words1.drop 24).drop 24).drop 24).drop 24).drop 24).drop 24).drop 24).drop 24).drop 24).take 24).all (fun c => isCode c || c.before args0 about1) = true := by decide +kernel
set_option maxRecDepth 65536 in
theorem w_t11 : ((((((((((words1.drop 24).drop 24).drop 24).drop 24).drop 24).drop 24).drop 24).drop 24).drop 24).drop 24).all (fun c => isCode c || c.before args0 about1) = true := by decide +kernel
theorem w_tables : (allAtoms (Jvm.Cond.code x code maxLocals ret :: tables_1)).before args0 about1 = true := by
  rw [allAtoms_all]
  show words1.all (fun c => c.before args0 about1) = true
  refine all_split ?_ w_codes
  rw [← List.take_append_drop 24 words1, List.all_append, w_t1, ← List.take_append_drop 24 (words1.drop 24), List.all_append, w_t2, ← List.take_append_drop 24 ((words1.drop 24).drop 24), List.all_append, w_t3, ← List.take_append_drop 24 (((words1.drop 24).drop 24).drop 24), List.all_append, w_t4, ← List.take_append_drop 24 ((((words1.drop 24).drop 24).drop 24).drop 24), List.all_append, w_t5, ← List.take_append_drop 24 (((((words1.drop 24).drop 24).drop 24).drop 24).drop 24), List.all_append, w_t6, ← List.take_append_drop 24 ((((((words1.drop 24).drop 24).drop 24).drop 24).drop 24).drop 24), List.all_append, w_t7, ← List.take_append_drop 24 (((((((words1.drop 24).drop 24).drop 24).drop 24).drop 24).drop 24).drop 24), List.all_append, w_t8, ← List.take_append_drop 24 ((((((((words1.drop 24).drop 24).drop 24).drop 24).drop 24).drop 24).drop 24).drop 24), List.all_append, w_t9, ← List.take_append_drop 24 (((((((((words1.drop 24).drop 24).drop 24).drop 24).drop 24).drop 24).drop 24).drop 24).drop 24), List.all_append, w_t10, w_t11]
  rfl
set_option maxRecDepth 65536 in
theorem w_rest : rest_1_c.before args0 about1 = true := by decide +kernel
set_option maxRecDepth 65536 in
theorem w_case : (Jvm.Cond.and given_1 narrow_1).before args0 about1 = true := by decide +kernel
set_option maxRecDepth 65536 in
theorem w_consts : constsHeld consts_1 about1 := Jvm.Lit.constsHeldB_iff.mp (by decide +kernel)
theorem w_applies : (headSpec (Jvm.Cond.code x code maxLocals ret :: tables_1) room_1).applies x e0.platform about1 = true :=
  (Spec.applies_iff w_frames).mpr ⟨w_running, w_runnable, w_alone, w_named, w_hears, w_ripe, w_room, w_tables⟩
theorem atStart : AtStart classFile x code maxLocals ret World_1 tables_1 room_1 Calls_1 rest_1 Pre_1 launch0 p0 e0 about1 theMethod args0 below0 :=
  ⟨lists_1, trivial, launch0.admits_env _ _ _, launch0.least_env, fairChoices_fair.cas, fairChoices_fair.clock, w_frames, w_args, w_heap, w_applies, ⟨w_consts, trivial⟩, w_rest, w_case⟩
end start1
theorem witness_1 : WitnessClaimed_1 := ⟨start1.p0, start1.e0, start1.about1, start1.theMethod, start1.args0, start1.below0, start1.atStart⟩
end Jvm.Pilot.@@N@@
