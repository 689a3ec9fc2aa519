import JvmDerived
import JvmDerived.Pilot.@@N@@Statement
import JvmDerived.Pilot.@@N@@Code
set_option linter.unusedVariables false
set_option linter.unusedSimpArgs false
namespace Jvm.RoadKit
open Sem ClassFile Op Lib Jvm.Stand Jvm.Free Jvm.LawKit
section New
variable {p : Program} {l : Launch} {e : Env} {R : Room} {s : State} {m : MethodId} {args : Array Value} {below : List Frame} {meth : Method} {c : Code} {T : State} {locs : List Loc} {cells slots : Nat}
theorem retI (X : Stand p l e R s m args below meth c T locs cells slots) (hx : p.tables.exec = Jvm.exec) {pc : Nat} {Ls : Array Slot} {z : Int32} {rest : List Value} (hret : meth.sig.returnType = some .int) (hd : decode c.code pc = .ok (.ireturn, 1)) {fs : List Frame}
    (hl : ∀ (f : JFrame) (acts : List Action), f.method = m → f.locked = none → f.entered = [] → (doReturn e (T.setTop f) acts (some (.int z))).1 = T.setFrames fs) : Steps p.tables e below (T.setTop (mkF m pc Ls (.int z :: rest))) (T.setFrames fs) := by
  have hm' : T.vm.method? m = some meth := X.method'
  have hn : narrow .int (.int z) = .int z := rfl
  show Steps p.tables e below (T.setTop { method := m, pc := pc, locals := Ls, stack := _ :: rest, locked := none }) _
  jvm_step X.here [X.here.top, hx, hd, hm', hret, hn]
  first | (intro acts; rw [hl _ acts rfl rfl rfl]) | rw [hl _ _ rfl rfl rfl]
  exact Steps.refl _
end New
end Jvm.RoadKit
/- laws to paste: Road.backV, Road.lenW, Road.chN, StrChars.pair_says, StrChars.shr0, Road.codOf (cut by pick.py; bodies as the Statement names them) -/
namespace Jvm.Pilot.@@N@@
namespace StrChars
open Jvm Sem ClassFile Op Lib Jvm.Stand Jvm.Free.XT Jvm.Free.ALB Jvm.Free.JM Jvm.Free
open Jvm.Lib.Cold (StaticIs)
/-- a char array whose places are chars -/
def Ch (a : Addr) (A : Cell) (U : State) : Prop := Arr .char a A U ∧ Typed .char A
theorem Ch.mv {a : Addr} {A : Cell} {U U' : State} (h : Ch a A U) (hal : U.vm.Alike U'.vm) (hh : U'.heap = U.heap) : Ch a A U' := ⟨h.1.mv hal hh, h.2⟩
theorem Ch.keep {a : Addr} {A : Cell} {U U' : State} (h : Ch a A U) (hal : U.vm.Alike U'.vm) (hk : U'.heap[a]? = some A) : Ch a A U' := ⟨h.1.keep hal hk, h.2⟩
/-- what place i of a char[]'s cell holds -/
def cv (A : Cell) (i : Nat) : Int32 := match A.slots[i]? with | some (.int x) => x | _ => 0
theorem Ch.get {a : Addr} {A : Cell} {U : State} (h : Ch a A U) {i : Nat} (hi : i < A.slots.size) : A.slots[i]? = some (.int (cv A i)) := by
  have e := Array.getElem?_eq_getElem hi
  have f := h.2 i _ e
  unfold cv; rw [e]
  generalize A.slots[i] = v at f
  cases v <;> simp [fits] at f ⊢
/-- the byte that i2b leaves of a char -/
def lo8 (x : Int32) : Int32 := x.toInt8.toInt32
theorem fits_lo8 (y : Int32) : fits .byte (.int (lo8 y)) = true := by
  have h1 := y.toInt8.le_toInt
  have h2 := y.toInt8.toInt_lt
  simp only [lo8, fits, Bool.and_eq_true, decide_eq_true_eq, Int32.le_iff_toInt_le, Int8.toInt_toInt32, show (-128 : Int32).toInt = -128 from by decide, show (127 : Int32).toInt = 127 from by decide]
  omega
/-- A' is A but that each place j of lo .. hi - 1 holds f j -/
def Laid (A A' : Cell) (lo hi : Nat) (f : Nat → Value) : Prop := A'.cls = A.cls ∧ A'.vm = A.vm ∧ A'.slots.size = A.slots.size ∧ ∀ i, A'.slots[i]? = if lo ≤ i ∧ i < hi then some (f i) else A.slots[i]?
theorem Laid.zero (A : Cell) (lo : Nat) (f : Nat → Value) : Laid A A lo (lo + 0) f := ⟨rfl, rfl, rfl, fun i => by rw [if_neg (by omega)]⟩
theorem Laid.step {A Ak : Cell} {lo k : Nat} {f : Nat → Value} {v : Value} (h : Laid A Ak lo k f) (hlo : lo ≤ k) (hk : k < Ak.slots.size) (hv : v = f k) : Laid A (Ak.setSlot k v) lo (k + 1) f := by
  refine ⟨h.1, h.2.1, by simpa [Cell.setSlot] using h.2.2.1, fun i => ?_⟩
  by_cases e : k = i
  · subst e; rw [Cell.slots_setSlot_self v hk, if_pos (by omega), hv]
  · rw [Cell.slots_setSlot_ne v e, h.2.2.2 i]
    by_cases q : lo ≤ i ∧ i < k
    · rw [if_pos q, if_pos (by omega)]
    · rw [if_neg q, if_neg (by omega)]
def U16 : String := "java/lang/StringUTF16"
namespace Cmp5
def yN : MethodName := ⟨"java/lang/StringUTF16", "compress", "([CI[BII)I"⟩
abbrev yB : ByteArray := jdk_52_method_21_code
theorem d0 : decode yB 0 = .ok (.iconst 0, 1) := by decide +kernel
theorem d1 : decode yB 1 = .ok (.istore 5, 2) := by decide +kernel
theorem d3 : decode yB 3 = .ok (.iload 5, 2) := by decide +kernel
theorem d5 : decode yB 5 = .ok (.iload 4, 2) := by decide +kernel
theorem d7 : decode yB 7 = .ok (.if_icmp (.ge) 37, 3) := by decide +kernel
theorem d10 : decode yB 10 = .ok (.aload_n 0, 1) := by decide +kernel
theorem d11 : decode yB 11 = .ok (.iload_n 1, 1) := by decide +kernel
theorem d12 : decode yB 12 = .ok (.caload, 1) := by decide +kernel
theorem d13 : decode yB 13 = .ok (.istore 6, 2) := by decide +kernel
theorem d15 : decode yB 15 = .ok (.iload 6, 2) := by decide +kernel
theorem d17 : decode yB 17 = .ok (.sipush 255, 3) := by decide +kernel
theorem d20 : decode yB 20 = .ok (.if_icmp (.le) 6, 3) := by decide +kernel
theorem d26 : decode yB 26 = .ok (.aload_n 2, 1) := by decide +kernel
theorem d27 : decode yB 27 = .ok (.iload_n 3, 1) := by decide +kernel
theorem d28 : decode yB 28 = .ok (.iload 6, 2) := by decide +kernel
theorem d30 : decode yB 30 = .ok (.i2b, 1) := by decide +kernel
theorem d31 : decode yB 31 = .ok (.bastore, 1) := by decide +kernel
theorem d32 : decode yB 32 = .ok (.iinc 1 1, 3) := by decide +kernel
theorem d35 : decode yB 35 = .ok (.iinc 3 1, 3) := by decide +kernel
theorem d38 : decode yB 38 = .ok (.iinc 5 1, 3) := by decide +kernel
theorem d41 : decode yB 41 = .ok (.goto (-38), 3) := by decide +kernel
theorem d44 : decode yB 44 = .ok (.iload 4, 2) := by decide +kernel
theorem d46 : decode yB 46 = .ok (.ireturn, 1) := by decide +kernel
def site : List Cond := []
def tab : Cond := tabOf yN yB 7 (some .int) site
def P (b : Addr) (A : Cell) (d : Addr) (B : Cell) (o q len : Nat) (args : Array Value) (s : State) : Prop := args = #[.ref b, .int (Int32.ofNat o), .ref d, .int (Int32.ofNat q), .int (Int32.ofNat len)] ∧ Ch b A s ∧ Arr .byte d B s ∧ b ≠ d ∧ o + len ≤ A.slots.size ∧ q + len ≤ B.slots.size ∧ ∀ i, i < len → ¬ 255 < cv A (o + i)
def E (b : Addr) (A : Cell) (d : Addr) (B : Cell) (o q len : Nat) (r : Option Value) (s u : State) : Prop := r = some (.int (Int32.ofNat len)) ∧ ∃ B', Put d B' s u ∧ Laid B B' q (q + len) (fun j => Value.int (lo8 (cv A (o + (j - q)))))
/-- no char of the range above 255: len; the places written hold each char's low byte -/
theorem law (l : Launch) (b : Addr) (A : Cell) (d : Addr) (B : Cell) (o q len : Nat) : Law l yN 5 5 0 0 yB 7 (some .int) site (P b A d B o q len) (E b A d B o q len) (copyLocs d q len) 0 0 := by
  refine Law.of_walk (plainFor_of_name (by decide +kernel)) (by decide +kernel) (by decide +kernel) (by decide) (fun _ _ h => by rw [h.1]; rfl) (fun _ U U' hal hh h => ⟨h.1, h.2.1.mv hal hh, h.2.2.1.mv hal hh, h.2.2.2⟩) (fun r U U' V V' h1 hal h2 h => ⟨h.1, h.2.elim fun B' q => ⟨B', q.1.mv h1 h2, q.2⟩⟩) ?_
  intro p e s m args below meth c s₁ X0 hexec hbytes hml hret hlk hnm hown hh0 W hP
  obtain ⟨rfl, hA, hB, hne, l1, l2, hp⟩ := hP
  have c1 : Steps p.tables e below (s₁.setTop (entryFrame m #[.ref b, .int (Int32.ofNat o), .ref d, .int (Int32.ofNat q), .int (Int32.ofNat len)] 7)) (s₁.setTop (mkF m 0 #[.val (.ref b), .val (.int (Int32.ofNat o)), .val (.ref d), .val (.int (Int32.ofNat q)), .val (.int (Int32.ofNat len)), .unset, .unset] [])) := entry rfl
  have hA0 := hA.1.mv X0.warmed.alike hh0
  have hB0 := hB.mv X0.warmed.alike hh0
  have a31 := hA.1.2.2.2
  have c2 : Steps p.tables e below (s₁.setTop (entryFrame m #[.ref b, .int (Int32.ofNat o), .ref d, .int (Int32.ofNat q), .int (Int32.ofNat len)] 7)) (s₁.setTop (mkF m 3 #[.val (.ref b), .val (.int (Int32.ofNat o)), .val (.ref d), .val (.int (Int32.ofNat q)), .val (.int (Int32.ofNat len)), .val (.int 0), .unset] [])) := c1.trans (by
    refine iconstV X0.here hexec rfl 0 (hb hbytes d0) (by decide) ?_
    refine XS.istore X0.here hexec rfl (hb hbytes d1) rfl rfl ?_
    exact Steps.refl _)
  have loop : ∀ (r i : Nat), i + r = len → ∀ (z : Slot), (z = .unset ∨ ∃ w, z = .val w ∧ w.category = 1) → ∀ (Tl : State) (Bk : Cell), Stand p l e { frames := 0, locals := 0, cells := 0, slots := 0 } s m #[.ref b, .int (Int32.ofNat o), .ref d, .int (Int32.ofNat q), .int (Int32.ofNat len)] below meth c Tl ([] ++ copyLocs d q i) 0 0 → Put d Bk s₁ Tl → Laid B Bk q (q + i) (fun j => Value.int (lo8 (cv A (o + (j - q))))) →
      Steps p.tables e below (s₁.setTop (entryFrame m #[.ref b, .int (Int32.ofNat o), .ref d, .int (Int32.ofNat q), .int (Int32.ofNat len)] 7)) (Tl.setTop (mkF m 3 #[.val (.ref b), .val (.int (Int32.ofNat (o + i))), .val (.ref d), .val (.int (Int32.ofNat (q + i))), .val (.int (Int32.ofNat len)), .val (.int (Int32.ofNat i)), z] [])) → ∃ (T' : State) (B' : Cell) (z' : Slot), Stand p l e { frames := 0, locals := 0, cells := 0, slots := 0 } s m #[.ref b, .int (Int32.ofNat o), .ref d, .int (Int32.ofNat q), .int (Int32.ofNat len)] below meth c T' ([] ++ copyLocs d q len) 0 0 ∧ Put d B' s₁ T' ∧ Laid B B' q (q + len) (fun j => Value.int (lo8 (cv A (o + (j - q))))) ∧
      Steps p.tables e below (s₁.setTop (entryFrame m #[.ref b, .int (Int32.ofNat o), .ref d, .int (Int32.ofNat q), .int (Int32.ofNat len)] 7)) (T'.setTop (mkF m 3 #[.val (.ref b), .val (.int (Int32.ofNat (o + len))), .val (.ref d), .val (.int (Int32.ofNat (q + len))), .val (.int (Int32.ofNat len)), .val (.int (Int32.ofNat len)), z'] [])) := by
    intro r
    induction r with
    | zero =>
      intro i hi z hz Tl Bk Xl pl fl cl
      have hil : i = len := by omega
      rw [hil] at Xl fl cl
      exact ⟨Tl, Bk, z, Xl, pl, fl, cl⟩
    | succ r ih =>
      intro i hi z hz Tl Bk Xl pl fl cl
      have all := X0.warmed.alike.symm.trans Xl.warmed.alike
      have hAl := hA0.keep all (pl.other hne hA0.1)
      have hBk := hB0.like all pl.1 fl.1 fl.2.1 fl.2.2.1
      have hlt : q + i < Bk.slots.size := by rw [fl.2.2.1]; omega
      have c3 : Steps p.tables e below (s₁.setTop (entryFrame m #[.ref b, .int (Int32.ofNat o), .ref d, .int (Int32.ofNat q), .int (Int32.ofNat len)] 7)) (Tl.setTop (mkF m 12 #[.val (.ref b), .val (.int (Int32.ofNat (o + i))), .val (.ref d), .val (.int (Int32.ofNat (q + i))), .val (.int (Int32.ofNat len)), .val (.int (Int32.ofNat i)), z] [.int (Int32.ofNat (o + i)), .ref b])) := cl.trans (by
        refine XS.iload Xl.here hexec rfl (hb hbytes d3) rfl ?_
        refine XS.iload Xl.here hexec rfl (hb hbytes d5) rfl ?_
        refine XS.icmpNo Xl.here hexec rfl (hb hbytes d7) rfl (ii_ge_f (lt32 (by omega) (by omega))) ?_
        refine XS.aloadN Xl.here hexec rfl (hb hbytes d10) rfl rfl ?_
        refine XS.iloadN Xl.here hexec rfl (hb hbytes d11) rfl ?_
        exact Steps.refl _)
      have c4 : Steps p.tables e below (s₁.setTop (entryFrame m #[.ref b, .int (Int32.ofNat o), .ref d, .int (Int32.ofNat q), .int (Int32.ofNat len)] 7)) (Tl.setTop (mkF m 13 #[.val (.ref b), .val (.int (Int32.ofNat (o + i))), .val (.ref d), .val (.int (Int32.ofNat (q + i))), .val (.int (Int32.ofNat len)), .val (.int (Int32.ofNat i)), z] [.int (cv A (o + i))])) := c3.trans (by
        refine Xl.aget hexec hAl rfl (hA.get (i := o + i) (by omega)) rfl rfl (hb hbytes d12) ?_
        exact Steps.refl _)
      have c5 : Steps p.tables e below (s₁.setTop (entryFrame m #[.ref b, .int (Int32.ofNat o), .ref d, .int (Int32.ofNat q), .int (Int32.ofNat len)] 7)) (Tl.setTop (mkF m 15 #[.val (.ref b), .val (.int (Int32.ofNat (o + i))), .val (.ref d), .val (.int (Int32.ofNat (q + i))), .val (.int (Int32.ofNat len)), .val (.int (Int32.ofNat i)), .val (.int (cv A (o + i)))] [])) := c4.trans (by
        refine XS.istoreS Xl.here hexec rfl (hb hbytes d13) rfl rfl hz ?_
        exact Steps.refl _)
      have c6 : Steps p.tables e below (s₁.setTop (entryFrame m #[.ref b, .int (Int32.ofNat o), .ref d, .int (Int32.ofNat q), .int (Int32.ofNat len)] 7)) (Tl.setTop (mkF m 31 #[.val (.ref b), .val (.int (Int32.ofNat (o + i))), .val (.ref d), .val (.int (Int32.ofNat (q + i))), .val (.int (Int32.ofNat len)), .val (.int (Int32.ofNat i)), .val (.int (cv A (o + i)))] [.int (lo8 (cv A (o + i))), .int (Int32.ofNat (q + i)), .ref d])) := c5.trans (by
        refine XS.iload Xl.here hexec rfl (hb hbytes d15) rfl ?_
        refine sipushV Xl.here hexec rfl 255 (hb hbytes d17) (by decide) ?_
        refine XS.icmpYes Xl.here hexec rfl (pc0 := 20) rfl (hb hbytes d20) rfl (ii_le_t (hp i (by omega))) (by decide) rfl ?_
        refine XS.aloadN Xl.here hexec rfl (hb hbytes d26) rfl rfl ?_
        refine XS.iloadN Xl.here hexec rfl (hb hbytes d27) rfl ?_
        refine XS.iload Xl.here hexec rfl (hb hbytes d28) rfl ?_
        refine i2b Xl.here hexec rfl (hb hbytes d30) rfl ?_
        exact Steps.refl _)
      obtain ⟨T7, X7, p7, st7⟩ := Xl.aput hexec hBk rfl hlt rfl (fits_lo8 (cv A (o + i))) (g := (mkF m 31 #[.val (.ref b), .val (.int (Int32.ofNat (o + i))), .val (.ref d), .val (.int (Int32.ofNat (q + i))), .val (.int (Int32.ofNat len)), .val (.int (Int32.ofNat i)), .val (.int (cv A (o + i)))] [.int (lo8 (cv A (o + i))), .int (Int32.ofNat (q + i)), .ref d])) rfl (rest := []) rfl (hb hbytes d31)
      have c8 : Steps p.tables e below (s₁.setTop (entryFrame m #[.ref b, .int (Int32.ofNat o), .ref d, .int (Int32.ofNat q), .int (Int32.ofNat len)] 7)) (T7.setTop (mkF m 32 #[.val (.ref b), .val (.int (Int32.ofNat (o + i))), .val (.ref d), .val (.int (Int32.ofNat (q + i))), .val (.int (Int32.ofNat len)), .val (.int (Int32.ofNat i)), .val (.int (cv A (o + i)))] [])) := c6.trans (st7 _ (Steps.refl _))
      have c9 : Steps p.tables e below (s₁.setTop (entryFrame m #[.ref b, .int (Int32.ofNat o), .ref d, .int (Int32.ofNat q), .int (Int32.ofNat len)] 7)) (T7.setTop (mkF m 3 #[.val (.ref b), .val (.int (Int32.ofNat (o + i) + 1)), .val (.ref d), .val (.int (Int32.ofNat (q + i) + 1)), .val (.int (Int32.ofNat len)), .val (.int (Int32.ofNat i + 1)), .val (.int (cv A (o + i)))] [])) := c8.trans (by
        refine iincV X7.here hexec rfl 1 (hb hbytes d32) (by decide) rfl rfl ?_
        refine iincV X7.here hexec rfl 1 (hb hbytes d35) (by decide) rfl rfl ?_
        refine iincV X7.here hexec rfl 1 (hb hbytes d38) (by decide) rfl rfl ?_
        refine XS.goto X7.here hexec rfl (pc0 := 41) rfl (hb hbytes d41) (by decide) rfl ?_
        exact Steps.refl _)
      have c10 : Steps p.tables e below (s₁.setTop (entryFrame m #[.ref b, .int (Int32.ofNat o), .ref d, .int (Int32.ofNat q), .int (Int32.ofNat len)] 7)) (T7.setTop (mkF m 3 #[.val (.ref b), .val (.int (Int32.ofNat (o + (i + 1)))), .val (.ref d), .val (.int (Int32.ofNat (q + (i + 1)))), .val (.int (Int32.ofNat len)), .val (.int (Int32.ofNat (i + 1))), .val (.int (cv A (o + i)))] [])) := by
        have := c9
        rw [succ32, succ32, succ32] at this
        exact this
      exact ih (i + 1) (by omega) _ (Or.inr ⟨_, rfl, rfl⟩) T7 _ (by rw [copyLocs_step, ← List.append_assoc]; exact X7) (pl.trans p7) (fl.step (by omega) hlt (by simp)) c10
  obtain ⟨T9, B9, z9, X9, p9, f9, g9⟩ := loop len 0 (by omega) .unset (Or.inl rfl) s₁ B (by simpa [copyLocs] using X0) ⟨hB0.1, fun _ _ => rfl, rfl⟩ (Laid.zero _ _ _) c2
  have c11 : Steps p.tables e below (s₁.setTop (entryFrame m #[.ref b, .int (Int32.ofNat o), .ref d, .int (Int32.ofNat q), .int (Int32.ofNat len)] 7)) (T9.setTop (mkF m 46 #[.val (.ref b), .val (.int (Int32.ofNat (o + len))), .val (.ref d), .val (.int (Int32.ofNat (q + len))), .val (.int (Int32.ofNat len)), .val (.int (Int32.ofNat len)), z9] [.int (Int32.ofNat len)])) := g9.trans (by
    refine XS.iload X9.here hexec rfl (hb hbytes d3) rfl ?_
    refine XS.iload X9.here hexec rfl (hb hbytes d5) rfl ?_
    refine XS.icmpYes X9.here hexec rfl (pc0 := 7) rfl (hb hbytes d7) rfl (ii_ge_t (nlt32 (by omega) (Nat.le_refl _))) (by decide) rfl ?_
    refine XS.iload X9.here hexec rfl (hb hbytes d44) rfl ?_
    exact Steps.refl _)
  exact ⟨T9, some (.int (Int32.ofNat len)), _, _, _, X9, by simp, rfl, rfl, (fun h => by cases h), ⟨rfl, B9, p9.from hh0, f9⟩, fun fs hl => c11.trans (X9.ireturnOut hexec hret rfl (Or.inl rfl) (hb hbytes d46) hl)⟩
end Cmp5
namespace Cmp3
def yN : MethodName := ⟨"java/lang/StringUTF16", "compress", "([CII)[B"⟩
abbrev yB : ByteArray := jdk_52_method_16_code
theorem d0 : decode yB 0 = .ok (.iload_n 2, 1) := by decide +kernel
theorem d1 : decode yB 1 = .ok (.newarray .byte, 2) := by decide +kernel
theorem d3 : decode yB 3 = .ok (.astore_n 3, 1) := by decide +kernel
theorem d4 : decode yB 4 = .ok (.aload_n 0, 1) := by decide +kernel
theorem d5 : decode yB 5 = .ok (.iload_n 1, 1) := by decide +kernel
theorem d6 : decode yB 6 = .ok (.aload_n 3, 1) := by decide +kernel
theorem d7 : decode yB 7 = .ok (.iconst 0, 1) := by decide +kernel
theorem d8 : decode yB 8 = .ok (.iload_n 2, 1) := by decide +kernel
theorem d9 : decode yB 9 = .ok (.invokestatic 115, 3) := by decide +kernel
theorem d12 : decode yB 12 = .ok (.istore 4, 2) := by decide +kernel
theorem d14 : decode yB 14 = .ok (.iload 4, 2) := by decide +kernel
theorem d16 : decode yB 16 = .ok (.iload_n 2, 1) := by decide +kernel
theorem d17 : decode yB 17 = .ok (.if_icmp (.eq) 40, 3) := by decide +kernel
theorem d57 : decode yB 57 = .ok (.aload_n 3, 1) := by decide +kernel
theorem d58 : decode yB 58 = .ok (.areturn, 1) := by decide +kernel
def site : List Cond := [.arrayClass .byte, Cmp5.tab] ++ staticW U16 115 Cmp5.yN
def tab : Cond := tabOf yN yB 6 (some (.array .byte)) site
def P (b : Addr) (A : Cell) (o len : Nat) (args : Array Value) (s : State) : Prop := args = #[.ref b, .int (Int32.ofNat o), .int (Int32.ofNat len)] ∧ Ch b A s ∧ o + len ≤ A.slots.size ∧ len ≤ 536870912 ∧ ∀ i, i < len → ¬ 255 < cv A (o + i)
def E (b : Addr) (A : Cell) (o len : Nat) (r : Option Value) (s u : State) : Prop := NewArr .byte "[B" len (fun j => .int (lo8 (cv A (o + j)))) r s u ∧ u.heap.size = s.heap.size + 1
/-- no char of the range above 255: a new byte[] of their low bytes -/
theorem law (l : Launch) (b : Addr) (A : Cell) (o len : Nat) : Law l yN 3 3 1 18 yB 6 (some (.array .byte)) site (P b A o len) (E b A o len) [] 1 len := by
  refine Law.of_walk (plainFor_of_name (by decide +kernel)) (by decide +kernel) (by decide +kernel) (by decide) (fun _ _ h => by rw [h.1]; rfl) (fun _ U U' hal hh h => ⟨h.1, h.2.1.mv hal hh, h.2.2⟩) (fun r U U' V V' h1 hal h2 h => ⟨NewArr.mv r U U' V V' h1 hal h2 h.1, by rw [h1, h2]; exact h.2⟩) ?_
  intro p e s m args below meth c s₁ X0 hexec hbytes hml hret hlk hnm hown hh0 W hP
  obtain ⟨rfl, hA, l1, l2, hp⟩ := hP
  have a31 := hA.1.2.2.2
  have c1 : Steps p.tables e below (s₁.setTop (entryFrame m #[.ref b, .int (Int32.ofNat o), .int (Int32.ofNat len)] 6)) (s₁.setTop (mkF m 0 #[.val (.ref b), .val (.int (Int32.ofNat o)), .val (.int (Int32.ofNat len)), .unset, .unset, .unset] [])) := entry rfl
  have c2 : Steps p.tables e below (s₁.setTop (entryFrame m #[.ref b, .int (Int32.ofNat o), .int (Int32.ofNat len)] 6)) (s₁.setTop (mkF m 1 #[.val (.ref b), .val (.int (Int32.ofNat o)), .val (.int (Int32.ofNat len)), .unset, .unset, .unset] [.int (Int32.ofNat len)])) := c1.trans (by
    refine XS.iloadN X0.here hexec rfl (hb hbytes d0) rfl ?_
    exact Steps.refl _)
  obtain ⟨T3, B3, X3, ba3, bs3, bv3, bh3, bf3, st3⟩ := X0.anew hexec (atype := .byte) (wk W (.arrayClass .byte)) rfl (by show len * 1 ≤ _; omega) (by omega) (g := (mkF m 1 #[.val (.ref b), .val (.int (Int32.ofNat o)), .val (.int (Int32.ofNat len)), .unset, .unset, .unset] [.int (Int32.ofNat len)])) rfl (hb hbytes d1) (rest := []) rfl (Nat.le_refl _) (by show 0 + len ≤ len; omega)
  rw [hh0] at ba3 st3
  have kp3 : XT.Kept s T3 := (XT.Kept.of_eq hh0).push bh3
  have hA3 := hA.keep X3.warmed.alike (kp3 _ _ hA.1.1)
  have hne : b ≠ s.heap.size := hA.1.ne
  have c4 : Steps p.tables e below (s₁.setTop (entryFrame m #[.ref b, .int (Int32.ofNat o), .int (Int32.ofNat len)] 6)) (T3.setTop (mkF m 3 #[.val (.ref b), .val (.int (Int32.ofNat o)), .val (.int (Int32.ofNat len)), .unset, .unset, .unset] [.ref s.heap.size])) := c2.trans (st3 _ (Steps.refl _))
  have c5 : Steps p.tables e below (s₁.setTop (entryFrame m #[.ref b, .int (Int32.ofNat o), .int (Int32.ofNat len)] 6)) (T3.setTop (mkF m 9 #[.val (.ref b), .val (.int (Int32.ofNat o)), .val (.int (Int32.ofNat len)), .val (.ref s.heap.size), .unset, .unset] [.int (Int32.ofNat len), .int 0, .ref s.heap.size, .int (Int32.ofNat o), .ref b])) := c4.trans (by
    refine XS.astoreN X3.here hexec rfl (hb hbytes d3) rfl rfl rfl ?_
    refine XS.aloadN X3.here hexec rfl (hb hbytes d4) rfl rfl ?_
    refine XS.iloadN X3.here hexec rfl (hb hbytes d5) rfl ?_
    refine XS.aloadN X3.here hexec rfl (hb hbytes d6) rfl rfl ?_
    refine iconstV X3.here hexec rfl 0 (hb hbytes d7) (by decide) ?_
    refine XS.iloadN X3.here hexec rfl (hb hbytes d8) rfl ?_
    exact Steps.refl _)
  obtain ⟨v6, T6, X6, E6, g6⟩ := X3.callS hexec (Cmp5.law l b A s.heap.size B3 o 0 len) hown (wks W (staticW U16 115 Cmp5.yN)) (wk W Cmp5.tab) (W := 0) (Nat.le_of_ble_eq_true rfl) (Nat.le_of_ble_eq_true rfl) (Nat.le_refl _) (by show 0 + len + 0 ≤ len; omega) (g := (mkF m 9 #[.val (.ref b), .val (.int (Int32.ofNat o)), .val (.int (Int32.ofNat len)), .val (.ref s.heap.size), .unset, .unset] [.int (Int32.ofNat len), .int (Int32.ofNat 0), .ref s.heap.size, .int (Int32.ofNat o), .ref b])) rfl (by rw [hml]; rfl) c5 (argsL := [.ref b, .int (Int32.ofNat o), .ref s.heap.size, .int (Int32.ofNat 0), .int (Int32.ofNat len)]) (rest := []) rfl rfl (by show 2 * 0 + 0 ≤ _; decide) (hb hbytes d9) (⟨rfl, hA3, ba3, hne, l1, by rw [bs3]; simp, hp⟩)
  obtain ⟨rfl, B6, p6, f6⟩ := E6
  have c7 : Steps p.tables e below (s₁.setTop (entryFrame m #[.ref b, .int (Int32.ofNat o), .int (Int32.ofNat len)] 6)) (T6.setTop (mkF m 12 #[.val (.ref b), .val (.int (Int32.ofNat o)), .val (.int (Int32.ofNat len)), .val (.ref s.heap.size), .unset, .unset] [.int (Int32.ofNat len)])) := g6
  have c8 : Steps p.tables e below (s₁.setTop (entryFrame m #[.ref b, .int (Int32.ofNat o), .int (Int32.ofNat len)] 6)) (T6.setTop (mkF m 58 #[.val (.ref b), .val (.int (Int32.ofNat o)), .val (.int (Int32.ofNat len)), .val (.ref s.heap.size), .val (.int (Int32.ofNat len)), .unset] [.ref s.heap.size])) := c7.trans (by
    refine XS.istore X6.here hexec rfl (hb hbytes d12) rfl rfl ?_
    refine XS.iload X6.here hexec rfl (hb hbytes d14) rfl ?_
    refine XS.iloadN X6.here hexec rfl (hb hbytes d16) rfl ?_
    refine XS.icmpYes X6.here hexec rfl (pc0 := 17) rfl (hb hbytes d17) rfl (ii_eq_t rfl) (by decide) rfl ?_
    refine XS.aloadN X6.here hexec rfl (hb hbytes d57) rfl rfl ?_
    exact Steps.refl _)
  have X8 := X6.wide (L' := []) (cells' := 1) (slots' := len) (fun x hx hlt => by
    simp only [List.nil_append, copyLocs, List.mem_map, List.mem_range] at hx
    obtain ⟨i, -, rfl⟩ := hx
    exact absurd hlt (Nat.lt_irrefl _)) (Nat.le_refl _) (by omega)
  exact ⟨T6, some (.ref s.heap.size), _, _, _, X8, rfl, rfl, rfl, (fun h => by cases h), ⟨⟨rfl, B6, ba3.like (X3.warmed.alike.symm.trans X6.warmed.alike) p6.1 f6.1 f6.2.1 f6.2.2.1, f6.2.1.trans bv3, by rw [X6.warmed.alike.findClass, f6.1]; exact bf3, by rw [f6.2.2.1, bs3]; simp, fun j hj => by rw [f6.2.2.2 j, if_pos (by omega)]; rfl, kp3.put p6 (Nat.le_refl _)⟩, by rw [p6.2.2, bh3, hh0]; simp⟩, fun fs hl => c8.trans (X8.areturnOut hexec rfl hret rfl (hb hbytes d58) hl)⟩
end Cmp3
namespace CodL
def yN : MethodName := ⟨"java/lang/StringUTF16", "coderFromArrayLen", "([BI)B"⟩
abbrev yB : ByteArray := jdk_52_method_15_code
theorem d0 : decode yB 0 = .ok (.iload_n 1, 1) := by decide +kernel
theorem d1 : decode yB 1 = .ok (.aload_n 0, 1) := by decide +kernel
theorem d2 : decode yB 2 = .ok (.arraylength, 1) := by decide +kernel
theorem d3 : decode yB 3 = .ok (.isub, 1) := by decide +kernel
theorem d4 : decode yB 4 = .ok (.bipush 31, 2) := by decide +kernel
theorem d6 : decode yB 6 = .ok (.iushr, 1) := by decide +kernel
theorem d7 : decode yB 7 = .ok (.i2b, 1) := by decide +kernel
theorem d8 : decode yB 8 = .ok (.ireturn, 1) := by decide +kernel
def site : List Cond := []
def tab : Cond := tabOf yN yB 2 (some .byte) site
def P (d : Addr) (B : Cell) (args : Array Value) (s : State) : Prop := args = #[.ref d, .int (Int32.ofNat B.slots.size)] ∧ Arr .byte d B s
def E (r : Option Value) (s u : State) : Prop := XT.PureE (some (.int 0)) r s u
/-- an array as long as the number of chars: LATIN1 -/
theorem law (l : Launch) (d : Addr) (B : Cell) : Law l yN 2 2 0 0 yB 2 (some .byte) site (P d B) E [] 0 0 := by
  refine Law.of_walk (plainFor_of_name (by decide +kernel)) (by decide +kernel) (by decide +kernel) (by decide) (fun _ _ h => by rw [h.1]; rfl) (fun _ U U' hal hh h => ⟨h.1, h.2.mv hal hh⟩) (fun r U U' V V' h1 hal h2 h => XT.PureE.mv r U U' V V' h1 hal h2 h) ?_
  intro p e s m args below meth c s₁ X0 hexec hbytes hml hret hlk hnm hown hh0 W hP
  obtain ⟨rfl, hB⟩ := hP
  have hB0 := hB.mv X0.warmed.alike hh0
  have c1 : Steps p.tables e below (s₁.setTop (entryFrame m #[.ref d, .int (Int32.ofNat B.slots.size)] 2)) (s₁.setTop (mkF m 0 #[.val (.ref d), .val (.int (Int32.ofNat B.slots.size))] [])) := entry rfl
  have c2 : Steps p.tables e below (s₁.setTop (entryFrame m #[.ref d, .int (Int32.ofNat B.slots.size)] 2)) (s₁.setTop (mkF m 2 #[.val (.ref d), .val (.int (Int32.ofNat B.slots.size))] [.ref d, .int (Int32.ofNat B.slots.size)])) := c1.trans (by
    refine XS.iloadN X0.here hexec rfl (hb hbytes d0) rfl ?_
    refine XS.aloadN X0.here hexec rfl (hb hbytes d1) rfl rfl ?_
    exact Steps.refl _)
  have c3 : Steps p.tables e below (s₁.setTop (entryFrame m #[.ref d, .int (Int32.ofNat B.slots.size)] 2)) (s₁.setTop (mkF m 8 #[.val (.ref d), .val (.int (Int32.ofNat B.slots.size))] [.int (lo8 (ushr (Int32.ofNat B.slots.size - Int32.ofNat B.slots.size) 31))])) := c2.trans (by
    refine X0.alen hexec hB0 rfl rfl (hb hbytes d2) ?_
    refine XS.isub X0.here hexec rfl (hb hbytes d3) rfl ?_
    refine bipushV X0.here hexec rfl 31 (hb hbytes d4) (by decide) ?_
    refine iushr X0.here hexec rfl (hb hbytes d6) rfl ?_
    refine i2b X0.here hexec rfl (hb hbytes d7) rfl ?_
    exact Steps.refl _)
  have e0 : lo8 (ushr (Int32.ofNat B.slots.size - Int32.ofNat B.slots.size) 31) = 0 := by rw [Int32.sub_self]; decide
  rw [e0] at c3
  exact ⟨s₁, some (.int 0), _, _, _, X0, rfl, rfl, rfl, (fun h => by cases h), ⟨rfl, hh0⟩, fun fs hl => c3.trans (X0.ireturnOut hexec hret rfl (Or.inr (Or.inr (Or.inl rfl))) (hb hbytes d8) hl)⟩
end CodL
/-- the String at a is Latin-1 over a new byte[] (the heap's one new cell): the low bytes of the len chars of A from o on; every cell but a is kept -/
def Got (a : Addr) (D : Cell) (fV fC : Field) (A : Cell) (o len : Nat) (r : Option Value) (s u : State) : Prop := r = none ∧ ∃ D' V : Cell, Blank "java/lang/String" a D' u ∧ Same D D' [fV.slot, fC.slot] ∧ D'.slots[fV.slot]? = some (.ref s.heap.size) ∧ D'.slots[fC.slot]? = some (.int 0) ∧ Arr .byte s.heap.size V u ∧ V.vm = .none ∧ u.vm.findClass "[B" = some V.cls ∧ V.slots.size = len ∧ (∀ j, j < len → V.slots[j]? = some (.int (lo8 (cv A (o + j))))) ∧ (∀ (y : Addr) (c : Cell), y ≠ a → s.heap[y]? = some c → u.heap[y]? = some c) ∧ u.heap.size = s.heap.size + 1
theorem Got.mv {a : Addr} {D A : Cell} {fV fC : Field} {o len : Nat} : ∀ r (U U' V V' : State), U'.heap = U.heap → V.vm.Alike V'.vm → V'.heap = V.heap → Got a D fV fC A o len r U V → Got a D fV fC A o len r U' V' :=
  fun r U U' V V' h1 hal h2 ⟨e0, D', X, a1, a2, a3, a4, a5, a6, a7, a8, a9, a10, a11⟩ => ⟨e0, D', X, a1.mv hal h2, a2, by rw [h1]; exact a3, a4, by rw [h1]; exact a5.mv hal h2, a6, by rw [hal.findClass]; exact a7, a8, a9, by rw [h1, h2]; exact a10, by rw [h1, h2]; exact a11⟩
namespace New4
def yN : MethodName := ⟨"java/lang/String", "<init>", "([CIILjava/lang/Void;)V"⟩
abbrev yB : ByteArray := jdk_42_method_149_code
theorem d0 : decode yB 0 = .ok (.aload_n 0, 1) := by decide +kernel
theorem d1 : decode yB 1 = .ok (.invokespecial 1, 3) := by decide +kernel
theorem d4 : decode yB 4 = .ok (.iload_n 3, 1) := by decide +kernel
theorem d5 : decode yB 5 = .ok (.ifCond (.ne) 22, 3) := by decide +kernel
theorem d27 : decode yB 27 = .ok (.getstatic 38, 3) := by decide +kernel
theorem d30 : decode yB 30 = .ok (.ifCond (.eq) 28, 3) := by decide +kernel
theorem d33 : decode yB 33 = .ok (.aload_n 1, 1) := by decide +kernel
theorem d34 : decode yB 34 = .ok (.iload_n 2, 1) := by decide +kernel
theorem d35 : decode yB 35 = .ok (.iload_n 3, 1) := by decide +kernel
theorem d36 : decode yB 36 = .ok (.invokestatic 177, 3) := by decide +kernel
theorem d39 : decode yB 39 = .ok (.astore 5, 2) := by decide +kernel
theorem d41 : decode yB 41 = .ok (.aload_n 0, 1) := by decide +kernel
theorem d42 : decode yB 42 = .ok (.aload 5, 2) := by decide +kernel
theorem d44 : decode yB 44 = .ok (.iload_n 3, 1) := by decide +kernel
theorem d45 : decode yB 45 = .ok (.invokestatic 47, 3) := by decide +kernel
theorem d48 : decode yB 48 = .ok (.putfield 15, 3) := by decide +kernel
theorem d51 : decode yB 51 = .ok (.aload_n 0, 1) := by decide +kernel
theorem d52 : decode yB 52 = .ok (.aload 5, 2) := by decide +kernel
theorem d54 : decode yB 54 = .ok (.putfield 9, 3) := by decide +kernel
theorem d57 : decode yB 57 = .ok (.return_, 1) := by decide +kernel
def site : List Cond := [.fieldLink "java/lang/String" 38 "java/lang/String" "COMPACT_STRINGS" "Z", Cmp3.tab, CodL.tab, .laysFinal "java/lang/String" "java/lang/String" "value" "[B", .fieldLink "java/lang/String" 9 "java/lang/String" "value" "[B", .laysFinal "java/lang/String" "java/lang/String" "coder" "B", .fieldLink "java/lang/String" 15 "java/lang/String" "coder" "B"] ++ objW "java/lang/String" 1 ++ staticW "java/lang/String" 177 Cmp3.yN ++ staticW "java/lang/String" 47 CodL.yN
def tab : Cond := tabOf yN yB 6 none site
def P (a : Addr) (D : Cell) (fV fC : Field) (b : Addr) (A : Cell) (z : Int32) (o len : Nat) (args : Array Value) (s : State) : Prop := args = #[.ref a, .ref b, .int (Int32.ofNat o), .int (Int32.ofNat len), .null] ∧ Blank "java/lang/String" a D s ∧ Found "java/lang/String" "value" "[B" fV s ∧ Found "java/lang/String" "coder" "B" fC s ∧ Ch b A s ∧ StaticIs s "java/lang/String" "COMPACT_STRINGS" "Z" (.int z) ∧ ¬ z = 0 ∧ 0 < len ∧ o + len ≤ A.slots.size ∧ len ≤ 536870912 ∧ ∀ i, i < len → ¬ 255 < cv A (o + i)
def E (a : Addr) (D : Cell) (fV fC : Field) (A : Cell) (o len : Nat) (r : Option Value) (s u : State) : Prop := Got a D fV fC A o len r s u
/-- len > 0, no char of the range above 255: a Latin-1 String of their low bytes -/
theorem law (l : Launch) (a : Addr) (D : Cell) (fV fC : Field) (b : Addr) (A : Cell) (z : Int32) (o len : Nat) : Law l yN 5 4 2 35 yB 6 none site (P a D fV fC b A z o len) (E a D fV fC A o len) [⟨a, fC.slot⟩, ⟨a, fV.slot⟩] 1 len := by
  refine Law.of_walk (plainFor_of_name (by decide +kernel)) (by decide +kernel) (by decide +kernel) (by decide) (fun _ _ h => by rw [h.1]; rfl) (fun _ U U' hal hh h => ⟨h.1, h.2.1.mv hal hh, h.2.2.1.al hal, h.2.2.2.1.al hal, h.2.2.2.2.1.mv hal hh, h.2.2.2.2.2.1.there hal hh, h.2.2.2.2.2.2⟩) (fun r U U' V V' h1 hal h2 h => Got.mv r U U' V V' h1 hal h2 h) ?_
  intro p e s m args below meth c s₁ X0 hexec hbytes hml hret hlk hnm hown hh0 W hP
  obtain ⟨rfl, hB, f1, f2, hA, s1, hz, l0, l1, l2, hp⟩ := hP
  have a31 := hA.1.2.2.2
  have c1 : Steps p.tables e below (s₁.setTop (entryFrame m #[.ref a, .ref b, .int (Int32.ofNat o), .int (Int32.ofNat len), .null] 6)) (s₁.setTop (mkF m 0 #[.val (.ref a), .val (.ref b), .val (.int (Int32.ofNat o)), .val (.int (Int32.ofNat len)), .val .null, .unset] [])) := entry rfl
  have c2 : Steps p.tables e below (s₁.setTop (entryFrame m #[.ref a, .ref b, .int (Int32.ofNat o), .int (Int32.ofNat len), .null] 6)) (s₁.setTop (mkF m 1 #[.val (.ref a), .val (.ref b), .val (.int (Int32.ofNat o)), .val (.int (Int32.ofNat len)), .val .null, .unset] [.ref a])) := c1.trans (by
    refine XS.aloadN X0.here hexec rfl (hb hbytes d0) rfl rfl ?_
    exact Steps.refl _)
  obtain ⟨T3, X3, q3, st3⟩ := X0.oinit hexec hown (wks W (objW "java/lang/String" 1)) (g := (mkF m 1 #[.val (.ref a), .val (.ref b), .val (.int (Int32.ofNat o)), .val (.int (Int32.ofNat len)), .val .null, .unset] [.ref a])) rfl (by rw [hml]; rfl) (rest := []) rfl (hb hbytes d1) (W := 0) (by show 2 * 0 + 0 ≤ _; decide) (Nat.le_of_ble_eq_true rfl) (Nat.le_of_ble_eq_true rfl)
  have hh3 := q3.trans hh0
  have c4 : Steps p.tables e below (s₁.setTop (entryFrame m #[.ref a, .ref b, .int (Int32.ofNat o), .int (Int32.ofNat len), .null] 6)) (T3.setTop (mkF m 27 #[.val (.ref a), .val (.ref b), .val (.int (Int32.ofNat o)), .val (.int (Int32.ofNat len)), .val .null, .unset] [])) := (c2.trans (st3 _ (Steps.refl _))).trans (by
    refine XS.iloadN X3.here hexec rfl (hb hbytes d4) rfl ?_
    refine XS.ifYes X3.here hexec rfl (pc0 := 5) rfl (hb hbytes d5) rfl (i0_ne_t (nz32 (by omega) l0)) (by decide) rfl ?_
    exact Steps.refl _)
  obtain ⟨T5, X5, q5, st5⟩ := X3.sget hexec hown (wk W (.fieldLink "java/lang/String" 38 "java/lang/String" "COMPACT_STRINGS" "Z")) s1 (fun _ _ h => by rw [hh3]; exact h) (g := (mkF m 27 #[.val (.ref a), .val (.ref b), .val (.int (Int32.ofNat o)), .val (.int (Int32.ofNat len)), .val .null, .unset] [])) rfl (hb hbytes d27)
  have hh5 := q5.trans hh3
  have c6 : Steps p.tables e below (s₁.setTop (entryFrame m #[.ref a, .ref b, .int (Int32.ofNat o), .int (Int32.ofNat len), .null] 6)) (T5.setTop (mkF m 30 #[.val (.ref a), .val (.ref b), .val (.int (Int32.ofNat o)), .val (.int (Int32.ofNat len)), .val .null, .unset] [.int z])) := c4.trans (st5 _ (Steps.refl _))
  have c7 : Steps p.tables e below (s₁.setTop (entryFrame m #[.ref a, .ref b, .int (Int32.ofNat o), .int (Int32.ofNat len), .null] 6)) (T5.setTop (mkF m 36 #[.val (.ref a), .val (.ref b), .val (.int (Int32.ofNat o)), .val (.int (Int32.ofNat len)), .val .null, .unset] [.int (Int32.ofNat len), .int (Int32.ofNat o), .ref b])) := c6.trans (by
    refine XS.ifNo X5.here hexec rfl (hb hbytes d30) rfl (i0_eq_f hz) ?_
    refine XS.aloadN X5.here hexec rfl (hb hbytes d33) rfl rfl ?_
    refine XS.iloadN X5.here hexec rfl (hb hbytes d34) rfl ?_
    refine XS.iloadN X5.here hexec rfl (hb hbytes d35) rfl ?_
    exact Steps.refl _)
  obtain ⟨v8, T8, X8, E8, g8⟩ := X5.callS hexec (Cmp3.law l b A o len) hown (wks W (staticW "java/lang/String" 177 Cmp3.yN)) (wk W Cmp3.tab) (W := 0) (Nat.le_of_ble_eq_true rfl) (Nat.le_of_ble_eq_true rfl) (Nat.le_refl _) (by show 0 + len ≤ len; omega) (g := (mkF m 36 #[.val (.ref a), .val (.ref b), .val (.int (Int32.ofNat o)), .val (.int (Int32.ofNat len)), .val .null, .unset] [.int (Int32.ofNat len), .int (Int32.ofNat o), .ref b])) rfl (by rw [hml]; rfl) c7 (argsL := [.ref b, .int (Int32.ofNat o), .int (Int32.ofNat len)]) (rest := []) rfl rfl (by show 2 * 0 + 0 ≤ _; decide) (hb hbytes d36) (⟨rfl, hA.mv X5.warmed.alike hh5, l1, l2, hp⟩)
  obtain ⟨e8, z8⟩ := E8
  obtain ⟨rfl, N, n1, n2, n3, n4, n5, n6⟩ := NewArr.mv _ T5 s _ _ hh5.symm (Vm.Alike.refl _) rfl e8
  rw [hh5] at z8
  have hB1 := hB.keep X8.warmed.alike (n6 _ _ hB.1)
  have hne : s.heap.size ≠ a := (Nat.ne_of_lt (Array.getElem?_eq_some_iff.mp hB.1).1).symm
  have c9 : Steps p.tables e below (s₁.setTop (entryFrame m #[.ref a, .ref b, .int (Int32.ofNat o), .int (Int32.ofNat len), .null] 6)) (T8.setTop (mkF m 39 #[.val (.ref a), .val (.ref b), .val (.int (Int32.ofNat o)), .val (.int (Int32.ofNat len)), .val .null, .unset] [.ref s.heap.size])) := g8
  have c10 : Steps p.tables e below (s₁.setTop (entryFrame m #[.ref a, .ref b, .int (Int32.ofNat o), .int (Int32.ofNat len), .null] 6)) (T8.setTop (mkF m 45 #[.val (.ref a), .val (.ref b), .val (.int (Int32.ofNat o)), .val (.int (Int32.ofNat len)), .val .null, .val (.ref s.heap.size)] [.int (Int32.ofNat N.slots.size), .ref s.heap.size, .ref a])) := by
    have hc : Steps p.tables e below (s₁.setTop (entryFrame m #[.ref a, .ref b, .int (Int32.ofNat o), .int (Int32.ofNat len), .null] 6)) (T8.setTop (mkF m 45 #[.val (.ref a), .val (.ref b), .val (.int (Int32.ofNat o)), .val (.int (Int32.ofNat len)), .val .null, .val (.ref s.heap.size)] [.int (Int32.ofNat len), .ref s.heap.size, .ref a])) := c9.trans (by
      refine XS.astore X8.here hexec rfl (hb hbytes d39) rfl rfl rfl ?_
      refine XS.aloadN X8.here hexec rfl (hb hbytes d41) rfl rfl ?_
      refine XS.aload X8.here hexec rfl (hb hbytes d42) rfl rfl ?_
      refine XS.iloadN X8.here hexec rfl (hb hbytes d44) rfl ?_
      exact Steps.refl _)
    rw [n4]; exact hc
  obtain ⟨v11, T11, X11, E11, g11⟩ := X8.callS hexec (CodL.law l s.heap.size N) hown (wks W (staticW "java/lang/String" 47 CodL.yN)) (wk W CodL.tab) (W := 1) (Nat.le_of_ble_eq_true rfl) (Nat.le_of_ble_eq_true rfl) (Nat.le_refl _) (by show 0 + len + 0 ≤ len; omega) (g := (mkF m 45 #[.val (.ref a), .val (.ref b), .val (.int (Int32.ofNat o)), .val (.int (Int32.ofNat len)), .val .null, .val (.ref s.heap.size)] [.int (Int32.ofNat N.slots.size), .ref s.heap.size, .ref a])) rfl (by rw [hml]; rfl) c10 (argsL := [.ref s.heap.size, .int (Int32.ofNat N.slots.size)]) (rest := [.ref a]) rfl rfl (by show 2 * 0 + (1 + 0) ≤ _; decide) (hb hbytes d45) (⟨rfl, n1⟩)
  obtain ⟨rfl, q11⟩ := E11
  have hB11 := hB1.mv (X8.warmed.alike.symm.trans X11.warmed.alike) q11
  have c12 : Steps p.tables e below (s₁.setTop (entryFrame m #[.ref a, .ref b, .int (Int32.ofNat o), .int (Int32.ofNat len), .null] 6)) (T11.setTop (mkF m 48 #[.val (.ref a), .val (.ref b), .val (.int (Int32.ofNat o)), .val (.int (Int32.ofNat len)), .val .null, .val (.ref s.heap.size)] [.int 0, .ref a])) := g11
  obtain ⟨T13, X13, p13, bl13, sl13, st13⟩ := X11.finit hexec hown (wk W (.fieldLink "java/lang/String" 15 "java/lang/String" "coder" "B")) (Or.inr ⟨_, (wk W (.laysFinal "java/lang/String" "java/lang/String" "coder" "B"))⟩) (Or.inl ⟨rfl, hnm⟩) f2 (Or.inl rfl) hB11 (t := .byte) (by decide +kernel) rfl (g := (mkF m 48 #[.val (.ref a), .val (.ref b), .val (.int (Int32.ofNat o)), .val (.int (Int32.ofNat len)), .val .null, .val (.ref s.heap.size)] [.int 0, .ref a])) rfl (rest := []) rfl (hb hbytes d48)
  have c14 : Steps p.tables e below (s₁.setTop (entryFrame m #[.ref a, .ref b, .int (Int32.ofNat o), .int (Int32.ofNat len), .null] 6)) (T13.setTop (mkF m 54 #[.val (.ref a), .val (.ref b), .val (.int (Int32.ofNat o)), .val (.int (Int32.ofNat len)), .val .null, .val (.ref s.heap.size)] [.ref s.heap.size, .ref a])) := (c12.trans (st13 _ (Steps.refl _))).trans (by
    refine XS.aloadN X13.here hexec rfl (hb hbytes d51) rfl rfl ?_
    refine XS.aload X13.here hexec rfl (hb hbytes d52) rfl rfl ?_
    exact Steps.refl _)
  obtain ⟨T15, X15, p15, bl15, sl15, st15⟩ := X13.finit hexec hown (wk W (.fieldLink "java/lang/String" 9 "java/lang/String" "value" "[B")) (Or.inr ⟨_, (wk W (.laysFinal "java/lang/String" "java/lang/String" "value" "[B"))⟩) (Or.inl ⟨rfl, hnm⟩) f1 (Or.inl rfl) bl13 (t := (.array .byte)) (by decide +kernel) rfl (g := (mkF m 54 #[.val (.ref a), .val (.ref b), .val (.int (Int32.ofNat o)), .val (.int (Int32.ofNat len)), .val .null, .val (.ref s.heap.size)] [.ref s.heap.size, .ref a])) rfl (rest := []) rfl (hb hbytes d54)
  have c16 : Steps p.tables e below (s₁.setTop (entryFrame m #[.ref a, .ref b, .int (Int32.ofNat o), .int (Int32.ofNat len), .null] 6)) (T15.setTop (mkF m 57 #[.val (.ref a), .val (.ref b), .val (.int (Int32.ofNat o)), .val (.int (Int32.ofNat len)), .val .null, .val (.ref s.heap.size)] [])) := c14.trans (st15 _ (Steps.refl _))
  have ap := apart (Or.inr ⟨_, (wk W (.laysFinal "java/lang/String" "java/lang/String" "value" "[B"))⟩) (Or.inr ⟨_, (wk W (.laysFinal "java/lang/String" "java/lang/String" "coder" "B"))⟩) f1 f2 (t₁ := .array .byte) (t₂ := .byte) (by decide +kernel) (by decide +kernel) (by decide)
  have al := X8.warmed.alike.symm.trans X15.warmed.alike
  have n7 : T11.heap[s.heap.size]? = some N := by rw [q11]; exact n1.1
  exact ⟨T15, none, _, _, _, X15, by simp, rfl, by omega, (fun _ => rfl), ⟨rfl, _, N, bl15, ((Same.refl D _).set _ (by simp)).set _ (by simp), sl15, (Cell.slots_setSlot_ne _ ap).trans sl13, n1.keep al (p15.other hne (p13.other hne n7)), n2, by rw [al.findClass]; exact n3, n4, n5, fun y c h1 h2 => p15.other h1 (p13.other h1 (by rw [q11]; exact n6 y c h2)), by rw [p15.2.2, p13.2.2, q11]; exact z8⟩, fun fs hl => c16.trans (X15.returnOut hexec hret (hb hbytes d57) hl)⟩
end New4
namespace New1
def yN : MethodName := ⟨"java/lang/String", "<init>", "([C)V"⟩
abbrev yB : ByteArray := jdk_42_method_3_code
theorem d0 : decode yB 0 = .ok (.aload_n 0, 1) := by decide +kernel
theorem d1 : decode yB 1 = .ok (.aload_n 1, 1) := by decide +kernel
theorem d2 : decode yB 2 = .ok (.iconst 0, 1) := by decide +kernel
theorem d3 : decode yB 3 = .ok (.aload_n 1, 1) := by decide +kernel
theorem d4 : decode yB 4 = .ok (.arraylength, 1) := by decide +kernel
theorem d5 : decode yB 5 = .ok (.aconst_null, 1) := by decide +kernel
theorem d6 : decode yB 6 = .ok (.invokespecial 27, 3) := by decide +kernel
theorem d9 : decode yB 9 = .ok (.return_, 1) := by decide +kernel
def site : List Cond := [New4.tab] ++ initW "java/lang/String" 27 New4.yN
def tab : Cond := tabOf yN yB 2 none site
def P (a : Addr) (D : Cell) (fV fC : Field) (b : Addr) (A : Cell) (z : Int32) (args : Array Value) (s : State) : Prop := args = #[.ref a, .ref b] ∧ Blank "java/lang/String" a D s ∧ Found "java/lang/String" "value" "[B" fV s ∧ Found "java/lang/String" "coder" "B" fC s ∧ Ch b A s ∧ StaticIs s "java/lang/String" "COMPACT_STRINGS" "Z" (.int z) ∧ ¬ z = 0 ∧ 0 < A.slots.size ∧ A.slots.size ≤ 536870912 ∧ ∀ i, i < A.slots.size → ¬ 255 < cv A i
def E (a : Addr) (D : Cell) (fV fC : Field) (A : Cell) (r : Option Value) (s u : State) : Prop := Got a D fV fC A 0 A.slots.size r s u
/-- new String(chars), not empty, no char above 255: a Latin-1 String of their low bytes -/
theorem law (l : Launch) (a : Addr) (D : Cell) (fV fC : Field) (b : Addr) (A : Cell) (z : Int32) : Law l yN 2 1 3 52 yB 2 none site (P a D fV fC b A z) (E a D fV fC A) [⟨a, fC.slot⟩, ⟨a, fV.slot⟩] 1 A.slots.size := by
  refine Law.of_walk (plainFor_of_name (by decide +kernel)) (by decide +kernel) (by decide +kernel) (by decide) (fun _ _ h => by rw [h.1]; rfl) (fun _ U U' hal hh h => ⟨h.1, h.2.1.mv hal hh, h.2.2.1.al hal, h.2.2.2.1.al hal, h.2.2.2.2.1.mv hal hh, h.2.2.2.2.2.1.there hal hh, h.2.2.2.2.2.2⟩) (fun r U U' V V' h1 hal h2 h => Got.mv r U U' V V' h1 hal h2 h) ?_
  intro p e s m args below meth c s₁ X0 hexec hbytes hml hret hlk hnm hown hh0 W hP
  obtain ⟨rfl, hB, f1, f2, hA, s1, hz, l0, l2, hp⟩ := hP
  have c1 : Steps p.tables e below (s₁.setTop (entryFrame m #[.ref a, .ref b] 2)) (s₁.setTop (mkF m 0 #[.val (.ref a), .val (.ref b)] [])) := entry rfl
  have c2 : Steps p.tables e below (s₁.setTop (entryFrame m #[.ref a, .ref b] 2)) (s₁.setTop (mkF m 6 #[.val (.ref a), .val (.ref b)] [.null, .int (Int32.ofNat A.slots.size), .int 0, .ref b, .ref a])) := c1.trans (by
    refine XS.aloadN X0.here hexec rfl (hb hbytes d0) rfl rfl ?_
    refine XS.aloadN X0.here hexec rfl (hb hbytes d1) rfl rfl ?_
    refine iconstV X0.here hexec rfl 0 (hb hbytes d2) (by decide) ?_
    refine XS.aloadN X0.here hexec rfl (hb hbytes d3) rfl rfl ?_
    refine X0.alen hexec (hA.1.mv X0.warmed.alike hh0) rfl rfl (hb hbytes d4) ?_
    refine XS.aconstNull X0.here hexec rfl (hb hbytes d5) ?_
    exact Steps.refl _)
  obtain ⟨v3, T3, X3, E3, g3⟩ := X0.callN hexec (New4.law l a D fV fC b A z 0 A.slots.size) rfl hown (wks W (initW "java/lang/String" 27 New4.yN)) (W New4.tab (by simp only [site, List.mem_cons, List.mem_append, true_or, or_true])) (W := 0) (Nat.le_of_ble_eq_true rfl) (Nat.le_of_ble_eq_true rfl) (Nat.le_refl _) (by show 0 + A.slots.size ≤ A.slots.size; omega) (g := (mkF m 6 #[.val (.ref a), .val (.ref b)] [.null, .int (Int32.ofNat A.slots.size), .int (Int32.ofNat 0), .ref b, .ref a])) rfl (by rw [hml]; rfl) c2 (argsL := [.ref b, .int (Int32.ofNat 0), .int (Int32.ofNat A.slots.size), .null]) (rest := []) rfl rfl (by show 2 * 0 + 0 ≤ _; decide) (hb hbytes d6) (⟨rfl, hB.mv X0.warmed.alike hh0, f1.al X0.warmed.alike, f2.al X0.warmed.alike, hA.mv X0.warmed.alike hh0, s1.there X0.warmed.alike hh0, hz, l0, by omega, l2, fun i hi => by rw [Nat.zero_add]; exact hp i hi⟩)
  have e0 := Got.mv _ s₁ s _ _ hh0.symm (Vm.Alike.refl _) rfl E3
  obtain rfl := e0.1
  have c4 : Steps p.tables e below (s₁.setTop (entryFrame m #[.ref a, .ref b] 2)) (T3.setTop (mkF m 9 #[.val (.ref a), .val (.ref b)] [])) := g3
  exact ⟨T3, none, _, _, _, X3, by simp, rfl, by omega, (fun _ => rfl), e0, fun fs hl => c4.trans (X3.returnOut hexec hret (hb hbytes d9) hl)⟩
theorem pays {l : Launch} {R : Room} {p : Program} {e : Env} {below : List Frame} {s : State} {sargs : Array Value} {len W : Nat} (a : Addr) (D : Cell) (fV fC : Field) (b : Addr) (A : Cell) (z : Int32) (htab : tab.before sargs s = true) (hfr : 4 ≤ R.frames) (hlo : W + 65 ≤ R.locals) :
    Back l R p e below s sargs yN len W (fun A₁ a₁ => A₁.cells + 1 ≤ R.cells ∧ A₁.slots + A.slots.size ≤ R.slots ∧ P a D fV fC b A z a₁ A₁.U) (fun A₁ _ v₁ B₁ => E a D fV fC A v₁ A₁.U B₁.U ∧ B₁.locs = A₁.locs ++ [⟨a, fC.slot⟩, ⟨a, fV.slot⟩] ∧ B₁.cells = A₁.cells + 1 ∧ B₁.slots = A₁.slots + A.slots.size) :=
  (law l a D fV fC b A z).pays htab hfr (by omega)
end New1
/-- the byte, read back as charAt reads it, is the char -/
theorem lo8_mask {x : Int32} (h0 : ¬ x < 0) (h1 : ¬ 255 < x) : lo8 x &&& 255 = x := by
  have t : ∀ k : Fin 256, lo8 (Int32.ofNat k.val) &&& 255 = Int32.ofNat k.val := by decide +kernel
  rw [Int32.lt_iff_toInt_lt] at h0 h1
  have e0 : (0 : Int32).toInt = 0 := rfl
  have e1 : (255 : Int32).toInt = 255 := rfl
  obtain ⟨k, hk⟩ : ∃ k : Nat, x.toInt = k := ⟨x.toInt.toNat, by omega⟩
  have hx : x = Int32.ofNat k := Int32.toInt_inj.mp (by rw [hk, Int32.toInt_ofNat_small (by omega)])
  rw [hx]
  exact t ⟨k, by omega⟩
end StrChars
namespace StrChars.Road
open Jvm Sem ClassFile Op Lib Jvm.Stand Jvm.Free Jvm.Free.XT
open Jvm.Lib.Cold (StaticIs)
abbrev ST : String := "java/lang/String"
/-- every table word that New1's law asks, flat -/
abbrev words : List Jvm.Cond := [.code New1.yN New1.yB 2 none, .initialized ST, .methodLink ST 27 New4.yN, .instanceMethod New4.yN,
  .code New4.yN New4.yB 6 none, .fieldLink ST 38 ST "COMPACT_STRINGS" "Z", .laysFinal ST ST "value" "[B", .fieldLink ST 9 ST "value" "[B", .laysFinal ST ST "coder" "B", .fieldLink ST 15 ST "coder" "B",
  .methodLink ST 1 Lib.objectInit, .instanceMethod Lib.objectInit, .code Lib.objectInit ⟨#[0xb1]⟩ 1 none, .methodLink ST 177 Cmp3.yN, .static Cmp3.yN, .methodLink ST 47 CodL.yN, .static CodL.yN,
  .code Cmp3.yN Cmp3.yB 6 (some (.array .byte)), .initialized U16, .arrayClass .byte, .methodLink U16 115 Cmp5.yN, .static Cmp5.yN, .code Cmp5.yN Cmp5.yB 7 (some .int), .code CodL.yN CodL.yB 2 (some .byte)]
theorem tab_of {a : Array Value} {s : State} (h : ∀ w ∈ words, w.before a s = true) : New1.tab.before a s = true := by
  have h5 : Cmp5.tab.before a s = true := unparts (wk h (.code Cmp5.yN Cmp5.yB 7 (some .int))) (wks h (.initialized Cmp5.yN.cls :: Cmp5.site))
  have hc : CodL.tab.before a s = true := unparts (wk h (.code CodL.yN CodL.yB 2 (some .byte))) (wks h (.initialized CodL.yN.cls :: CodL.site))
  have q5 : ∀ w ∈ Cmp5.tab :: words, w.before a s = true := fun w hw => (List.mem_cons.mp hw).elim (fun e => e ▸ h5) (h w)
  have h3 : Cmp3.tab.before a s = true := unparts (wk q5 (.code Cmp3.yN Cmp3.yB 6 (some (.array .byte)))) (wks q5 (.initialized Cmp3.yN.cls :: Cmp3.site))
  have q3 : ∀ w ∈ Cmp3.tab :: CodL.tab :: words, w.before a s = true := fun w hw => (List.mem_cons.mp hw).elim (fun e => e ▸ h3) fun hw => (List.mem_cons.mp hw).elim (fun e => e ▸ hc) (h w)
  have h4 : New4.tab.before a s = true := unparts (wk q3 (.code New4.yN New4.yB 6 none)) (wks q3 (.initialized New4.yN.cls :: New4.site))
  have q4 : ∀ w ∈ New4.tab :: words, w.before a s = true := fun w hw => (List.mem_cons.mp hw).elim (fun e => e ▸ h4) (h w)
  exact unparts (wk q4 (.code New1.yN New1.yB 2 none)) (wks q4 (.initialized New1.yN.cls :: New1.site))
/-- the words ride from the start Z to the walk's own state -/
theorem moved {Z s : State} {a0 args : Array Value} (hZ : Z.Warmed39 s.vm) (hw : ∀ d ∈ words, d.before a0 Z = true) : ∀ d ∈ words, d.before args s = true := fun d hd => by
  have q := hw d hd
  have t : ∀ d ∈ words, d = .arrayClass .byte ∨ (d.onTables && d.keepsFace) = true := by decide +kernel
  rcases t d hd with rfl | t
  · exact RoadKit.mvA hZ q
  · exact RoadKit.mv hZ q t
/-- WHAT COMES BACK, over the tables of the start Z: h the heap at the call, h' behind it -/
def Q (Z : State) (x : Addr) (A : Cell) (h : Heap) (v : Option Value) (h' : Heap) (L : List Loc) : Prop := v = none ∧ (∀ y ∈ L, y.base = x) ∧ RoadKit.Keep h h' [x] ∧ h'.size = h.size + 1 ∧ RoadKit.Exa Z h' x ST ∧ RoadKit.Fld Z h' x ST "value" "[B" (.ref h.size) ∧ RoadKit.Fld Z h' x ST "coder" "B" (.int 0) ∧
  (∃ V : Cell, RoadKit.Arr Z h' h.size V .byte ∧ V.vm = .none ∧ Z.vm.findClass "[B" = some V.cls ∧ V.slots.size = A.slots.size ∧ ∀ j, j < A.slots.size → V.slots[j]? = some (.int (lo8 (cv A j)))) ∧
  ∀ (O n d : String) (w : Value), RoadKit.Fld Z h x O n d w → RoadKit.slotOf Z O n d ≠ RoadKit.slotOf Z ST "value" "[B" → RoadKit.slotOf Z O n d ≠ RoadKit.slotOf Z ST "coder" "B" → RoadKit.Fld Z h' x O n d w
/-- **new String(chars) AT A CALL, IN THE ROAD'S FORM**: for specialBack behind newO: x the fresh String, b the char[] with the cell A -/
theorem back {p : Program} {l : Launch} {e : Env} {R : Room} {s : State} {args : Array Value} {below : List Frame} {len W : Nat} {Z : State} {a0 : Array Value} {h : Heap} (hZ : Z.Warmed39 s.vm) (hw : ∀ d ∈ words, d.before a0 Z = true) {kI : Nat} (wi : (Jvm.Cond.instantiable ST kI).before a0 Z = true)
    {x b : Addr} {A : Cell} {z : Int32} {v0 c0 : Value} (E : RoadKit.Exa Z h x ST) (V : RoadKit.Fld Z h x ST "value" "[B" v0) (C : RoadKit.Fld Z h x ST "coder" "B" c0) (K : RoadKit.Arr Z h b A .char) (hty : Typed .char A) (S : RoadKit.Sta Z h ST "COMPACT_STRINGS" "Z" (.int z)) (hz : ¬ z = 0)
    (l0 : 0 < A.slots.size) (l2 : A.slots.size ≤ 536870912) (hp : ∀ i, i < A.slots.size → ¬ 255 < cv A i) (hfr : 4 ≤ R.frames) (hlo : W + 65 ≤ R.locals) :
    Back l R p e below s args New1.yN len W (fun P a => a = #[.ref x, .ref b] ∧ P.U.heap = h ∧ P.cells + 1 ≤ R.cells ∧ P.slots + A.slots.size ≤ R.slots)
      (fun P _ v B => ∃ L, Q Z x A h v B.U.heap L ∧ B.locs = P.locs ++ L ∧ B.cells = P.cells + 1 ∧ B.slots = P.slots + A.slots.size) := by
  intro m meth c P g ig mk a X hg hsize hdg hW hn hp'
  obtain ⟨rfl, rfl, r1, r2⟩ := hp'
  have al : Z.vm.Alike P.U.vm := hZ.alike.trans X.warmed.alike
  obtain ⟨D, cfV, kV, iV, fV, hD, gV, stV, knV, obV, asV, slV⟩ := id V
  obtain ⟨D', cfC, kC, iC, fC, hD', gC, stC, -, -, asC, slC⟩ := id C
  cases hD.symm.trans hD'
  obtain ⟨D2, kD, e1, e2, e3, e4, e5⟩ := id E
  cases hD.symm.trans e1
  obtain ⟨c2, k2, i1, i2, i3, -⟩ := Cond.instantiable_spec wi
  cases e2.symm.trans i1
  cases e3.symm.trans i2
  obtain ⟨kU, u1, u2⟩ := al.2.2 _ _ e3
  have hB : Blank ST x D P.U := ⟨hD, ⟨knV, fun q hq => by rw [hq] at obV; cases obV⟩, by rw [al.findClass]; exact e2, kU, u1, by rw [u2]; exact i3, by rw [u2]; exact e5 i3⟩
  have F1 : Found ST "value" "[B" fV P.U := ⟨SBG.found_only al ⟨cfV, kV, iV, gV⟩, stV⟩
  have F2 : Found ST "coder" "B" fC P.U := ⟨SBG.found_only al ⟨cfC, kC, iC, gC⟩, stC⟩
  have hA : Ch b A P.U := ⟨⟨K.1, State.isArrayOf_alike al K.2.1, K.2.2, by omega⟩, hty⟩
  have hS : StaticIs P.U ST "COMPACT_STRINGS" "Z" (.int z) := by
    obtain ⟨cfS, iS, kS, fS, st, cS, t1, t2, t3, t4, t5, t6, t7⟩ := S
    exact StaticIs.there (s := { Z with heap := P.U.heap }) ⟨cfS, iS, kS, fS, st, cS, t1, t2, t3, t4, t5, (fun q => by rw [q] at t6; cases t6), t7⟩ al rfl
  obtain ⟨v, B, X', ⟨⟨hv, E', V', q1, q2, q3, q4, q5, q6, q7, q8, q9, q10, q11⟩, hl, hc, hs⟩, st⟩ := New1.pays x D fV fC b A z (tab_of (moved hZ hw)) hfr hlo m meth c P g ig mk _ X hg hsize hdg hW hn ⟨r1, r2, rfl, hB, F1, F2, hA, hS, hz, l0, l2, hp⟩
  have al' : Z.vm.Alike B.U.vm := hZ.alike.trans X'.warmed.alike
  have hsz : E'.slots.size = D.slots.size := by
    obtain ⟨-, -, -, kB, w1, w2, w3⟩ := q1
    obtain ⟨kB', y1, y2⟩ := al'.2.2 _ _ e3
    rw [q2.2.1] at w1
    cases w1.symm.trans y1
    rw [w3, e5 i3, y2]
  refine ⟨v, B, X', ⟨_, ⟨hv, ?_, ⟨by omega, fun y cy hy hn' => q10 y cy (by simpa using hn') hy, fun y cy hy => ?_⟩, q11, ⟨E', _, q1.1, by rw [q2.2.1]; exact e2, by rw [q2.2.1]; exact e3, by rw [q2.1]; exact obV, fun _ => by rw [hsz]; exact e5 i3⟩,
    ⟨E', cfV, kV, iV, fV, q1.1, gV, stV, by rw [q2.1]; exact knV, by rw [q2.1]; exact obV, by rw [q2.2.1]; exact asV, q3⟩, ⟨E', cfC, kC, iC, fC, q1.1, gC, stC, by rw [q2.1]; exact knV, by rw [q2.1]; exact obV, by rw [q2.2.1]; exact asC, q4⟩,
    ⟨V', ⟨q5.1, State.isArrayOf_alike al'.symm q5.2.1, q5.2.2.1⟩, q6, by rw [← al'.findClass]; exact q7, q8, fun j hj => by have := q9 j hj; rwa [Nat.zero_add] at this⟩, fun O n d w F n1 n2 => ?_⟩, hl, hc, hs⟩, st⟩
  · intro y hy
    simp only [List.mem_cons, List.not_mem_nil, or_false] at hy
    rcases hy with rfl | rfl <;> rfl
  · by_cases q : y = x
    · subst q
      cases hD.symm.trans hy
      exact ⟨E', q1.1, q2.2.1, q2.1, hsz⟩
    · exact ⟨cy, q10 y cy q hy, rfl, rfl, rfl⟩
  · obtain ⟨D3, cf, k, i, f, g1, g2, g3, g4, g5, g6, g7⟩ := F
    cases hD.symm.trans g1
    simp only [RoadKit.slotOf, g2, gV, gC, Option.map_some, Option.getD_some] at n1 n2
    exact ⟨E', cf, k, i, f, q1.1, g2, g3, by rw [q2.1]; exact g4, by rw [q2.1]; exact g5, by rw [q2.2.1]; exact g6, by rw [q2.2.2 f.slot (by simp [n1, n2])]; exact g7⟩
end StrChars.Road
namespace StrChars.Road
open Jvm Sem ClassFile Op Lib Jvm.Stand Jvm.Free Jvm.Free.XT
/-- WHAT COMES BACK, the byte[] as a list of values -/
def QA (Z : State) (x : Addr) (zn : Int32) (cs : List Int32) (h : Heap) (v : Option Value) (h' : Heap) (L : List Loc) : Prop := v = none ∧ (∀ y ∈ L, y.base = x) ∧ RoadKit.Keep h h' [x] ∧ h'.size = h.size + 1 ∧ RoadKit.Exa Z h' x ST ∧ RoadKit.Fld Z h' x ST "value" "[B" (.ref h.size) ∧ RoadKit.Fld Z h' x ST "coder" "B" (.int 0) ∧
  (∃ kb, Z.vm.findClass "[B" = some kb ∧ RoadKit.Arv Z h' h.size kb .byte zn (cs.map fun c => .int (lo8 c)) (.int 0)) ∧
  ∀ (O n d : String) (w : Value), RoadKit.Fld Z h x O n d w → RoadKit.slotOf Z O n d ≠ RoadKit.slotOf Z ST "value" "[B" → RoadKit.slotOf Z O n d ≠ RoadKit.slotOf Z ST "coder" "B" → RoadKit.Fld Z h' x O n d w
/-- **new String(chars) AT A CALL, THE ARRAYS AS LISTS**: the char[] at b holds cs, not empty, no char above 255 -/
theorem backArv {p : Program} {l : Launch} {e : Env} {R : Room} {s : State} {args : Array Value} {below : List Frame} {len W : Nat} {Z : State} {a0 : Array Value} {h : Heap} (hZ : Z.Warmed39 s.vm) (hw : ∀ d ∈ words, d.before a0 Z = true) {kI : Nat} (wi : (Jvm.Cond.instantiable ST kI).before a0 Z = true)
    {x b : Addr} {k : ClassId} {zn z : Int32} {cs : List Int32} {dv v0 c0 : Value} (E : RoadKit.Exa Z h x ST) (V : RoadKit.Fld Z h x ST "value" "[B" v0) (C : RoadKit.Fld Z h x ST "coder" "B" c0) (K : RoadKit.Arv Z h b k .char zn (cs.map Value.int) dv) (S : RoadKit.Sta Z h ST "COMPACT_STRINGS" "Z" (.int z)) (hz : ¬ z = 0)
    (hlen : zn.toNatClampNeg = cs.length) (h0 : 0 < cs.length) (hbig : cs.length ≤ 536870912) (hall : ∀ c ∈ cs, ¬ 255 < c) (hfr : 4 ≤ R.frames) (hlo : W + 65 ≤ R.locals) :
    Back l R p e below s args New1.yN len W (fun P a => a = #[.ref x, .ref b] ∧ P.U.heap = h ∧ P.cells + 1 ≤ R.cells ∧ P.slots + cs.length ≤ R.slots)
      (fun P _ v B => ∃ L, QA Z x zn cs h v B.U.heap L ∧ B.locs = P.locs ++ L ∧ B.cells = P.cells + 1 ∧ B.slots = P.slots + cs.length) := by
  obtain ⟨A, K1, K2, K3, K4, K5, K6⟩ := K
  have e : A.slots.size = cs.length := K3.trans hlen
  have hat : ∀ (i : Nat) (hi : i < cs.length), A.slots[i]? = some (.int cs[i]) := fun i hi => by rw [K5 i (by omega)]; simp [List.getD_eq_getElem?_getD, hi]
  have hcv : ∀ (i : Nat) (hi : i < cs.length), cv A i = cs[i] := fun i hi => by unfold cv; rw [hat i hi]
  have hty : Typed .char A := fun i v hv => by
    have hi : i < A.slots.size := (Array.getElem?_eq_some_iff.mp hv).1
    have q := K5 i hi
    rw [hv] at q
    rw [Option.some.inj q]
    exact K6 i hi
  refine Back.mono (back hZ hw wi E V C K1 hty S hz (by omega) (by omega) (fun i hi => by rw [hcv i (by omega)]; exact hall _ (List.getElem_mem _)) hfr hlo) (fun P a hp => ⟨hp.1, hp.2.1, hp.2.2.1, by rw [e]; exact hp.2.2.2⟩) (fun P a v B hp hq => ?_)
  obtain ⟨L, ⟨q1, q2, q3, q4, q5, q6, q7, ⟨V', v1, v2, v3, v4, v5⟩, q9⟩, hl, hc, hs⟩ := hq
  refine ⟨L, ⟨q1, q2, q3, q4, q5, q6, q7, ⟨V'.cls, v3, V', v1, rfl, by rw [v4, e, hlen], K4, fun i hi => ?_, fun i hi => ?_⟩, q9⟩, hl, hc, by rw [hs, e]⟩
  · have hi' : i < cs.length := by omega
    rw [v5 i (by omega), hcv i hi']; simp [List.getD_eq_getElem?_getD, hi']
  · have hi' : i < cs.length := by omega
    simp only [List.getD_eq_getElem?_getD, List.getElem?_map, List.getElem?_eq_getElem hi', Option.map_some, Option.getD_some]
    exact fits_lo8 _
end StrChars.Road
namespace StrChars.Road
open Jvm Sem ClassFile Op Lib Jvm.Stand Jvm.Free Jvm.Free.XT
/-- WHAT COMES BACK, in the writer's own shape -/
def QV (Z : State) (x : Addr) (N : Int32) (bs : List Int32) (h : Heap) (n0 : Nat) (v : Option Value) (h' : Heap) (L : List Loc) : Prop := v = none ∧ RoadKit.Fr n0 L ∧ RoadKit.Keep h h' [x] ∧ RoadKit.Exa Z h' x ST ∧ RoadKit.Fld Z h' x ST "coder" "B" (.int 0) ∧
  ∃ (t : Addr) (kb : ClassId), n0 ≤ t ∧ h.size ≤ t ∧ ¬ t = x ∧ RoadKit.Fld Z h' x ST "value" "[B" (.ref t) ∧ RoadKit.Arv Z h' t kb .byte N (bs.map Value.int) (.int 0)
/-- **new String(chars) AT A CALL, FOR THE WRITER**: a char[] of n known ints, each 0 to 255 -/
theorem backV {p : Program} {l : Launch} {e : Env} {R : Room} {s : State} {args : Array Value} {below : List Frame} {len W : Nat} {Z : State} {a0 : Array Value} {h : Heap} (hZ : Z.Warmed39 s.vm) (hw : ∀ d ∈ words, d.before a0 Z = true) {kI : Nat} (wi : (Jvm.Cond.instantiable ST kI).before a0 Z = true)
    {x b : Addr} {kC : ClassId} {cs bs : List Int32} {d v0 c0 : Value} {z N : Int32} {n n0 : Nat} (hx0 : n0 ≤ x) (hh0 : n0 ≤ h.size) (E : RoadKit.Exa Z h x ST) (V : RoadKit.Fld Z h x ST "value" "[B" v0) (C : RoadKit.Fld Z h x ST "coder" "B" c0) (K : RoadKit.Arv Z h b kC .char N (cs.map Value.int) d) (S : RoadKit.Sta Z h ST "COMPACT_STRINGS" "Z" (.int z)) (hz : ¬ z = 0)
    (hn : cs.length = n) (hN : N = Int32.ofNat n) (l0 : 0 < n) (l2 : n ≤ 4000) (hp : ∀ c ∈ cs, ¬ c < 0 ∧ ¬ (255 : Int32) < c) (hb : bs = cs.map (fun c => c.toInt8.toInt32)) (hfr : 4 ≤ R.frames) (hlo : W + 65 ≤ R.locals) :
    Back l R p e below s args (⟨"java/lang/String", "<init>", "([C)V"⟩ : MethodName) len W (fun P a => a = #[.ref x, .ref b] ∧ P.U.heap = h ∧ P.cells + 1 ≤ R.cells ∧ P.slots + n ≤ R.slots)
      (fun P _ v B => ∃ L, QV Z x N bs h n0 v B.U.heap L ∧ B.locs = P.locs ++ L ∧ B.cells = P.cells + 1 ∧ B.slots = P.slots + n) := by
  subst hn hN hb
  refine Back.mono (backArv hZ hw wi E V C K S hz (n32 (by omega)) l0 (by omega) (fun c hc => (hp c hc).2) hfr hlo) (fun P a hp => hp) (fun P a v B hp hq => ?_)
  obtain ⟨L, ⟨q1, q2, q3, q4, q5, q6, q7, ⟨kb, v1, v2⟩, q9⟩, hl, hc, hs⟩ := hq
  exact ⟨L, ⟨q1, fun y hy => by rw [q2 y hy]; exact hx0, q3, q5, q7, h.size, kb, hh0, Nat.le_refl _, Nat.ne_of_gt E.lt, q6, by rw [List.map_map]; exact v2⟩, hl, hc, hs⟩
end StrChars.Road
namespace StrChars
open Jvm Sem ClassFile Op Lib Jvm.Stand Jvm.Free.XT Jvm.Free.ALB Jvm.Free.JM Jvm.Free
open Jvm.Lib.Cold (StaticIs)
def hi8 (x : Int32) : Int32 := lo8 (x >>> ((8 : Int32) &&& 31))
/-- what StringUTF16.getChar makes of two bytes -/
def pairCh (u v : Int32) : Int32 := (((u &&& 255) <<< ((0 : Int32) &&& 31)) ||| ((v &&& 255) <<< ((8 : Int32) &&& 31))).toUInt32.toUInt16.toUInt32.toInt32
theorem shr0 (c : Int32) : c >>> ((0 : Int32) &&& 31) = c := by
  have e : ((0 : Int32) &&& 31) = 0 := by decide
  rw [e]
  apply Int32.toBitVec_inj.mp
  rw [Int32.toBitVec_shiftRight]
  have e1 : ((0 : Int32).toBitVec.smod 32) = 0#32 := by decide
  rw [e1, BitVec.sshiftRight_eq']
  exact BitVec.sshiftRight_zero
theorem lo8_and (x : Int32) : (lo8 x &&& 255).toBitVec.toNat = x.toBitVec.toNat % 256 := by
  have h : (lo8 x).toBitVec = (x.toBitVec.signExtend 8).signExtend 32 := by rw [lo8, Int8.toBitVec_toInt32, Int32.toBitVec_toInt8]
  rw [Int32.toBitVec_and, BitVec.toNat_and, h]
  have e : ((x.toBitVec.signExtend 8).signExtend 32).toNat % 256 = x.toBitVec.toNat % 256 := by
    rw [BitVec.toNat_signExtend]
    have hlt := x.toBitVec.isLt
    simp only [BitVec.toNat_setWidth, BitVec.toNat_signExtend]
    split <;> split <;> omega
  rw [← e]
  exact Nat.and_two_pow_sub_one_eq_mod _ 8
theorem pair_says {c : Int32} (h0 : ¬ c < 0) (h1 : ¬ 65535 < c) : pairCh (lo8 c) (hi8 c) = c := by
  rw [Int32.lt_iff_toInt_lt] at h0 h1
  have e0 : (0 : Int32).toInt = 0 := rfl
  have e1 : (65535 : Int32).toInt = 65535 := rfl
  have hc : c.toInt = c.toBitVec.toNat := by
    have := c.toBitVec.isLt
    have e : c.toInt = c.toBitVec.toInt := rfl
    rw [e] at h0 h1
    rw [e]
    rw [BitVec.toInt_eq_toNat_cond] at h0 h1 ⊢
    split at h0 <;> split <;> omega
  have hn : c.toBitVec.toNat < 65536 := by omega
  have a1 := lo8_and c
  have a2 : (hi8 c &&& 255).toBitVec.toNat = c.toBitVec.toNat / 256 := by
    rw [hi8, lo8_and]
    have e : ((8 : Int32) &&& 31) = 8 := by decide
    rw [e, Int32.toBitVec_shiftRight]
    have e2 : ((8 : Int32).toBitVec.smod 32) = 8#32 := by decide
    rw [e2, BitVec.sshiftRight_eq', BitVec.toNat_sshiftRight_of_msb_false (by rw [BitVec.msb_eq_false_iff_two_mul_lt]; omega)]
    show c.toBitVec.toNat >>> 8 % 256 = _
    rw [Nat.shiftRight_eq_div_pow]
    omega
  unfold pairCh
  apply Int32.toBitVec_inj.mp
  apply BitVec.eq_of_toNat_eq
  have f0 : ((0 : Int32) &&& 31) = 0 := by decide
  have f8 : ((8 : Int32) &&& 31) = 8 := by decide
  rw [f0, f8]
  have g : (((lo8 c &&& 255) <<< (0 : Int32)) ||| ((hi8 c &&& 255) <<< (8 : Int32))).toBitVec.toNat = c.toBitVec.toNat := by
    rw [Int32.toBitVec_or, Int32.toBitVec_shiftLeft, Int32.toBitVec_shiftLeft]
    have s0 : ((0 : Int32).toBitVec.smod 32) = 0#32 := by decide
    have s8 : ((8 : Int32).toBitVec.smod 32) = 8#32 := by decide
    rw [s0, s8, BitVec.toNat_or]
    simp only [BitVec.shiftLeft_eq', BitVec.toNat_shiftLeft, a1, a2]
    show (c.toBitVec.toNat % 256) <<< 0 % 2 ^ 32 ||| (c.toBitVec.toNat / 256) <<< 8 % 2 ^ 32 = _
    rw [Nat.shiftLeft_zero, Nat.mod_eq_of_lt (show c.toBitVec.toNat % 256 < 2 ^ 32 by omega), Nat.mod_eq_of_lt (show (c.toBitVec.toNat / 256) <<< 8 < 2 ^ 32 by rw [Nat.shiftLeft_eq]; omega), Nat.or_comm, ← Nat.shiftLeft_add_eq_or_of_lt (by omega), Nat.shiftLeft_eq]
    omega
  show BitVec.toNat (((((lo8 c &&& 255) <<< (0 : Int32)) ||| ((hi8 c &&& 255) <<< (8 : Int32))).toBitVec.setWidth 16).setWidth 32) = _
  rw [BitVec.toNat_setWidth, BitVec.toNat_setWidth, g]
  omega
end StrChars
namespace StrChars
open Jvm Sem ClassFile Op Lib Jvm.Stand Jvm.Free.XT Jvm.Free.ALB Jvm.Free.JM Jvm.Free
open Jvm.Lib.Cold (StaticIs)
theorem shr1 {n : Nat} (h : 2 * n < 2 ^ 31) : Int32.ofNat (2 * n) >>> ((1 : Int32) &&& 31) = Int32.ofNat n := by
  have e : ((1 : Int32) &&& 31) = 1 := by decide
  rw [e]
  apply Int32.toBitVec_inj.mp
  rw [Int32.toBitVec_shiftRight]
  have e1 : ((1 : Int32).toBitVec.smod 32) = 1#32 := by decide
  have hm : (BitVec.ofNat 32 (2 * n)).toNat = 2 * n := by rw [BitVec.toNat_ofNat, Nat.mod_eq_of_lt (by omega)]
  rw [e1, BitVec.sshiftRight_eq']
  apply BitVec.eq_of_toNat_eq
  show ((BitVec.ofNat 32 (2 * n)).sshiftRight 1).toNat = (BitVec.ofNat 32 n).toNat
  rw [BitVec.toNat_sshiftRight_of_msb_false (by rw [BitVec.msb_eq_false_iff_two_mul_lt, hm]; omega), hm, BitVec.toNat_ofNat, Nat.shiftRight_eq_div_pow]
  omega
/-- charAt's cast of a byte read back -/
def chr8 (u : Int32) : Int32 := (u &&& 255).toUInt32.toUInt16.toUInt32.toInt32
theorem chr8_lo8 {c : Int32} (h0 : ¬ c < 0) (h1 : ¬ 255 < c) : chr8 (lo8 c) = c := by
  have t : ∀ k : Fin 256, (Int32.ofNat k.val).toUInt32.toUInt16.toUInt32.toInt32 = Int32.ofNat k.val := by decide +kernel
  unfold chr8
  rw [lo8_mask h0 h1]
  rw [Int32.lt_iff_toInt_lt] at h0 h1
  have e0 : (0 : Int32).toInt = 0 := rfl
  have e1 : (255 : Int32).toInt = 255 := rfl
  obtain ⟨k, hk⟩ : ∃ k : Nat, c.toInt = k := ⟨c.toInt.toNat, by omega⟩
  have hx : c = Int32.ofNat k := Int32.toInt_inj.mp (by rw [hk, Int32.toInt_ofNat_small (by omega)])
  rw [hx]
  exact t ⟨k, by omega⟩
theorem narrow_ch {c : Int32} (h0 : ¬ c < 0) (h1 : ¬ 65535 < c) : narrow .char (.int c) = .int c := by
  have q : narrow .char (.int (pairCh (lo8 c) (hi8 c))) = .int (pairCh (lo8 c) (hi8 c)) := narrow_c _
  rwa [pair_says h0 h1] at q
/-- the array's cell V codes the n chars f 0 .. f (n - 1) by the coder cd, as the JDK does: coder 1 just where some char is above 255 -/
def Cod (cd : Int32) (n : Nat) (f : Nat → Int32) (V : Cell) : Prop := (cd = 0 ∧ V.slots.size = n ∧ ∀ j, j < n → V.slots[j]? = some (.int (lo8 (f j))) ∧ ¬ 255 < f j) ∨ (cd = 1 ∧ V.slots.size = 2 * n ∧ (∀ j, j < n → V.slots[2 * j]? = some (.int (lo8 (f j))) ∧ V.slots[2 * j + 1]? = some (.int (hi8 (f j)))) ∧ ∃ j, j < n ∧ 255 < f j)
theorem Cod.cd {cd : Int32} {n : Nat} {f : Nat → Int32} {V : Cell} (h : Cod cd n f V) : cd = 0 ∨ cd = 1 := h.imp (fun q => q.1) fun q => q.1
theorem Cod.len {cd : Int32} {n : Nat} {f : Nat → Int32} {V : Cell} (h : Cod cd n f V) (hs : V.slots.size < 2 ^ 31) : Int32.ofNat V.slots.size >>> (cd &&& 31) = Int32.ofNat n := by
  rcases h with ⟨rfl, h, -⟩ | ⟨rfl, h, -⟩
  · rw [shr0, h]
  · rw [h, shr1 (by omega)]
/-- **x is a String of the n chars f 0 .. f (n - 1)**, Latin-1 or UTF-16; its array at t has the cell V -/
def Txt (x t : Addr) (V : Cell) (cd : Int32) (n : Nat) (f : Nat → Int32) (U : State) : Prop := Exact "java/lang/String" x U ∧ Has x "java/lang/String" "value" "[B" (.ref t) U ∧ Has x "java/lang/String" "coder" "B" (.int cd) U ∧ XT.Arr .byte t V U ∧ Cod cd n f V ∧ ∀ j, j < n → ¬ f j < 0 ∧ ¬ 65535 < f j
theorem Txt.mv {x t : Addr} {V : Cell} {cd : Int32} {n : Nat} {f : Nat → Int32} {U U' : State} (h : Txt x t V cd n f U) (hal : U.vm.Alike U'.vm) (hh : U'.heap = U.heap) : Txt x t V cd n f U' := ⟨h.1.mv hal hh, h.2.1.mv hal hh, h.2.2.1.mv hal hh, h.2.2.2.1.mv hal hh, h.2.2.2.2⟩
namespace Cdr
def yN : MethodName := ⟨"java/lang/String", "coder", "()B"⟩
abbrev yB : ByteArray := jdk_42_method_152_code
theorem d0 : decode yB 0 = .ok (.getstatic 38, 3) := by decide +kernel
theorem d3 : decode yB 3 = .ok (.ifCond (.eq) 10, 3) := by decide +kernel
theorem d6 : decode yB 6 = .ok (.aload_n 0, 1) := by decide +kernel
theorem d7 : decode yB 7 = .ok (.getfield 15, 3) := by decide +kernel
theorem d10 : decode yB 10 = .ok (.goto 4, 3) := by decide +kernel
theorem d14 : decode yB 14 = .ok (.ireturn, 1) := by decide +kernel
def site : List Cond := [.fieldLink "java/lang/String" 38 "java/lang/String" "COMPACT_STRINGS" "Z", .fieldLink "java/lang/String" 15 "java/lang/String" "coder" "B"]
def tab : Cond := tabOf yN yB 1 (some .byte) site
def P (x : Addr) (cd z : Int32) (args : Array Value) (s : State) : Prop := args = #[.ref x] ∧ Has x "java/lang/String" "coder" "B" (.int cd) s ∧ (cd = 0 ∨ cd = 1) ∧ StaticIs s "java/lang/String" "COMPACT_STRINGS" "Z" (.int z) ∧ ¬ z = 0
def E (cd : Int32) (r : Option Value) (s u : State) : Prop := XT.PureE (some (.int cd)) r s u
theorem law (l : Launch) (x : Addr) (cd z : Int32) : Law l yN 1 0 0 0 yB 1 (some .byte) site (P x cd z) (E cd) [] 0 0 := by
  refine Law.of_walk (plainFor_of_name (by decide +kernel)) (by decide +kernel) (by decide +kernel) (by decide) (fun _ _ h => by rw [h.1]; rfl) (fun _ U U' hal hh h => ⟨h.1, h.2.1.mv hal hh, h.2.2.1, h.2.2.2.1.there hal hh, h.2.2.2.2⟩) (fun r U U' V V' h1 hal h2 h => XT.PureE.mv r U U' V V' h1 hal h2 h) ?_
  intro p e s m args below meth c s₁ X0 hexec hbytes hml hret hlk hnm hown hh0 W hP
  obtain ⟨rfl, hx, hc, s1, hz⟩ := hP
  have c1 : Steps p.tables e below (s₁.setTop (entryFrame m #[.ref x] 1)) (s₁.setTop (mkF m 0 #[.val (.ref x)] [])) := entry rfl
  obtain ⟨T2, X2, q2, st2⟩ := X0.sget hexec hown (wk W (.fieldLink "java/lang/String" 38 "java/lang/String" "COMPACT_STRINGS" "Z")) s1 (fun _ _ h => by rw [hh0]; exact h) (g := (mkF m 0 #[.val (.ref x)] [])) rfl (hb hbytes d0)
  have hh2 := q2.trans hh0
  have c3 : Steps p.tables e below (s₁.setTop (entryFrame m #[.ref x] 1)) (T2.setTop (mkF m 7 #[.val (.ref x)] [.ref x])) := (c1.trans (st2 _ (Steps.refl _))).trans (by
    refine XS.ifNo X2.here hexec rfl (hb hbytes d3) rfl (i0_eq_f hz) ?_
    refine XS.aloadN X2.here hexec rfl (hb hbytes d6) rfl rfl ?_
    exact Steps.refl _)
  obtain ⟨T4, X4, q4, st4⟩ := X2.hget hexec hown (wk W (.fieldLink "java/lang/String" 15 "java/lang/String" "coder" "B")) (hx.mv X2.warmed.alike hh2) (g := (mkF m 7 #[.val (.ref x)] [.ref x])) rfl (rest := []) rfl (hb hbytes d7)
  have c5 : Steps p.tables e below (s₁.setTop (entryFrame m #[.ref x] 1)) (T4.setTop (mkF m 14 #[.val (.ref x)] [.int cd])) := (c3.trans (st4 _ (Steps.refl _))).trans (by
    refine XS.goto X4.here hexec rfl (pc0 := 10) rfl (hb hbytes d10) (by decide) rfl ?_
    exact Steps.refl _)
  exact ⟨T4, some (.int cd), _, _, _, X4, rfl, rfl, rfl, (fun h => by cases h), ⟨rfl, q4.trans hh2⟩, fun fs hl => c5.trans (X4.ireturnOut hexec hret (by rcases hc with rfl | rfl <;> rfl) (Or.inr (Or.inr (Or.inl rfl))) (hb hbytes d14) hl)⟩
end Cdr
namespace Len
def yN : MethodName := ⟨"java/lang/String", "length", "()I"⟩
abbrev yB : ByteArray := jdk_42_method_54_code
theorem d0 : decode yB 0 = .ok (.aload_n 0, 1) := by decide +kernel
theorem d1 : decode yB 1 = .ok (.getfield 9, 3) := by decide +kernel
theorem d4 : decode yB 4 = .ok (.arraylength, 1) := by decide +kernel
theorem d5 : decode yB 5 = .ok (.aload_n 0, 1) := by decide +kernel
theorem d6 : decode yB 6 = .ok (.invokevirtual 335, 3) := by decide +kernel
theorem d9 : decode yB 9 = .ok (.ishr, 1) := by decide +kernel
theorem d10 : decode yB 10 = .ok (.ireturn, 1) := by decide +kernel
def site : List Cond := [.fieldLink "java/lang/String" 9 "java/lang/String" "value" "[B", Cdr.tab] ++ virtW "java/lang/String" 335 "java/lang/String" Cdr.yN Cdr.yN
def tab : Cond := tabOf yN yB 1 (some .int) site
def P (x t : Addr) (V : Cell) (cd : Int32) (n : Nat) (f : Nat → Int32) (z : Int32) (args : Array Value) (s : State) : Prop := args = #[.ref x] ∧ Txt x t V cd n f s ∧ StaticIs s "java/lang/String" "COMPACT_STRINGS" "Z" (.int z) ∧ ¬ z = 0
def E (n : Nat) (r : Option Value) (s u : State) : Prop := XT.PureE (some (.int (Int32.ofNat n))) r s u
/-- length() of a String of n chars, in either coding -/
theorem law (l : Launch) (x t : Addr) (V : Cell) (cd : Int32) (n : Nat) (f : Nat → Int32) (z : Int32) : Law l yN 1 0 1 13 yB 1 (some .int) site (P x t V cd n f z) (E n) [] 0 0 := by
  refine Law.of_walk (plainFor_of_name (by decide +kernel)) (by decide +kernel) (by decide +kernel) (by decide) (fun _ _ h => by rw [h.1]; rfl) (fun _ U U' hal hh h => ⟨h.1, h.2.1.mv hal hh, h.2.2.1.there hal hh, h.2.2.2⟩) (fun r U U' V V' h1 hal h2 h => XT.PureE.mv r U U' V V' h1 hal h2 h) ?_
  intro p e s m args below meth c s₁ X0 hexec hbytes hml hret hlk hnm hown hh0 W hP
  obtain ⟨rfl, hx, s1, hz⟩ := hP
  have v31 := hx.2.2.2.1.2.2.2
  have c1 : Steps p.tables e below (s₁.setTop (entryFrame m #[.ref x] 1)) (s₁.setTop (mkF m 1 #[.val (.ref x)] [.ref x])) := Steps.trans (entry rfl) (by
    show Steps p.tables e below (s₁.setTop (mkF m 0 #[.val (.ref x)] [])) _
    refine XS.aloadN X0.here hexec rfl (hb hbytes d0) rfl rfl ?_
    exact Steps.refl _)
  obtain ⟨T2, X2, q2, st2⟩ := X0.hget hexec hown (wk W (.fieldLink "java/lang/String" 9 "java/lang/String" "value" "[B")) (hx.mv X0.warmed.alike hh0).2.1 (g := (mkF m 1 #[.val (.ref x)] [.ref x])) rfl (rest := []) rfl (hb hbytes d1)
  have hh2 := q2.trans hh0
  have hx2 := hx.mv X2.warmed.alike hh2
  have c3 : Steps p.tables e below (s₁.setTop (entryFrame m #[.ref x] 1)) (T2.setTop (mkF m 6 #[.val (.ref x)] [.ref x, .int (Int32.ofNat V.slots.size)])) := (c1.trans (st2 _ (Steps.refl _))).trans (by
    refine X2.alen hexec hx2.2.2.2.1 rfl rfl (hb hbytes d4) ?_
    refine XS.aloadN X2.here hexec rfl (hb hbytes d5) rfl rfl ?_
    exact Steps.refl _)
  obtain ⟨v4, T4, X4, E4, g4⟩ := X2.callV hexec (Cdr.law l x cd z) hown (wks W (virtW "java/lang/String" 335 "java/lang/String" Cdr.yN Cdr.yN)) rfl (by decide) (wk W Cdr.tab) (W := 1) (Nat.le_of_ble_eq_true rfl) (Nat.le_of_ble_eq_true rfl) (Nat.le_refl _) (Nat.le_refl _) (hx2.1.fc X2.warmed.alike) hx2.1.is (g := (mkF m 6 #[.val (.ref x)] [.ref x, .int (Int32.ofNat V.slots.size)])) rfl (by rw [hml]; rfl) c3 (argsL := []) (rest := [.int (Int32.ofNat V.slots.size)]) rfl rfl (by show 2 * 0 + (1 + 0) ≤ _; decide) (hb hbytes d6) (⟨rfl, hx2.2.2.1, hx.2.2.2.2.1.cd, s1.there X2.warmed.alike hh2, hz⟩)
  obtain ⟨rfl, q4⟩ := E4
  have c5 : Steps p.tables e below (s₁.setTop (entryFrame m #[.ref x] 1)) (T4.setTop (mkF m 10 #[.val (.ref x)] [.int (Int32.ofNat V.slots.size >>> (cd &&& 31))])) := Steps.trans g4 (by
    refine ishr X4.here hexec rfl (hb hbytes d9) rfl ?_
    exact Steps.refl _)
  rw [hx.2.2.2.2.1.len v31] at c5
  exact ⟨T4, some (.int (Int32.ofNat n)), _, _, _, X4, rfl, rfl, rfl, (fun h => by cases h), ⟨rfl, q4.trans hh2⟩, fun fs hl => c5.trans (X4.ireturnOut hexec hret rfl (Or.inl rfl) (hb hbytes d10) hl)⟩
theorem pays {l : Launch} {R : Room} {p : Program} {e : Env} {below : List Frame} {s : State} {sargs : Array Value} {len W : Nat} (x t : Addr) (V : Cell) (cd : Int32) (n : Nat) (f : Nat → Int32) (z : Int32) (htab : tab.before sargs s = true) (hfr : 2 ≤ R.frames) (hlo : W + 25 ≤ R.locals) :
    Back l R p e below s sargs yN len W (fun A₁ a₁ => A₁.cells + 0 ≤ R.cells ∧ A₁.slots + 0 ≤ R.slots ∧ P x t V cd n f z a₁ A₁.U) (fun A₁ _ v₁ B₁ => E n v₁ A₁.U B₁.U ∧ B₁.locs = A₁.locs ++ [] ∧ B₁.cells = A₁.cells + 0 ∧ B₁.slots = A₁.slots + 0) :=
  (law l x t V cd n f z).pays htab hfr (by omega)
end Len
namespace IsL
def yN : MethodName := ⟨"java/lang/String", "isLatin1", "()Z"⟩
abbrev yB : ByteArray := jdk_42_method_154_code
theorem d0 : decode yB 0 = .ok (.getstatic 38, 3) := by decide +kernel
theorem d3 : decode yB 3 = .ok (.ifCond (.eq) 14, 3) := by decide +kernel
theorem d6 : decode yB 6 = .ok (.aload_n 0, 1) := by decide +kernel
theorem d7 : decode yB 7 = .ok (.getfield 15, 3) := by decide +kernel
theorem d10 : decode yB 10 = .ok (.ifCond (.ne) 7, 3) := by decide +kernel
theorem d13 : decode yB 13 = .ok (.iconst 1, 1) := by decide +kernel
theorem d14 : decode yB 14 = .ok (.goto 4, 3) := by decide +kernel
theorem d17 : decode yB 17 = .ok (.iconst 0, 1) := by decide +kernel
theorem d18 : decode yB 18 = .ok (.ireturn, 1) := by decide +kernel
def site : List Cond := [.fieldLink "java/lang/String" 38 "java/lang/String" "COMPACT_STRINGS" "Z", .fieldLink "java/lang/String" 15 "java/lang/String" "coder" "B"]
def tab : Cond := tabOf yN yB 1 (some .boolean) site
def P (x : Addr) (cd z : Int32) (args : Array Value) (s : State) : Prop := args = #[.ref x] ∧ Has x "java/lang/String" "coder" "B" (.int cd) s ∧ (cd = 0 ∨ cd = 1) ∧ StaticIs s "java/lang/String" "COMPACT_STRINGS" "Z" (.int z) ∧ ¬ z = 0
def E (cd : Int32) (r : Option Value) (s u : State) : Prop := XT.PureE (some (.int (1 - cd))) r s u
theorem law (l : Launch) (x : Addr) (cd z : Int32) : Law l yN 1 0 0 0 yB 1 (some .boolean) site (P x cd z) (E cd) [] 0 0 := by
  refine Law.of_walk (plainFor_of_name (by decide +kernel)) (by decide +kernel) (by decide +kernel) (by decide) (fun _ _ h => by rw [h.1]; rfl) (fun _ U U' hal hh h => ⟨h.1, h.2.1.mv hal hh, h.2.2.1, h.2.2.2.1.there hal hh, h.2.2.2.2⟩) (fun r U U' V V' h1 hal h2 h => XT.PureE.mv r U U' V V' h1 hal h2 h) ?_
  intro p e s m args below meth c s₁ X0 hexec hbytes hml hret hlk hnm hown hh0 W hP
  obtain ⟨rfl, hx, hc, s1, hz⟩ := hP
  have c1 : Steps p.tables e below (s₁.setTop (entryFrame m #[.ref x] 1)) (s₁.setTop (mkF m 0 #[.val (.ref x)] [])) := entry rfl
  obtain ⟨T2, X2, q2, st2⟩ := X0.sget hexec hown (wk W (.fieldLink "java/lang/String" 38 "java/lang/String" "COMPACT_STRINGS" "Z")) s1 (fun _ _ h => by rw [hh0]; exact h) (g := (mkF m 0 #[.val (.ref x)] [])) rfl (hb hbytes d0)
  have hh2 := q2.trans hh0
  have c3 : Steps p.tables e below (s₁.setTop (entryFrame m #[.ref x] 1)) (T2.setTop (mkF m 7 #[.val (.ref x)] [.ref x])) := (c1.trans (st2 _ (Steps.refl _))).trans (by
    refine XS.ifNo X2.here hexec rfl (hb hbytes d3) rfl (i0_eq_f hz) ?_
    refine XS.aloadN X2.here hexec rfl (hb hbytes d6) rfl rfl ?_
    exact Steps.refl _)
  obtain ⟨T4, X4, q4, st4⟩ := X2.hget hexec hown (wk W (.fieldLink "java/lang/String" 15 "java/lang/String" "coder" "B")) (hx.mv X2.warmed.alike hh2) (g := (mkF m 7 #[.val (.ref x)] [.ref x])) rfl (rest := []) rfl (hb hbytes d7)
  have c5 : Steps p.tables e below (s₁.setTop (entryFrame m #[.ref x] 1)) (T4.setTop (mkF m 10 #[.val (.ref x)] [.int cd])) := c3.trans (st4 _ (Steps.refl _))
  have c6 : Steps p.tables e below (s₁.setTop (entryFrame m #[.ref x] 1)) (T4.setTop (mkF m 18 #[.val (.ref x)] [.int (1 - cd)])) := by
    rcases hc with rfl | rfl
    · exact c5.trans (by
        refine XS.ifNo X4.here hexec rfl (hb hbytes d10) rfl (i0_ne_f rfl) ?_
        refine iconstV X4.here hexec rfl 1 (hb hbytes d13) (by decide) ?_
        refine XS.goto X4.here hexec rfl (pc0 := 14) rfl (hb hbytes d14) (by decide) rfl ?_
        exact Steps.refl _)
    · exact c5.trans (by
        refine XS.ifYes X4.here hexec rfl (pc0 := 10) rfl (hb hbytes d10) rfl (i0_ne_t (by decide)) (by decide) rfl ?_
        refine iconstV X4.here hexec rfl 0 (hb hbytes d17) (by decide) ?_
        exact Steps.refl _)
  exact ⟨T4, some (.int (1 - cd)), _, _, _, X4, rfl, rfl, rfl, (fun h => by cases h), ⟨rfl, q4.trans hh2⟩, fun fs hl => c6.trans (X4.ireturnOut hexec hret (by rcases hc with rfl | rfl <;> rfl) (Or.inr (Or.inl rfl)) (hb hbytes d18) hl)⟩
end IsL
namespace LChA
def yN : MethodName := ⟨"java/lang/StringLatin1", "charAt", "([BI)C"⟩
abbrev yB : ByteArray := jdk_43_method_2_code
theorem d0 : decode yB 0 = .ok (.iload_n 1, 1) := by decide +kernel
theorem d1 : decode yB 1 = .ok (.aload_n 0, 1) := by decide +kernel
theorem d2 : decode yB 2 = .ok (.arraylength, 1) := by decide +kernel
theorem d3 : decode yB 3 = .ok (.invokestatic 9, 3) := by decide +kernel
theorem d6 : decode yB 6 = .ok (.aload_n 0, 1) := by decide +kernel
theorem d7 : decode yB 7 = .ok (.iload_n 1, 1) := by decide +kernel
theorem d8 : decode yB 8 = .ok (.baload, 1) := by decide +kernel
theorem d9 : decode yB 9 = .ok (.sipush 255, 3) := by decide +kernel
theorem d12 : decode yB 12 = .ok (.iand, 1) := by decide +kernel
theorem d13 : decode yB 13 = .ok (.i2c, 1) := by decide +kernel
theorem d14 : decode yB 14 = .ok (.ireturn, 1) := by decide +kernel
def site : List Cond := [JO.Str_checkIndex.tab] ++ staticW "java/lang/StringLatin1" 9 JO.Str_checkIndex.yN
def tab : Cond := tabOf yN yB 2 (some .char) site
def P (t : Addr) (V : Cell) (i : Nat) (u : Int32) (fm : Value) (args : Array Value) (s : State) : Prop := args = #[.ref t, .int (Int32.ofNat i)] ∧ XT.Arr .byte t V s ∧ V.slots[i]? = some (.int u) ∧ (StaticIs s "jdk/internal/util/Preconditions" "SIOOBE_FORMATTER" "Ljava/util/function/BiFunction;" fm ∧ fm.isRef = true)
def E (u : Int32) (r : Option Value) (s w : State) : Prop := XT.PureE (some (.int (chr8 u))) r s w
theorem law (l : Launch) (t : Addr) (V : Cell) (i : Nat) (u : Int32) (fm : Value) : Law l yN 2 2 2 27 yB 2 (some .char) site (P t V i u fm) (E u) [] 0 0 := by
  refine Law.of_walk (plainFor_of_name (by decide +kernel)) (by decide +kernel) (by decide +kernel) (by decide) (fun _ _ h => by rw [h.1]; rfl) (fun _ U U' hal hh h => ⟨h.1, h.2.1.mv hal hh, h.2.2.1, h.2.2.2.1.there hal hh, h.2.2.2.2⟩) (fun r U U' V V' h1 hal h2 h => XT.PureE.mv r U U' V V' h1 hal h2 h) ?_
  intro p e s m args below meth c s₁ X0 hexec hbytes hml hret hlk hnm hown hh0 W hP
  obtain ⟨rfl, hV, hu, s1, rf⟩ := hP
  have v31 := hV.2.2.2
  have hi : i < V.slots.size := (Array.getElem?_eq_some_iff.mp hu).1
  have c1 : Steps p.tables e below (s₁.setTop (entryFrame m #[.ref t, .int (Int32.ofNat i)] 2)) (s₁.setTop (mkF m 0 #[.val (.ref t), .val (.int (Int32.ofNat i))] [])) := entry rfl
  have c2 : Steps p.tables e below (s₁.setTop (entryFrame m #[.ref t, .int (Int32.ofNat i)] 2)) (s₁.setTop (mkF m 3 #[.val (.ref t), .val (.int (Int32.ofNat i))] [.int (Int32.ofNat V.slots.size), .int (Int32.ofNat i)])) := c1.trans (by
    refine XS.iloadN X0.here hexec rfl (hb hbytes d0) rfl ?_
    refine XS.aloadN X0.here hexec rfl (hb hbytes d1) rfl rfl ?_
    refine X0.alen hexec (hV.mv X0.warmed.alike hh0) rfl rfl (hb hbytes d2) ?_
    exact Steps.refl _)
  obtain ⟨v3, T3, X3, E3, g3⟩ := X0.callS hexec (JO.Str_checkIndex.law l (Int32.ofNat i) (Int32.ofNat V.slots.size) fm) hown (wks W (staticW "java/lang/StringLatin1" 9 JO.Str_checkIndex.yN)) (wk W JO.Str_checkIndex.tab) (W := 0) (Nat.le_of_ble_eq_true rfl) (Nat.le_of_ble_eq_true rfl) (Nat.le_refl _) (Nat.le_refl _) (g := (mkF m 3 #[.val (.ref t), .val (.int (Int32.ofNat i))] [.int (Int32.ofNat V.slots.size), .int (Int32.ofNat i)])) rfl (by rw [hml]; rfl) c2 (argsL := [.int (Int32.ofNat i), .int (Int32.ofNat V.slots.size)]) (rest := []) rfl rfl (by show 2 * 0 + 0 ≤ _; decide) (hb hbytes d3) (⟨rfl, rf, s1.there X0.warmed.alike hh0, Int32.ofNat_not_neg (by omega), lt32 v31 hi⟩)
  obtain ⟨rfl, q3⟩ := E3
  have hh3 := q3.trans hh0
  have c4 : Steps p.tables e below (s₁.setTop (entryFrame m #[.ref t, .int (Int32.ofNat i)] 2)) (T3.setTop (mkF m 14 #[.val (.ref t), .val (.int (Int32.ofNat i))] [.int (chr8 u)])) := Steps.trans g3 (by
    refine XS.aloadN X3.here hexec rfl (hb hbytes d6) rfl rfl ?_
    refine XS.iloadN X3.here hexec rfl (hb hbytes d7) rfl ?_
    refine X3.aget hexec (hV.mv X3.warmed.alike hh3) rfl hu rfl rfl (hb hbytes d8) ?_
    refine sipushV X3.here hexec rfl 255 (hb hbytes d9) (by decide) ?_
    refine XS.iand X3.here hexec rfl (hb hbytes d12) rfl ?_
    refine i2c X3.here hexec rfl (hb hbytes d13) rfl ?_
    exact Steps.refl _)
  exact ⟨T3, some (.int (chr8 u)), _, _, _, X3, rfl, rfl, rfl, (fun h => by cases h), ⟨rfl, hh3⟩, fun fs hl => c4.trans (X3.ireturnOut hexec hret (narrow_c _) (Or.inr (Or.inr (Or.inr (Or.inl rfl)))) (hb hbytes d14) hl)⟩
end LChA
end StrChars
namespace StrChars.Road
open Jvm Sem ClassFile Op Lib Jvm.Stand Jvm.Free Jvm.Free.XT
open Jvm.Lib.Cold (StaticIs)
theorem consq {a : Array Value} {s : State} {c : Jvm.Cond} {L : List Jvm.Cond} (h0 : c.before a s = true) (h : ∀ w ∈ L, w.before a s = true) : ∀ w ∈ c :: L, w.before a s = true := fun w hw => (List.mem_cons.mp hw).elim (fun e => e ▸ h0) (h w)
/-- the words of String.length(), either coding -/
abbrev wordsLen : List Jvm.Cond := [.code Len.yN Len.yB 1 (some .int), .initialized ST, .fieldLink ST 9 ST "value" "[B", .fieldLink ST 38 ST "COMPACT_STRINGS" "Z", .fieldLink ST 15 ST "coder" "B", .code Cdr.yN Cdr.yB 1 (some .byte), .methodLink ST 335 Cdr.yN, .declares Cdr.yN, .selects ST Cdr.yN Cdr.yN, .instanceMethod Cdr.yN]
theorem tabLen_of {a : Array Value} {s : State} (h : ∀ w ∈ wordsLen, w.before a s = true) : Len.tab.before a s = true := by
  have hc : Cdr.tab.before a s = true := unparts (wk h (.code Cdr.yN Cdr.yB 1 (some .byte))) (wks h (.initialized Cdr.yN.cls :: Cdr.site))
  have q := consq hc h
  exact unparts (wk q (.code Len.yN Len.yB 1 (some .int))) (wks q (.initialized Len.yN.cls :: Len.site))
theorem movedLen {Z s : State} {a0 args : Array Value} (hZ : Z.Warmed39 s.vm) (hw : ∀ d ∈ wordsLen, d.before a0 Z = true) : ∀ d ∈ wordsLen, d.before args s = true := fun d hd => by
  have q := hw d hd
  have t : ∀ d ∈ wordsLen, d = .arrayClass .byte ∨ (d.onTables && d.keepsFace) = true := by decide +kernel
  rcases t d hd with rfl | t
  · exact RoadKit.mvA hZ q
  · exact RoadKit.mv hZ q t
/-- the bytes of the chars cs, low before high -/
def wideBytes : List Int32 → List Value
  | [] => []
  | c :: cs => .int (lo8 c) :: .int (hi8 c) :: wideBytes cs
theorem wide_lo (d : Value) : ∀ (cs : List Int32) (j : Nat), j < cs.length → (wideBytes cs).getD (2 * j) d = .int (lo8 (cs.getD j 0))
  | [], j, h => absurd h (Nat.not_lt_zero j)
  | c :: cs, 0, _ => rfl
  | c :: cs, j + 1, h => by
    have q := wide_lo d cs j (by simpa using h)
    rw [show 2 * (j + 1) = 2 * j + 1 + 1 from by omega]
    simpa [wideBytes] using q
theorem wide_hi (d : Value) : ∀ (cs : List Int32) (j : Nat), j < cs.length → (wideBytes cs).getD (2 * j + 1) d = .int (hi8 (cs.getD j 0))
  | [], j, h => absurd h (Nat.not_lt_zero j)
  | c :: cs, 0, _ => rfl
  | c :: cs, j + 1, h => by
    have q := wide_hi d cs j (by simpa using h)
    rw [show 2 * (j + 1) + 1 = 2 * j + 1 + 1 + 1 from by omega]
    simpa [wideBytes] using q
theorem low_at (d : Value) (cs : List Int32) (j : Nat) (h : j < cs.length) : (cs.map fun c => Value.int (lo8 c)).getD j d = .int (lo8 (cs.getD j 0)) := by
  simp [List.getD_eq_getElem?_getD, h]
/-- an array of N2 bytes vs codes the chars cs by the coder cd -/
def CodA (cs : List Int32) (cd N2 : Int32) (vs : List Value) : Prop := (cd = 0 ∧ N2 = Int32.ofNat cs.length ∧ vs = (cs.map fun c => Value.int (lo8 c)) ∧ ∀ c ∈ cs, ¬ 255 < c) ∨ (cd = 1 ∧ N2 = Int32.ofNat (2 * cs.length) ∧ vs = wideBytes cs ∧ ∃ c ∈ cs, 255 < c)
theorem CodA.cod {cs : List Int32} {cd N2 : Int32} {vs : List Value} {V : Cell} (h : CodA cs cd N2 vs) (hn : 2 * cs.length < 2 ^ 31) (hs : V.slots.size = N2.toNatClampNeg) (hv : RoadKit.Has V vs (.int 0)) : Cod cd cs.length (fun j => cs.getD j 0) V := by
  rcases h with ⟨rfl, rfl, rfl, h⟩ | ⟨rfl, rfl, rfl, c, hc, hw⟩
  · rw [n32 (by omega)] at hs
    exact Or.inl ⟨rfl, hs, fun j hj => ⟨by rw [hv j (by omega), low_at _ _ _ hj], by
      have e : cs.getD j 0 = cs[j] := by simp [List.getD_eq_getElem?_getD, hj]
      show ¬ 255 < cs.getD j 0
      rw [e]; exact h _ (List.getElem_mem _)⟩⟩
  · rw [n32 (by omega)] at hs
    obtain ⟨j, hj, rfl⟩ := List.getElem_of_mem hc
    exact Or.inr ⟨rfl, hs, fun j hj => ⟨by rw [hv _ (by omega), wide_lo _ _ _ hj], by rw [hv _ (by omega), wide_hi _ _ _ hj]⟩, j, hj, by
      have e : cs.getD j 0 = cs[j] := by simp [List.getD_eq_getElem?_getD, hj]
      show 255 < cs.getD j 0
      rw [e]; exact hw⟩
/-- an object of exactly java/lang/String, its two fields found: as the laws ask it -/
theorem strObj {Z U : State} {a0 : Array Value} {kI : Nat} (wi : (Jvm.Cond.instantiable ST kI).before a0 Z = true) (al : Z.vm.Alike U.vm) {x : Addr} {v0 c0 : Value} (E : RoadKit.Exa Z U.heap x ST) (V : RoadKit.Fld Z U.heap x ST "value" "[B" v0) (C : RoadKit.Fld Z U.heap x ST "coder" "B" c0) :
    ∃ (D : Cell) (fV fC : Field), Blank ST x D U ∧ Found ST "value" "[B" fV U ∧ Found ST "coder" "B" fC U ∧ D.slots[fV.slot]? = some v0 ∧ D.slots[fC.slot]? = some c0 ∧ RoadKit.slotOf Z ST "value" "[B" = fV.slot ∧ RoadKit.slotOf Z ST "coder" "B" = fC.slot := by
  obtain ⟨D, cfV, kV, iV, fV, hD, gV, stV, knV, obV, asV, slV⟩ := V
  obtain ⟨D', cfC, kC, iC, fC, hD', gC, stC, -, -, asC, slC⟩ := C
  cases hD.symm.trans hD'
  obtain ⟨D2, kD, e1, e2, e3, e4, e5⟩ := E
  cases hD.symm.trans e1
  obtain ⟨c2, k2, i1, i2, i3, -⟩ := Cond.instantiable_spec wi
  cases e2.symm.trans i1
  cases e3.symm.trans i2
  obtain ⟨kU, u1, u2⟩ := al.2.2 _ _ e3
  exact ⟨D, fV, fC, ⟨hD, ⟨knV, fun q hq => by rw [hq] at obV; cases obV⟩, by rw [al.findClass]; exact e2, kU, u1, by rw [u2]; exact i3, by rw [u2]; exact e5 i3⟩, ⟨SBG.found_only al ⟨cfV, kV, iV, gV⟩, stV⟩, ⟨SBG.found_only al ⟨cfC, kC, iC, gC⟩, stC⟩, slV, slC, by simp [RoadKit.slotOf, gV], by simp [RoadKit.slotOf, gC]⟩
theorem sta_is {Z U : State} (al : Z.vm.Alike U.vm) {C n d : String} {v : Value} (S : RoadKit.Sta Z U.heap C n d v) : StaticIs U C n d v := by
  obtain ⟨cfS, iS, kS, fS, st, cS, t1, t2, t3, t4, t5, t6, t7⟩ := S
  exact StaticIs.there (s := { Z with heap := U.heap }) ⟨cfS, iS, kS, fS, st, cS, t1, t2, t3, t4, t5, (fun q => by rw [q] at t6; cases t6), t7⟩ al rfl
/-- **length() OF SUCH A STRING** -/
theorem lenW {p : Program} {l : Launch} {e : Env} {R : Room} {s : State} {args : Array Value} {below : List Frame} {len W : Nat} {Z : State} {a0 : Array Value} {h : Heap} (hZ : Z.Warmed39 s.vm) (hw : ∀ d ∈ wordsLen, d.before a0 Z = true) {kI : Nat} (wi : (Jvm.Cond.instantiable ST kI).before a0 Z = true)
    {x t : Addr} {kb : ClassId} {cs : List Int32} {cd N2 z : Int32} {vs : List Value} (E : RoadKit.Exa Z h x ST) (V : RoadKit.Fld Z h x ST "value" "[B" (.ref t)) (C : RoadKit.Fld Z h x ST "coder" "B" (.int cd)) (K : RoadKit.Arv Z h t kb .byte N2 vs (.int 0)) (hc : CodA cs cd N2 vs) (hb : ∀ c ∈ cs, ¬ c < 0 ∧ ¬ (65535 : Int32) < c)
    (S : RoadKit.Sta Z h ST "COMPACT_STRINGS" "Z" (.int z)) (hz : ¬ z = 0) (l2 : cs.length ≤ 4000) (hfr : 2 ≤ R.frames) (hlo : W + 25 ≤ R.locals) :
    Back l R p e below s args (⟨"java/lang/String", "length", "()I"⟩ : MethodName) len W (fun P a => a = #[.ref x] ∧ P.U.heap = h ∧ P.cells + 0 ≤ R.cells ∧ P.slots + 0 ≤ R.slots)
      (fun P _ v B => ∃ L, (v = some (.int (Int32.ofNat cs.length)) ∧ L = [] ∧ B.U.heap = h) ∧ B.locs = P.locs ++ L ∧ B.cells = P.cells + 0 ∧ B.slots = P.slots + 0) := by
  obtain ⟨A, K1, K2, K3, K4, K5, K6⟩ := K
  have hcod := hc.cod (by omega) K3 K5
  intro m meth c P g ig mk a X hg hsize hdg hW hn hp'
  obtain ⟨rfl, rfl, r1, r2⟩ := hp'
  have al : Z.vm.Alike P.U.vm := hZ.alike.trans X.warmed.alike
  obtain ⟨D, fV, fC, hB, F1, F2, g1, g2, -, -⟩ := strObj wi al E V C
  have hx : Txt x t A cd cs.length (fun j => cs.getD j 0) P.U := ⟨⟨_, hB.2.2.1, D, hB.1, rfl, by cases q : D.vm <;> first | rfl | exact absurd q (hB.2.1.2 _)⟩, Has.of hB F1 g1, Has.of hB F2 g2, ⟨K1.1, State.isArrayOf_alike al K1.2.1, K1.2.2, by rcases hcod with ⟨-, q, -⟩ | ⟨-, q, -⟩ <;> omega⟩, hcod, fun j hj => by
    have e : cs.getD j 0 = cs[j] := by simp [List.getD_eq_getElem?_getD, hj]
    show ¬ cs.getD j 0 < 0 ∧ ¬ 65535 < cs.getD j 0
    rw [e]; exact hb _ (List.getElem_mem _)⟩
  obtain ⟨v, B, X', ⟨⟨hv, hh⟩, hl, hk, hs⟩, st⟩ := Len.pays x t A cd cs.length (fun j => cs.getD j 0) z (tabLen_of (movedLen hZ hw)) hfr hlo m meth c P g ig mk _ X hg hsize hdg hW hn ⟨r1, r2, rfl, hx, sta_is al S, hz⟩
  exact ⟨v, B, X', ⟨[], ⟨hv, rfl, hh⟩, hl, hk, hs⟩, st⟩
end StrChars.Road
namespace StrChars.Road
open Jvm Sem ClassFile Op Lib Jvm.Stand Jvm.Free Jvm.Free.XT
open Jvm.Lib.Cold (StaticIs)
/-- the road's facts of a String, as the laws ask it -/
theorem txt_of {Z U : State} {a0 : Array Value} {kI : Nat} (wi : (Jvm.Cond.instantiable ST kI).before a0 Z = true) (al : Z.vm.Alike U.vm) {x t : Addr} {kb : ClassId} {cs : List Int32} {cd N2 : Int32} {vs : List Value} (E : RoadKit.Exa Z U.heap x ST) (V : RoadKit.Fld Z U.heap x ST "value" "[B" (.ref t)) (C : RoadKit.Fld Z U.heap x ST "coder" "B" (.int cd)) (K : RoadKit.Arv Z U.heap t kb .byte N2 vs (.int 0)) (hc : CodA cs cd N2 vs) (hb : ∀ c ∈ cs, ¬ c < 0 ∧ ¬ (65535 : Int32) < c) (l2 : cs.length ≤ 4000) :
    ∃ A, Txt x t A cd cs.length (fun j => cs.getD j 0) U := by
  obtain ⟨A, K1, K2, K3, K4, K5, K6⟩ := K
  have hcod := hc.cod (by omega) K3 K5
  obtain ⟨D, fV, fC, hB, F1, F2, g1, g2, -, -⟩ := strObj wi al E V C
  exact ⟨A, ⟨_, hB.2.2.1, D, hB.1, rfl, by cases q : D.vm <;> first | rfl | exact absurd q (hB.2.1.2 _)⟩, Has.of hB F1 g1, Has.of hB F2 g2, ⟨K1.1, State.isArrayOf_alike al K1.2.1, K1.2.2, by rcases hcod with ⟨-, q, -⟩ | ⟨-, q, -⟩ <;> omega⟩, hcod, fun j hj => by
    have e : cs.getD j 0 = cs[j] := by simp [List.getD_eq_getElem?_getD, hj]
    show ¬ cs.getD j 0 < 0 ∧ ¬ 65535 < cs.getD j 0
    rw [e]; exact hb _ (List.getElem_mem _)⟩
end StrChars.Road
namespace StrChars
open Jvm Sem ClassFile Op Lib Jvm.Stand Jvm.Free.XT Jvm.Free.ALB Jvm.Free.JM Jvm.Free
open Jvm.Lib.Cold (StaticIs)
namespace ChN
def yN : MethodName := ⟨"java/lang/String", "charAt", "(I)C"⟩
abbrev yB : ByteArray := jdk_42_method_56_code
theorem d0 : decode yB 0 = .ok (.aload_n 0, 1) := by decide +kernel
theorem d1 : decode yB 1 = .ok (.invokevirtual 492, 3) := by decide +kernel
theorem d4 : decode yB 4 = .ok (.ifCond (.eq) 12, 3) := by decide +kernel
theorem d7 : decode yB 7 = .ok (.aload_n 0, 1) := by decide +kernel
theorem d8 : decode yB 8 = .ok (.getfield 9, 3) := by decide +kernel
theorem d11 : decode yB 11 = .ok (.iload_n 1, 1) := by decide +kernel
theorem d12 : decode yB 12 = .ok (.invokestatic 495, 3) := by decide +kernel
theorem d15 : decode yB 15 = .ok (.ireturn, 1) := by decide +kernel
def site : List Cond := [.fieldLink "java/lang/String" 9 "java/lang/String" "value" "[B", IsL.tab, LChA.tab] ++ virtW "java/lang/String" 492 "java/lang/String" IsL.yN IsL.yN ++ staticW "java/lang/String" 495 LChA.yN
def tab : Cond := tabOf yN yB 2 (some .char) site
def P (x t : Addr) (V : Cell) (n : Nat) (f : Nat → Int32) (z : Int32) (fm : Value) (i : Nat) (args : Array Value) (s : State) : Prop := args = #[.ref x, .int (Int32.ofNat i)] ∧ Txt x t V 0 n f s ∧ i < n ∧ StaticIs s "java/lang/String" "COMPACT_STRINGS" "Z" (.int z) ∧ ¬ z = 0 ∧ StaticIs s "jdk/internal/util/Preconditions" "SIOOBE_FORMATTER" "Ljava/util/function/BiFunction;" fm ∧ fm.isRef = true
def E (f : Nat → Int32) (i : Nat) (r : Option Value) (s u : State) : Prop := XT.PureE (some (.int (f i))) r s u
/-- charAt(i) of a Latin-1 String of n chars, i < n: f i -/
theorem law (l : Launch) (x t : Addr) (V : Cell) (n : Nat) (f : Nat → Int32) (z : Int32) (fm : Value) (i : Nat) : Law l yN 2 1 3 40 yB 2 (some .char) site (P x t V n f z fm i) (E f i) [] 0 0 := by
  refine Law.of_walk (plainFor_of_name (by decide +kernel)) (by decide +kernel) (by decide +kernel) (by decide) (fun _ _ h => by rw [h.1]; rfl) (fun _ U U' hal hh h => ⟨h.1, h.2.1.mv hal hh, h.2.2.1, h.2.2.2.1.there hal hh, h.2.2.2.2.1, h.2.2.2.2.2.1.there hal hh, h.2.2.2.2.2.2⟩) (fun r U U' V V' h1 hal h2 h => XT.PureE.mv r U U' V V' h1 hal h2 h) ?_
  intro p e s m args below meth c s₁ X0 hexec hbytes hml hret hlk hnm hown hh0 W hP
  obtain ⟨rfl, hx, hi, s1, hz, s3, rf⟩ := hP
  have v31 := hx.2.2.2.1.2.2.2
  have hr := hx.2.2.2.2.2 i hi
  have hx0 := hx.mv X0.warmed.alike hh0
  have c1 : Steps p.tables e below (s₁.setTop (entryFrame m #[.ref x, .int (Int32.ofNat i)] 2)) (s₁.setTop (mkF m 1 #[.val (.ref x), .val (.int (Int32.ofNat i))] [.ref x])) := Steps.trans (entry rfl) (by
    show Steps p.tables e below (s₁.setTop (mkF m 0 #[.val (.ref x), .val (.int (Int32.ofNat i))] [])) _
    refine XS.aloadN X0.here hexec rfl (hb hbytes d0) rfl rfl ?_
    exact Steps.refl _)
  obtain ⟨v2, T2, X2, E2, g2⟩ := X0.callV hexec (IsL.law l x 0 z) hown (wks W (virtW "java/lang/String" 492 "java/lang/String" IsL.yN IsL.yN)) rfl (by decide) (wk W IsL.tab) (W := 0) (Nat.le_of_ble_eq_true rfl) (Nat.le_of_ble_eq_true rfl) (Nat.le_refl _) (Nat.le_refl _) (hx0.1.fc X0.warmed.alike) hx0.1.is (g := (mkF m 1 #[.val (.ref x), .val (.int (Int32.ofNat i))] [.ref x])) rfl (by rw [hml]; rfl) c1 (argsL := []) (rest := []) rfl rfl (by show 2 * 0 + 0 ≤ _; decide) (hb hbytes d1) (⟨rfl, hx0.2.2.1, hx.2.2.2.2.1.cd, s1.there X0.warmed.alike hh0, hz⟩)
  obtain ⟨rfl, q2⟩ := E2
  have hh2 := q2.trans hh0
  have hx2 := hx.mv X2.warmed.alike hh2
  obtain ⟨-, k1, k2⟩ | ⟨k0, -⟩ := hx.2.2.2.2.1
  · have c3 : Steps p.tables e below (s₁.setTop (entryFrame m #[.ref x, .int (Int32.ofNat i)] 2)) (T2.setTop (mkF m 8 #[.val (.ref x), .val (.int (Int32.ofNat i))] [.ref x])) := Steps.trans g2 (by
      refine XS.ifNo X2.here hexec rfl (hb hbytes d4) rfl (i0_eq_f (by decide)) ?_
      refine XS.aloadN X2.here hexec rfl (hb hbytes d7) rfl rfl ?_
      exact Steps.refl _)
    obtain ⟨T4, X4, q4, st4⟩ := X2.hget hexec hown (wk W (.fieldLink "java/lang/String" 9 "java/lang/String" "value" "[B")) hx2.2.1 (g := (mkF m 8 #[.val (.ref x), .val (.int (Int32.ofNat i))] [.ref x])) rfl (rest := []) rfl (hb hbytes d8)
    have hh4 := q4.trans hh2
    have c5 : Steps p.tables e below (s₁.setTop (entryFrame m #[.ref x, .int (Int32.ofNat i)] 2)) (T4.setTop (mkF m 12 #[.val (.ref x), .val (.int (Int32.ofNat i))] [.int (Int32.ofNat i), .ref t])) := (c3.trans (st4 _ (Steps.refl _))).trans (by
      refine XS.iloadN X4.here hexec rfl (hb hbytes d11) rfl ?_
      exact Steps.refl _)
    obtain ⟨v6, T6, X6, E6, g6⟩ := X4.callS hexec (LChA.law l t V i (lo8 (f i)) fm) hown (wks W (staticW "java/lang/String" 495 LChA.yN)) (wk W LChA.tab) (W := 0) (Nat.le_of_ble_eq_true rfl) (Nat.le_of_ble_eq_true rfl) (Nat.le_refl _) (Nat.le_refl _) (g := (mkF m 12 #[.val (.ref x), .val (.int (Int32.ofNat i))] [.int (Int32.ofNat i), .ref t])) rfl (by rw [hml]; rfl) c5 (argsL := [.ref t, .int (Int32.ofNat i)]) (rest := []) rfl rfl (by show 2 * 0 + 0 ≤ _; decide) (hb hbytes d12) (⟨rfl, hx.2.2.2.1.mv X4.warmed.alike hh4, (k2 i hi).1, s3.there X4.warmed.alike hh4, rf⟩)
    obtain ⟨rfl, q6⟩ := E6
    rw [chr8_lo8 hr.1 (k2 i hi).2] at g6
    exact ⟨T6, some (.int (f i)), _, _, _, X6, rfl, rfl, rfl, (fun h => by cases h), ⟨rfl, q6.trans hh4⟩, fun fs hl => Steps.trans g6 (X6.ireturnOut hexec hret (narrow_ch hr.1 hr.2) (Or.inr (Or.inr (Or.inr (Or.inl rfl)))) (hb hbytes d15) hl)⟩
  · exact absurd k0 (by decide)
theorem pays {l : Launch} {R : Room} {p : Program} {e : Env} {below : List Frame} {s : State} {sargs : Array Value} {len W : Nat} (x t : Addr) (V : Cell) (n : Nat) (f : Nat → Int32) (z : Int32) (fm : Value) (i : Nat) (htab : tab.before sargs s = true) (hfr : 4 ≤ R.frames) (hlo : W + 53 ≤ R.locals) :
    Back l R p e below s sargs yN len W (fun A₁ a₁ => A₁.cells + 0 ≤ R.cells ∧ A₁.slots + 0 ≤ R.slots ∧ P x t V n f z fm i a₁ A₁.U) (fun A₁ _ v₁ B₁ => E f i v₁ A₁.U B₁.U ∧ B₁.locs = A₁.locs ++ [] ∧ B₁.cells = A₁.cells + 0 ∧ B₁.slots = A₁.slots + 0) :=
  (law l x t V n f z fm i).pays htab hfr (by omega)
end ChN
end StrChars
namespace StrChars.Road
open Jvm Sem ClassFile Op Lib Jvm.Stand Jvm.Free Jvm.Free.XT
open Jvm.Lib.Cold (StaticIs)
/-- the words of String.charAt(int), the Latin-1 road alone -/
abbrev wordsChN : List Jvm.Cond := [.code ChN.yN ChN.yB 2 (some .char), .initialized ST, .fieldLink ST 9 ST "value" "[B", .fieldLink ST 38 ST "COMPACT_STRINGS" "Z", .fieldLink ST 15 ST "coder" "B", .code IsL.yN IsL.yB 1 (some .boolean), .methodLink ST 492 IsL.yN, .declares IsL.yN, .selects ST IsL.yN IsL.yN, .instanceMethod IsL.yN,
  .methodLink ST 495 LChA.yN, .static LChA.yN, .code LChA.yN LChA.yB 2 (some .char), .initialized "java/lang/StringLatin1", .methodLink "java/lang/StringLatin1" 9 JO.Str_checkIndex.yN, .static JO.Str_checkIndex.yN, .code JO.Str_checkIndex.yN JO.Str_checkIndex.yB 2 none,
  .fieldLink ST 1053 "jdk/internal/util/Preconditions" "SIOOBE_FORMATTER" "Ljava/util/function/BiFunction;", .methodLink ST 1059 JC.PreCheck.yN, .static JC.PreCheck.yN, .code JC.PreCheck.yN JC.PreCheck.yB 3 (some .int), .initialized "jdk/internal/util/Preconditions"]
theorem tabChN_of {a : Array Value} {s : State} (h : ∀ w ∈ wordsChN, w.before a s = true) : ChN.tab.before a s = true := by
  have hp : JC.PreCheck.tab.before a s = true := unparts (wk h (.code JC.PreCheck.yN JC.PreCheck.yB 3 (some .int))) (wks h (.initialized JC.PreCheck.yN.cls :: JC.PreCheck.site))
  have qk := consq hp h
  have hk : JO.Str_checkIndex.tab.before a s = true := unparts (wk qk (.code JO.Str_checkIndex.yN JO.Str_checkIndex.yB 2 none)) (wks qk (.initialized JO.Str_checkIndex.yN.cls :: JO.Str_checkIndex.site))
  have ql := consq hk h
  have hl : LChA.tab.before a s = true := unparts (wk ql (.code LChA.yN LChA.yB 2 (some .char))) (wks ql (.initialized LChA.yN.cls :: LChA.site))
  have hi : IsL.tab.before a s = true := unparts (wk h (.code IsL.yN IsL.yB 1 (some .boolean))) (wks h (.initialized IsL.yN.cls :: IsL.site))
  have q := consq hi (consq hl h)
  exact unparts (wk q (.code ChN.yN ChN.yB 2 (some .char))) (wks q (.initialized ChN.yN.cls :: ChN.site))
theorem movedChN {Z s : State} {a0 args : Array Value} (hZ : Z.Warmed39 s.vm) (hw : ∀ d ∈ wordsChN, d.before a0 Z = true) : ∀ d ∈ wordsChN, d.before args s = true := fun d hd => by
  have t : ∀ d ∈ wordsChN, (d.onTables && d.keepsFace) = true := by decide +kernel
  exact RoadKit.mv hZ (hw d hd) (t d hd)
/-- **charAt(i) OF A LATIN-1 STRING**, i < n: the char -/
theorem chN {p : Program} {l : Launch} {e : Env} {R : Room} {s : State} {args : Array Value} {below : List Frame} {len W : Nat} {Z : State} {a0 : Array Value} {h : Heap} (hZ : Z.Warmed39 s.vm) (hw : ∀ d ∈ wordsChN, d.before a0 Z = true) {kI : Nat} (wi : (Jvm.Cond.instantiable ST kI).before a0 Z = true)
    {x t : Addr} {kb : ClassId} {cs : List Int32} {N2 z : Int32} {vs : List Value} {fm : Value} {i : Nat} {j : Int32} (E : RoadKit.Exa Z h x ST) (V : RoadKit.Fld Z h x ST "value" "[B" (.ref t)) (C : RoadKit.Fld Z h x ST "coder" "B" (.int 0)) (K : RoadKit.Arv Z h t kb .byte N2 vs (.int 0)) (hc : CodA cs 0 N2 vs) (hb : ∀ c ∈ cs, ¬ c < 0 ∧ ¬ (65535 : Int32) < c)
    (S : RoadKit.Sta Z h ST "COMPACT_STRINGS" "Z" (.int z)) (hz : ¬ z = 0) (F : RoadKit.Sta Z h "jdk/internal/util/Preconditions" "SIOOBE_FORMATTER" "Ljava/util/function/BiFunction;" fm) (rf : fm.isRef = true) (l2 : cs.length ≤ 4000) (hi : i < cs.length) (hj : j = Int32.ofNat i) (hfr : 4 ≤ R.frames) (hlo : W + 53 ≤ R.locals) :
    Back l R p e below s args (⟨"java/lang/String", "charAt", "(I)C"⟩ : MethodName) len W (fun P a => a = #[.ref x, .int j] ∧ P.U.heap = h ∧ P.cells + 0 ≤ R.cells ∧ P.slots + 0 ≤ R.slots)
      (fun P _ v B => ∃ L, (v = some (.int (cs.getD i 0)) ∧ L = [] ∧ B.U.heap = h) ∧ B.locs = P.locs ++ L ∧ B.cells = P.cells + 0 ∧ B.slots = P.slots + 0) := by
  subst hj
  intro m meth c P g ig mk a X hg hsize hdg hW hn hp'
  obtain ⟨rfl, rfl, r1, r2⟩ := hp'
  have al : Z.vm.Alike P.U.vm := hZ.alike.trans X.warmed.alike
  obtain ⟨A, hx⟩ := txt_of wi al E V C K hc hb l2
  obtain ⟨v, B, X', ⟨⟨hv, hh⟩, hl, hk, hs⟩, st⟩ := ChN.pays x t A cs.length (fun j => cs.getD j 0) z fm i (tabChN_of (movedChN hZ hw)) hfr hlo m meth c P g ig mk _ X hg hsize hdg hW hn ⟨r1, r2, rfl, hx, hi, sta_is al S, hz, sta_is al F, rf⟩
  exact ⟨v, B, X', ⟨[], ⟨hv, rfl, hh⟩, hl, hk, hs⟩, st⟩
/-- what backV says of its String, as the contracts of this text ask it: cs's low bytes, coder 0 -/
theorem codOf {cs : List Int32} {n : Nat} (hn : cs.length = n) (hb : ∀ c ∈ cs, ¬ 255 < c) : CodA cs 0 (Int32.ofNat n) ((cs.map lo8).map Value.int) := Or.inl ⟨rfl, by rw [hn], by simp [List.map_map, Function.comp_def], hb⟩
end StrChars.Road
end Jvm.Pilot.@@N@@
namespace Jvm.Pilot.@@N@@
open Jvm Jvm.ClassFile Sem Op Lib Jvm.Free Jvm.Stand Jvm.LawKit Jvm.RoadKit Bundle Jvm.Pilot.@@N@@.Jvm.D
abbrev vi (x : Int32) : Slot := .val (.int x)
abbrev vj (x : Int64) : Slot := .val (.long x)
abbrev vr (a : Addr) : Slot := .val (.ref a)
abbrev vn : Slot := .val .null
abbrev uu : Slot := .unset
abbrev ss : Slot := .second
theorem own_lt {a b : Nat} (h : a < b) : a < b := h
theorem own_ne {a b : Nat} (h : a ≠ b) : a ≠ b := h
/-- the run from cur comes to an end of which G holds -/
def own_Fin (p : Program) (e : Env) (below : List Frame) (cur : State) (G : State → Outcome → Prop) : Prop :=
  ∃ t o, Steps p.tables e below cur t ∧ t.status = .running ∧ Ended t below o ∧ G t o
theorem own_go {p : Program} {e : Env} {below : List Frame} {cur cur' : State} {G : State → Outcome → Prop} (st : ∀ target, Steps p.tables e below cur' target → Steps p.tables e below cur target) (k : own_Fin p e below cur' G) : own_Fin p e below cur G := by
  obtain ⟨t, o, h, r⟩ := k
  exact ⟨t, o, st _ h, r⟩
theorem own_gs {p : Program} {e : Env} {below : List Frame} {cur cur' : State} {G : State → Outcome → Prop} (st : Steps p.tables e below cur cur') (k : own_Fin p e below cur' G) : own_Fin p e below cur G := by
  obtain ⟨t, o, h, r⟩ := k
  exact ⟨t, o, st.trans h, r⟩
/-! ## Strings: one fact, its carriage, and who pays a call -/
section OwnStr
variable {Z : State} {h h' : Heap} {x t : Addr} {cs : List Int32} {ws : List Addr}
/-- the String at x, its bytes at t, spells cs -/
def own_Str (Z : State) (h : Heap) (x t : Addr) (cs : List Int32) : Prop := ∃ (k : ClassId) (cd N : Int32) (vs : List Value), Exa Z h x "java/lang/String" ∧ Fld Z h x "java/lang/String" "value" "[B" (.ref t) ∧ Fld Z h x "java/lang/String" "coder" "B" (.int cd) ∧ Arv Z h t k .byte N vs (.int 0) ∧ StrChars.Road.CodA cs cd N vs ∧ (∀ c ∈ cs, ¬ c < 0 ∧ ¬ (65535 : Int32) < c) ∧ cs.length ≤ 4000
theorem own_Str.ext (F : own_Str Z h x t cs) (E : Ext h h') : own_Str Z h' x t cs := by
  obtain ⟨k, cd, N, vs, a, b, c, d, r⟩ := F
  exact ⟨k, cd, N, vs, a.ext E, b.ext E, c.ext E, d.ext E, r⟩
theorem own_Str.keep (F : own_Str Z h x t cs) (K : Keep h h' ws) (q1 : x ∉ ws) (q2 : t ∉ ws) : own_Str Z h' x t cs := by
  obtain ⟨k, cd, N, vs, a, b, c, d, r⟩ := F
  exact ⟨k, cd, N, vs, a.keep K, b.keep K q1, c.keep K q1, d.keep K q2, r⟩
theorem own_Str.exa (F : own_Str Z h x t cs) : Exa Z h x "java/lang/String" := by obtain ⟨k, cd, N, vs, a, r⟩ := F; exact a
theorem own_Str.lt {x t : Nat} (F : own_Str Z h x t cs) : x < h.size ∧ t < h.size := by obtain ⟨k, cd, N, vs, a, b, c, d, r⟩ := F; exact ⟨a.lt, d.lt⟩
end OwnStr
theorem own_nar {c : Int32} (h0 : ¬ c < 0) (h1 : ¬ (65535 : Int32) < c) : nar .char c = c := by
  have h3 := c_i2c c
  show c.toUInt32.toUInt16.toUInt32.toInt32 = c
  rw [Int32.lt_iff_toInt_lt] at h0 h1
  have e0 : (0 : Int32).toInt = 0 := rfl
  have e1 : (65535 : Int32).toInt = 65535 := rfl
  exact Int32.toInt_inj.mp (by omega)
theorem own_up {c : Int32} (h1 : ¬ (255 : Int32) < c) : ¬ (65535 : Int32) < c := by
  rw [Int32.lt_iff_toInt_lt] at h1 ⊢
  have e1 : (65535 : Int32).toInt = 65535 := rfl
  have e2 : (255 : Int32).toInt = 255 := rfl
  omega
theorem own_and255 (x : Int32) : ¬ nar .char ((x &&& (255 : Int32)).toUInt32.toUInt16.toUInt32.toInt32) < 0 ∧ ¬ (255 : Int32) < nar .char ((x &&& (255 : Int32)).toUInt32.toUInt16.toUInt32.toInt32) := by
  have h1 := c_mask x 255 8 (by decide) (by decide)
  have h2 := c_i2c (x &&& (255 : Int32))
  have h3 := c_i2c ((x &&& (255 : Int32)).toUInt32.toUInt16.toUInt32.toInt32)
  have e1 : (255 : Int32).toInt = 255 := rfl
  have e0 : (0 : Int32).toInt = 0 := rfl
  show ¬ ((x &&& (255 : Int32)).toUInt32.toUInt16.toUInt32.toInt32).toUInt32.toUInt16.toUInt32.toInt32 < 0 ∧ ¬ (255 : Int32) < ((x &&& (255 : Int32)).toUInt32.toUInt16.toUInt32.toInt32).toUInt32.toUInt16.toUInt32.toInt32
  rw [Int32.lt_iff_toInt_lt, Int32.lt_iff_toInt_lt, e0, e1]
  simp only [Nat.reducePow, Int.cast_ofNat_Int] at h1
  omega
theorem own_and3 (x : Int32) : (x &&& (3 : Int32)) = 0 ∨ (x &&& (3 : Int32)) = 1 ∨ (x &&& (3 : Int32)) = 2 ∨ (x &&& (3 : Int32)) = 3 := by
  have h1 := c_mask x 3 2 (by decide) (by decide)
  simp only [Nat.reducePow, Int.cast_ofNat_Int] at h1
  have e0 : (0 : Int32).toInt = 0 := rfl
  have e1 : (1 : Int32).toInt = 1 := rfl
  have e2 : (2 : Int32).toInt = 2 := rfl
  have e3 : (3 : Int32).toInt = 3 := rfl
  simp only [← Int32.toInt_inj, e0, e1, e2, e3]
  omega
theorem own_m255 (x : Int32) : ¬ ((x &&& (255 : Int32)).toUInt32.toUInt16.toUInt32.toInt32) < 0 ∧ ¬ (255 : Int32) < ((x &&& (255 : Int32)).toUInt32.toUInt16.toUInt32.toInt32) := by
  have h1 := c_mask x 255 8 (by decide) (by decide)
  have h2 := c_i2c (x &&& (255 : Int32))
  have e1 : (255 : Int32).toInt = 255 := rfl
  have e0 : (0 : Int32).toInt = 0 := rfl
  rw [Int32.lt_iff_toInt_lt, Int32.lt_iff_toInt_lt, e0, e1]
  simp only [Nat.reducePow, Int.cast_ofNat_Int] at h1
  omega
/-! ## small numbers as ints -/
theorem own_n32 {n : Nat} (h : n ≤ 100000) : (Int32.ofNat n).toInt = n := Int32.toInt_ofNat_of_lt (by omega)
theorem own_nat {n : Nat} (h : n ≤ 100000) : (Int32.ofNat n).toNatClampNeg = n := by
  have := own_n32 h
  simp only [Int32.toNatClampNeg, this]
  omega
theorem own_in {a b : Nat} (h : a < b) (hb : b ≤ 100000) : ¬ Int32.ofNat a < 0 ∧ Int32.ofNat a < Int32.ofNat b := by
  rw [Int32.lt_iff_toInt_lt, Int32.lt_iff_toInt_lt, own_n32 (by omega), own_n32 hb]
  have e0 : (0 : Int32).toInt = 0 := rfl
  omega
theorem own_shl1 {i : Nat} (h : i ≤ 40000) : (Int32.ofNat i <<< ((1 : Int32) &&& 31)) = Int32.ofNat (2 * i) := by
  have h1 := c_ishl (Int32.ofNat i) 1 1 (by decide)
  have h2 := rng32 (Int32.ofNat i <<< ((1 : Int32) &&& 31))
  rw [own_n32 (by omega)] at h1
  simp only [Nat.reducePow, Int.cast_ofNat_Int] at h1
  apply Int32.toInt_inj.mp
  rw [own_n32 (by omega)]
  omega
theorem own_shr1 {n : Nat} (h : n ≤ 40000) : (Int32.ofNat (2 * n) >>> ((1 : Int32) &&& 31)) = Int32.ofNat n := by
  have h1 := c_ishr (Int32.ofNat (2 * n)) 1 1 (by decide)
  rw [own_n32 (by omega)] at h1
  simp only [Nat.reducePow, Int.cast_ofNat_Int] at h1
  apply Int32.toInt_inj.mp
  rw [own_n32 (by omega), h1]
  omega
theorem own_p1 (m : Nat) : (Int32.ofNat m + (1 : Int32)) = Int32.ofNat (m + 1) := (Int32.ofNat_add m 1).symm
theorem own_nar2 (y : Int32) : nar .char (y.toUInt32.toUInt16.toUInt32.toInt32) = y.toUInt32.toUInt16.toUInt32.toInt32 := by simp only [nar, UInt32.toUInt32_toInt32, UInt16.toUInt16_toUInt32]
theorem own_b2 (y : Int32) : y.toInt8.toInt32.toInt8.toInt32 = y.toInt8.toInt32 := by
  have h1 := c_i2b y
  have h2 := c_i2b (y.toInt8.toInt32)
  apply Int32.toInt_inj.mp
  omega
theorem own_narb (x : Int32) : ¬ nar .char x < 0 ∧ ¬ (65535 : Int32) < nar .char x := by
  have h2 := c_i2c x
  have e1 : (65535 : Int32).toInt = 65535 := rfl
  have e0 : (0 : Int32).toInt = 0 := rfl
  show ¬ x.toUInt32.toUInt16.toUInt32.toInt32 < 0 ∧ ¬ (65535 : Int32) < x.toUInt32.toUInt16.toUInt32.toInt32
  rw [Int32.lt_iff_toInt_lt, Int32.lt_iff_toInt_lt, e0, e1]
  omega
section OwnW
variable {p : Program} {l : Launch} {e : Env} {R : Room} {s : State} {m : MethodId} {args : Array Value} {below : List Frame} {Z : State} {a0 : Array Value} {EL : List (String × Nat)} {h : Heap} {vm0 : Vm}
/-- a callee that may load String constants, and that is handed the objects xs, none of them a constant's -/
theorem own_backS {y : MethodName} {bytes : ByteArray} {maxL : Nat} {ret : Option FieldType} {rm : Room} {len W : Nat} {as' : Array Value} {Q : Option Value → Heap → List Loc → Prop} {xs : List Addr}
    (hM : MetFree l y (head1 [Cond.code y bytes maxL ret] rm) (fun a U => a = as' ∧ Z.Warmed39 U.vm ∧ U.heap = h ∧ CHv Z EL U.vm h ∧ ∀ x ∈ xs, Safe Z EL U.vm h x) (fun _ _ _ _ _ => True) (fun _ U o U' => ∃ v L, o = .returned v ∧ Q v U'.heap L ∧ CHr Z EL U.vm U.heap U'.vm U'.heap ∧ ReturnedEndW U o U' L rm.cells rm.slots))
    (hZ : Z.Warmed39 vm0) (wc : (Cond.code y bytes maxL ret).before a0 Z = true) (wz : (Cond.initialized y.cls).before a0 Z = true) (hf : rm.frames + 1 ≤ R.frames) (hl : W + (maxL + 11) + rm.locals ≤ R.locals) (hEL : EW Z a0 EL) (H : CHv Z EL vm0 h) (hs : ∀ x ∈ xs, Safe Z EL vm0 h x ∧ x < h.size) :
    BackS l R p e below (s.setVm vm0) args y len W (fun A a => a = as' ∧ A.U.heap = h ∧ A.cells + rm.cells ≤ R.cells ∧ A.slots + rm.slots ≤ R.slots)
      (fun A _ v B => ∃ L, Q v B.U.heap L ∧ B.locs = A.locs ++ L ∧ B.cells = A.cells + rm.cells ∧ B.slots = A.slots + rm.slots ∧ CHr Z EL vm0 h B.U.vm B.U.heap) := by
  refine BackS.of_freeW (bytes := bytes) (maxL := maxL) (ret := ret) (E := fun _ first o t L k n => (k = rm.cells ∧ n = rm.slots) ∧ CHr Z EL first.vm first.heap t.vm t.heap ∧ ∃ v, o = .returned v ∧ Q v t.heap L) hM hf hl ?_ ?_ (fun _ _ _ _ _ _ _ _ _ => trivial) ?_ ?_
  · intro m meth c A a Y hp
    have hU : Z.Warmed39 A.U.vm := wtrans (s := s.setVm vm0) hZ Y.warmed
    have w1 : (Cond.code y bytes maxL ret).before a A.U = true := mv hU wc
    refine ⟨?_, w1, mv hU wz, hp.2.2.1, hp.2.2.2⟩
    show (Cond.and _ .tt).before a A.U = true
    rw [Cond.before_and, w1]
    rfl
  · intro m meth c A a g mk Y hp
    have q := CHv.at Y hZ hEL H
    exact ⟨hp.1, wtrans (s := s.setVm vm0) hZ Y.warmed, hp.2.1, q.1, fun x hx => q.safe (hs x hx).2 (hs x hx).1⟩
  · rintro a first o t ⟨v, L, h1, h2, h3, h4⟩
    exact ⟨L, _, _, h4, ⟨rfl, rfl⟩, h3, v, h1, h2⟩
  · rintro m meth c A a g mk v t L k n Y hp - - ⟨⟨rfl, rfl⟩, hC, v', e3, e4⟩
    cases e3
    refine ⟨L, e4, rfl, rfl, rfl, (CHv.at Y hZ hEL H).trans ?_⟩
    rw [← hp.2.1]
    exact hC
end OwnW
section OwnW
variable {p : Program} {l : Launch} {e : Env} {R : Room} {s : State} {m : MethodId} {args : Array Value} {below : List Frame} {Z : State} {a0 : Array Value} {EL : List (String × Nat)} {h : Heap} {vm0 : Vm}
/-- length() -/
theorem own_lenB {len W : Nat} (hZ : Z.Warmed39 s.vm) (hw : ∀ d ∈ tables_1, d.before a0 Z = true) {x t : Addr} {cs : List Int32} {z : Int32} (F : own_Str Z h x t cs) (S : Sta Z h "java/lang/String" "COMPACT_STRINGS" "Z" (.int z)) (hz : ¬ z = 0) (hfr : 2 ≤ R.frames) (hlo : W + 25 ≤ R.locals) :
    Back l R p e below s args (⟨"java/lang/String", "length", "()I"⟩ : MethodName) len W (fun P a => a = #[.ref x] ∧ P.U.heap = h ∧ P.cells + 0 ≤ R.cells ∧ P.slots + 0 ≤ R.slots)
      (fun P _ v B => ∃ L, (v = some (.int (Int32.ofNat cs.length)) ∧ L = [] ∧ B.U.heap = h) ∧ B.locs = P.locs ++ L ∧ B.cells = P.cells + 0 ∧ B.slots = P.slots + 0) := by
  obtain ⟨k, cd, N, vs, f1, f2, f3, f4, f5, f6, f7⟩ := F
  exact StrChars.Road.lenW hZ (fun d hd => hw d ((by decide +kernel : ∀ d ∈ StrChars.Road.wordsLen, d ∈ tables_1) d hd)) (kI := 4) (hw _ (List.mem_of_getElem? (i := 2) rfl)) f1 f2 f3 f4 f5 f6 S hz f7 hfr hlo
end OwnW
def own_W (Z : State) (a0 : Array Value) : Prop := (∀ d ∈ tables_1, d.before a0 Z = true) ∧ (∃ g : Int32, Sta Z Z.heap "java/lang/String" "COMPACT_STRINGS" "Z" (.int g) ∧ ¬ g = 0) ∧ (∃ f : Value, Sta Z Z.heap "jdk/internal/util/Preconditions" "SIOOBE_FORMATTER" "Ljava/util/function/BiFunction;" f ∧ f.isRef = true) ∧ Sta Z Z.heap "java/lang/StringUTF16" "$assertionsDisabled" "Z" (.int 1) ∧ Sta Z Z.heap "java/lang/StringUTF16" "HI_BYTE_SHIFT" "I" (.int 0) ∧ Sta Z Z.heap "java/lang/StringUTF16" "LO_BYTE_SHIFT" "I" (.int 8)
def own_EL : List (String × Nat) := [("java/lang/String", 7)]
theorem own_mem_0 : (("java/lang/String", 7) : String × Nat) ∈ own_EL := List.mem_of_getElem? (i := 0) rfl
theorem own_lit_0 : (∀ c ∈ "".toList, c.toNat < 256) ∧ "".toList.map (fun c => Value.int (Jvm.Lit.byteI c.toNat.toUInt16)) = [] := ⟨by decide, rfl⟩
theorem own_EW {Z : State} {a0 : Array Value} (hw : ∀ d ∈ tables_1, d.before a0 Z = true) : EW Z a0 own_EL := (EW.cons (hw _ (List.mem_of_getElem? (i := 15) rfl)) own_lit_0.1 EW.nil)
theorem own_SA {Z : State} {a0 : Array Value} (hw : ∀ d ∈ tables_1, d.before a0 Z = true) : ∀ a ∈ Bundle.stringAtoms, a.before a0 Z = true := fun d hd => hw d ((by decide +kernel : ∀ d ∈ Bundle.stringAtoms, d ∈ tables_1) d hd)
def own_fnv (cs : List Int32) : Int64 := cs.foldl (fun h c => (h ^^^ c.toInt64) * 1099511628211) (-3750763034362895579)
def own_new4e_Q (Z : State) (x1 b1 : Nat) (v0 c0 : Value) (h0 : Heap) (n0 : Nat) (v : Option Value) (h : Heap) (L : List Loc) : Prop := v = none ∧ Fr n0 L ∧ Keep h0 h [x1] ∧ ∃ t : Nat, x1 ≠ t ∧ own_Str Z h x1 t []
theorem pn_java_lang_String : plainName "java/lang/String" = true := by first | (simp [plainName, overriddenIn]; done) | decide +kernel
theorem ef_own_new4e (m : MethodId) (x0 : Nat) (x1 : Nat) (x2 : Int32) (x3 : Int32) : entryFrame m #[(.ref x0), (.ref x1), (.int x2), (.int x3), .null] 6 = mkF m 0 #[vr x0, vr x1, vi x2, vi x3, vn, .unset] [] := by first | (simp [entryFrame, mkF, argsToLocals, Value.category]; done) | rfl
theorem d_jdk_42_m_149_0 : decode jdk_42_method_149_code 0 = .ok (.aload_n 0, 1) := by decide +kernel
theorem d_jdk_42_m_149_1 : decode jdk_42_method_149_code 1 = .ok (.invokespecial 1, 3) := by decide +kernel
theorem d_jdk_42_m_149_4 : decode jdk_42_method_149_code 4 = .ok (.iload_n 3, 1) := by decide +kernel
theorem d_jdk_42_m_149_5 : decode jdk_42_method_149_code 5 = .ok (.ifCond .ne 22, 3) := by decide +kernel
theorem d_jdk_42_m_149_8 : decode jdk_42_method_149_code 8 = .ok (.aload_n 0, 1) := by decide +kernel
theorem d_jdk_42_m_149_9 : decode jdk_42_method_149_code 9 = .ok (.ldc 7, 2) := by decide +kernel
theorem d_jdk_42_m_149_11 : decode jdk_42_method_149_code 11 = .ok (.getfield 9, 3) := by decide +kernel
theorem d_jdk_42_m_149_14 : decode jdk_42_method_149_code 14 = .ok (.putfield 9, 3) := by decide +kernel
theorem d_jdk_42_m_149_17 : decode jdk_42_method_149_code 17 = .ok (.aload_n 0, 1) := by decide +kernel
theorem d_jdk_42_m_149_18 : decode jdk_42_method_149_code 18 = .ok (.ldc 7, 2) := by decide +kernel
theorem d_jdk_42_m_149_20 : decode jdk_42_method_149_code 20 = .ok (.getfield 15, 3) := by decide +kernel
theorem d_jdk_42_m_149_23 : decode jdk_42_method_149_code 23 = .ok (.putfield 15, 3) := by decide +kernel
theorem d_jdk_42_m_149_26 : decode jdk_42_method_149_code 26 = .ok (.return_, 1) := by decide +kernel
set_option maxRecDepth 65536 in
set_option maxHeartbeats 40000000 in
theorem own_new4e (l : Launch) (Z : State) (a0 : Array Value) (hW : own_W Z a0) (x1 b1 : Nat) (v0 c0 : Value) (h0 : Heap) (n0 : Nat) (Z0 : n0 ≤ h0.size) (O0 : Old Z n0 h0) (E1 : Exa Z h0 x1 "java/lang/String") (Fv1 : Fld Z h0 x1 "java/lang/String" "value" "[B" v0) (Fc1 : Fld Z h0 x1 "java/lang/String" "coder" "B" c0) (g1 : n0 ≤ x1) :
    MetFree l (⟨"java/lang/String", "<init>", "([CIILjava/lang/Void;)V"⟩ : MethodName) (head1 (Jvm.Cond.code (⟨"java/lang/String", "<init>", "([CIILjava/lang/Void;)V"⟩ : MethodName) jdk_42_method_149_code 6 none :: []) ({ frames := 1, cells := 4, slots := 8, locals := 16 } : Room)) (fun a U => a = #[(.ref x1), (.ref b1), (.int (0 : Int32)), (.int (0 : Int32)), .null] ∧ Z.Warmed39 U.vm ∧ U.heap = h0 ∧ CHv Z own_EL U.vm h0 ∧ ∀ x ∈ ([x1] : List Addr), Safe Z own_EL U.vm h0 x) (fun _ _ _ _ _ => True) (fun _ U o U' => ∃ v L, o = .returned v ∧ own_new4e_Q Z x1 b1 v0 c0 h0 n0 v U'.heap L ∧ CHr Z own_EL U.vm U.heap U'.vm U'.heap ∧ ReturnedEndW U o U' L ({ frames := 1, cells := 4, slots := 8, locals := 16 } : Room).cells ({ frames := 1, cells := 4, slots := 8, locals := 16 } : Room).slots) := by
  refine MetFree.of_bodySF (plainFor_of_name pn_java_lang_String) hisR ?_
  intro p e s m args below meth c s₁ Bd hml0 hP hK
  obtain ⟨rfl, hZ, hh, hCH, hSf⟩ := hP
  obtain ⟨hw, ⟨G1, O2, P5⟩, ⟨G3, O4, rG3⟩, Oa, Oh, Ol⟩ := id hW
  have hx := Bd.exec
  have hby := Bd.bytes
  have hml : c.maxLocals = 6 := hml0
  have hown : s.vm.findClass "java/lang/String" = some m.cls := findClass_of_methodNamed Bd.named
  have hnm := (name_of_methodNamed Bd.named Bd.method).1
  have X0 : Stand p l e ({ frames := 1, cells := 4, slots := 8, locals := 16 } : Room) (s.setVm s.vm) m #[(.ref x1), (.ref b1), (.int (0 : Int32)), (.int (0 : Int32)), .null] below meth c s₁ [] 0 0 := Stand.of_body Bd
  have e0 : s₁.heap = h0 := by rw [← hh, Bd.state]; rfl
  have N0 := Fr.nil n0
  have K0 := Keep.refl h0 [x1]
  have hS0 : s.Since s.vm h0.size := (State.WarmedH.refl s).since _
  have CH0 : CHr Z own_EL s.vm h0 s.vm h0 := CHr.refl hCH
  have hEL := own_EW hw
  have hSA := own_SA hw
  have lt1 := own_lt E1.lt
  show own_Fin p e below (s₁.setTop (entryFrame m #[(.ref x1), (.ref b1), (.int (0 : Int32)), (.int (0 : Int32)), .null] 6)) _
  refine own_gs (castTop (ef_own_new4e m x1 b1 (0 : Int32) (0 : Int32)) (Steps.refl _)) ?_
  show own_Fin p e below (s₁.setTop (mkF m 0 #[vr x1, vr b1, vi (0 : Int32), vi (0 : Int32), vn, uu] [])) _
  refine own_gs (cur' := s₁.setTop (mkF m 1 #[vr x1, vr b1, vi (0 : Int32), vi (0 : Int32), vn, uu] [(.ref x1)])) ?_ ?_
  · refine XS.aloadN X0.here hx rfl (hb hby d_jdk_42_m_149_0) rfl rfl ?_
    exact Steps.refl _
  obtain ⟨T11, X11, e11, st11⟩ := initO X0 hx hZ hown (hw _ (List.mem_of_getElem? (i := 12) rfl)) (hw _ (List.mem_of_getElem? (i := 13) rfl)) (hw _ (List.mem_of_getElem? (i := 14) rfl)) e0 (g := (mkF m 1 #[vr x1, vr b1, vi (0 : Int32), vi (0 : Int32), vn, uu] [(.ref x1)])) rfl (by rw [hml]; rfl) rfl (hb hby d_jdk_42_m_149_1) (by decide) (W := 0) (by show 2 * 0 + _ ≤ _; exact Nat.le_of_eq rfl) (by decide)
  refine own_go st11 ?_
  show own_Fin p e below (T11.setTop (mkF m 4 #[vr x1, vr b1, vi (0 : Int32), vi (0 : Int32), vn, uu] [])) _
  refine own_gs (cur' := T11.setTop (mkF m 9 #[vr x1, vr b1, vi (0 : Int32), vi (0 : Int32), vn, uu] [(.ref x1)])) ?_ ?_
  · refine XS.iloadN X11.here hx rfl (hb hby d_jdk_42_m_149_4) rfl ?_
    refine XS.ifNo X11.here hx rfl (hb hby d_jdk_42_m_149_5) rfl ((if0 _ _).trans (teq ((by decide) : (0 : Int32) = (0 : Int32))).2) ?_
    refine XS.aloadN X11.here hx rfl (hb hby d_jdk_42_m_149_8) rfl rfl ?_
    exact Steps.refl _
  obtain ⟨sa12, T12, h12, k12, sb12, c12, X12, e12, E12, hS12, hk12, hZ12, hown12, A12, Fc12, Fv12, V12, lta12, ltt12, hC12, Li12, ne12, st12⟩ := ldcCH X11 hx hZ hown (hw _ (List.mem_of_getElem? (i := 15) rfl)) hSA e11 hS0 (show h0.size ≤ h0.size by omega) hEL (own_mem_0) CH0.1 (vs := []) (z := (0 : Int32)) own_lit_0 (by decide) rfl (g := (mkF m 9 #[vr x1, vr b1, vi (0 : Int32), vi (0 : Int32), vn, uu] [(.ref x1)])) rfl (hb hby d_jdk_42_m_149_9) (n := 0) (by decide) (by decide) (by decide) (by decide)
  replace lta12 := own_lt lta12
  replace ltt12 := own_lt ltt12
  refine own_go st12 ?_
  show own_Fin p e below (T12.setTop (mkF m 11 #[vr x1, vr b1, vi (0 : Int32), vi (0 : Int32), vn, uu] [(.ref sa12), (.ref x1)])) _
  have z13 := E12.1
  have K13 := K0.ext E12
  have O13 := O0.ext E12
  have CH13 := CH0.trans hC12
  have f14 := (CHr.safe hC12 (own_lt (by omega)) (hSf _ (List.mem_of_getElem? (i := 0) rfl)))
  have nx12 := ne12 x1 f14
  have nxa12 := own_ne nx12.1
  have nxb12 := own_ne nx12.2
  obtain ⟨T15, X15, e15, st15⟩ := getF X12 hx hZ12 hown12 (host := "") (Or.inl (hw _ (List.mem_of_getElem? (i := 21) rfl))) Via.refl e12 Fv12 (g := (mkF m 11 #[vr x1, vr b1, vi (0 : Int32), vi (0 : Int32), vn, uu] [(.ref sa12), (.ref x1)])) rfl rfl (hb hby d_jdk_42_m_149_11)
  refine own_go st15 ?_
  show own_Fin p e below (T15.setTop (mkF m 14 #[vr x1, vr b1, vi (0 : Int32), vi (0 : Int32), vn, uu] [(.ref sb12), (.ref x1)])) _
  have f17 := (Fv1.ext E12)
  have f18 := (E1.ext E12)
  obtain ⟨T16, h16, X16, e16, W16, st16⟩ := putF X15 hx hZ12 hown12 (host := "") (Or.inl (hw _ (List.mem_of_getElem? (i := 21) rfl))) Via.refl e15 f17 f18 (Or.inr ⟨(hw _ (List.mem_of_getElem? (i := 17) rfl)), rfl, hnm⟩) (hw _ (List.mem_of_getElem? (i := 2) rfl)) (ty := (.array .byte)) (by decide) rfl rfl (g := (mkF m 14 #[vr x1, vr b1, vi (0 : Int32), vi (0 : Int32), vn, uu] [(.ref sb12), (.ref x1)])) rfl rfl (hb hby d_jdk_42_m_149_14)
  have F16 := f17.same W16
  refine own_go st16 ?_
  show own_Fin p e below (T16.setTop (mkF m 17 #[vr x1, vr b1, vi (0 : Int32), vi (0 : Int32), vn, uu] [])) _
  have z19 := W16.size
  have K19 := K13.wr W16 (Or.inl (List.mem_of_getElem? (i := 0) rfl))
  have O19 := O13.wr W16 (by omega)
  have CH19 := CH13.trans (CHr.wr W16 f14 CH13.1)
  have N19 := Fr.snoc X16 N0 (by omega)
  refine own_gs (cur' := T16.setTop (mkF m 18 #[vr x1, vr b1, vi (0 : Int32), vi (0 : Int32), vn, uu] [(.ref x1)])) ?_ ?_
  · refine XS.aloadN X16.here hx rfl (hb hby d_jdk_42_m_149_17) rfl rfl ?_
    exact Steps.refl _
  obtain ⟨sa20, T20, h20, k20, sb20, c20, X20, e20, E20, hS20, hk20, hZ20, hown20, A20, Fc20, Fv20, V20, lta20, ltt20, hC20, Li20, ne20, st20⟩ := ldcCH X16 hx hZ12 hown12 (hw _ (List.mem_of_getElem? (i := 15) rfl)) hSA e16 hS12 (show k12 ≤ h16.size by omega) hEL (own_mem_0) CH19.1 (vs := []) (z := (0 : Int32)) own_lit_0 (by decide) rfl (g := (mkF m 18 #[vr x1, vr b1, vi (0 : Int32), vi (0 : Int32), vn, uu] [(.ref x1)])) rfl (hb hby d_jdk_42_m_149_18) (n := 0) (by decide) (by decide) (by decide) (by decide)
  replace lta20 := own_lt lta20
  replace ltt20 := own_lt ltt20
  refine own_go st20 ?_
  show own_Fin p e below (T20.setTop (mkF m 20 #[vr x1, vr b1, vi (0 : Int32), vi (0 : Int32), vn, uu] [(.ref sa20), (.ref x1)])) _
  have z21 := E20.1
  have K21 := K19.ext E20
  have O21 := O19.ext E20
  have CH21 := CH19.trans hC20
  have f22 := (CHr.safe hC20 (own_lt (by omega)) (Safe.wr W16 f14 CH13.1 f14))
  have nx20 := ne20 x1 f22
  have nxa20 := own_ne nx20.1
  have nxb20 := own_ne nx20.2
  obtain ⟨T23, X23, e23, st23⟩ := getF X20 hx hZ20 hown20 (host := "") (Or.inl (hw _ (List.mem_of_getElem? (i := 22) rfl))) Via.refl e20 Fc20 (g := (mkF m 20 #[vr x1, vr b1, vi (0 : Int32), vi (0 : Int32), vn, uu] [(.ref sa20), (.ref x1)])) rfl rfl (hb hby d_jdk_42_m_149_20)
  refine own_go st23 ?_
  show own_Fin p e below (T23.setTop (mkF m 23 #[vr x1, vr b1, vi (0 : Int32), vi (0 : Int32), vn, uu] [(.int (0 : Int32)), (.ref x1)])) _
  have f25 := (((Fc1.ext E12).other W16 (Or.inr (slot_ne (Or.inr (hw _ (List.mem_of_getElem? (i := 18) rfl))) (Or.inr (hw _ (List.mem_of_getElem? (i := 17) rfl))) (by decide) (t := .byte) (t' := (.array .byte)) (by decide) (by decide)))).ext E20)
  have f26 := ((f18.wr W16).ext E20)
  obtain ⟨T24, h24, X24, e24, W24, st24⟩ := putF X23 hx hZ20 hown20 (host := "") (Or.inl (hw _ (List.mem_of_getElem? (i := 22) rfl))) Via.refl e23 f25 f26 (Or.inr ⟨(hw _ (List.mem_of_getElem? (i := 18) rfl)), rfl, hnm⟩) (hw _ (List.mem_of_getElem? (i := 2) rfl)) (ty := .byte) (by decide) rfl rfl (g := (mkF m 23 #[vr x1, vr b1, vi (0 : Int32), vi (0 : Int32), vn, uu] [(.int (0 : Int32)), (.ref x1)])) rfl rfl (hb hby d_jdk_42_m_149_23)
  have F24 := f25.same W24
  refine own_go st24 ?_
  show own_Fin p e below (T24.setTop (mkF m 26 #[vr x1, vr b1, vi (0 : Int32), vi (0 : Int32), vn, uu] [])) _
  have z27 := W24.size
  have K27 := K21.wr W24 (Or.inl (List.mem_of_getElem? (i := 0) rfl))
  have O27 := O21.wr W24 (by omega)
  have CH27 := CH21.trans (CHr.wr W24 f22 CH21.1)
  have N27 := Fr.snoc X24 N19 (by omega)
  have f28 := (f26.wr W24)
  have f29 := ((F16.ext E20).other W24 (Or.inr (slot_ne (Or.inr (hw _ (List.mem_of_getElem? (i := 17) rfl))) (Or.inr (hw _ (List.mem_of_getElem? (i := 18) rfl))) (by decide) (t := (.array .byte)) (t' := .byte) (by decide) (by decide))))
  have f30 := (((V12.other W16 (own_ne (a := sb12) (b := x1) (by omega))).ext E20).other W24 (own_ne (a := sb12) (b := x1) (by omega)))
  obtain ⟨fs, hr, hrun, hended, hRE⟩ := X24.leaveW hS20 (show k20 ≤ T24.heap.size by rw [e24]; omega) (v := none) (fun _ => rfl)
  refine ⟨_, _, X24.returnOut hx Bd.returns (hb hby d_jdk_42_m_149_26) hr, hrun, hended, _, _, rfl, ?_, ?_, hRE.1, hRE.2.1, hRE.2.2.1, hRE.2.2.2.mono (by decide) (by decide)⟩
  · show own_new4e_Q Z x1 b1 v0 c0 h0 n0 none T24.heap _
    rw [e24]
    exact ⟨rfl, N27, K27, sb12, (by omega), ⟨_, _, _, _, f28, f29, F24, f30, Or.inl ⟨rfl, rfl, rfl, by simp⟩, by simp, by simp⟩⟩
  · have hfin := CH27.trans (CHv.at X24 hZ20 hEL CH27.1)
    rw [hh]
    show CHr Z own_EL s.vm h0 T24.vm T24.heap
    rw [e24]
    exact hfin
def own_new1e_Q (Z : State) (x1 b1 : Nat) (v0 c0 : Value) (k1 : ClassId) (h0 : Heap) (n0 : Nat) (v : Option Value) (h : Heap) (L : List Loc) : Prop := v = none ∧ Fr n0 L ∧ Keep h0 h [x1] ∧ ∃ t : Nat, x1 ≠ t ∧ own_Str Z h x1 t []
theorem ef_own_new1e (m : MethodId) (x0 : Nat) (x1 : Nat) : entryFrame m #[(.ref x0), (.ref x1)] 2 = mkF m 0 #[vr x0, vr x1] [] := by first | (simp [entryFrame, mkF, argsToLocals, Value.category]; done) | rfl
theorem d_jdk_42_m_3_0 : decode jdk_42_method_3_code 0 = .ok (.aload_n 0, 1) := by decide +kernel
theorem d_jdk_42_m_3_1 : decode jdk_42_method_3_code 1 = .ok (.aload_n 1, 1) := by decide +kernel
theorem d_jdk_42_m_3_2 : decode jdk_42_method_3_code 2 = .ok (.iconst 0, 1) := by decide +kernel
theorem d_jdk_42_m_3_3 : decode jdk_42_method_3_code 3 = .ok (.aload_n 1, 1) := by decide +kernel
theorem d_jdk_42_m_3_4 : decode jdk_42_method_3_code 4 = .ok (.arraylength, 1) := by decide +kernel
theorem d_jdk_42_m_3_5 : decode jdk_42_method_3_code 5 = .ok (.aconst_null, 1) := by decide +kernel
theorem d_jdk_42_m_3_6 : decode jdk_42_method_3_code 6 = .ok (.invokespecial 27, 3) := by decide +kernel
theorem pd_0 : parseMethodDescriptor "([CIILjava/lang/Void;)V" = some ⟨[(.array .char), .int, .int, (.object "java/lang/Void")], none⟩ := by decide +kernel
theorem d_jdk_42_m_3_9 : decode jdk_42_method_3_code 9 = .ok (.return_, 1) := by decide +kernel
set_option maxRecDepth 65536 in
set_option maxHeartbeats 40000000 in
theorem own_new1e (l : Launch) (Z : State) (a0 : Array Value) (hW : own_W Z a0) (x1 b1 : Nat) (v0 c0 : Value) (k1 : ClassId) (h0 : Heap) (n0 : Nat) (Z0 : n0 ≤ h0.size) (O0 : Old Z n0 h0) (E1 : Exa Z h0 x1 "java/lang/String") (Fv1 : Fld Z h0 x1 "java/lang/String" "value" "[B" v0) (Fc1 : Fld Z h0 x1 "java/lang/String" "coder" "B" c0) (g1 : n0 ≤ x1) (V1 : Arv Z h0 b1 k1 .char (0 : Int32) [] (.int (0 : Int32))) :
    MetFree l (⟨"java/lang/String", "<init>", "([C)V"⟩ : MethodName) (head1 (Jvm.Cond.code (⟨"java/lang/String", "<init>", "([C)V"⟩ : MethodName) jdk_42_method_3_code 2 none :: []) ({ frames := 2, cells := 4, slots := 8, locals := 40 } : Room)) (fun a U => a = #[(.ref x1), (.ref b1)] ∧ Z.Warmed39 U.vm ∧ U.heap = h0 ∧ CHv Z own_EL U.vm h0 ∧ ∀ x ∈ ([x1] : List Addr), Safe Z own_EL U.vm h0 x) (fun _ _ _ _ _ => True) (fun _ U o U' => ∃ v L, o = .returned v ∧ own_new1e_Q Z x1 b1 v0 c0 k1 h0 n0 v U'.heap L ∧ CHr Z own_EL U.vm U.heap U'.vm U'.heap ∧ ReturnedEndW U o U' L ({ frames := 2, cells := 4, slots := 8, locals := 40 } : Room).cells ({ frames := 2, cells := 4, slots := 8, locals := 40 } : Room).slots) := by
  refine MetFree.of_bodySF (plainFor_of_name pn_java_lang_String) hisR ?_
  intro p e s m args below meth c s₁ Bd hml0 hP hK
  obtain ⟨rfl, hZ, hh, hCH, hSf⟩ := hP
  obtain ⟨hw, ⟨G1, O2, P5⟩, ⟨G3, O4, rG3⟩, Oa, Oh, Ol⟩ := id hW
  have hx := Bd.exec
  have hby := Bd.bytes
  have hml : c.maxLocals = 2 := hml0
  have hown : s.vm.findClass "java/lang/String" = some m.cls := findClass_of_methodNamed Bd.named
  have hnm := (name_of_methodNamed Bd.named Bd.method).1
  have X0 : Stand p l e ({ frames := 2, cells := 4, slots := 8, locals := 40 } : Room) (s.setVm s.vm) m #[(.ref x1), (.ref b1)] below meth c s₁ [] 0 0 := Stand.of_body Bd
  have e0 : s₁.heap = h0 := by rw [← hh, Bd.state]; rfl
  have N0 := Fr.nil n0
  have K0 := Keep.refl h0 [x1]
  have hS0 : s.Since s.vm h0.size := (State.WarmedH.refl s).since _
  have CH0 : CHr Z own_EL s.vm h0 s.vm h0 := CHr.refl hCH
  have hEL := own_EW hw
  have hSA := own_SA hw
  have lt1 := own_lt E1.lt
  show own_Fin p e below (s₁.setTop (entryFrame m #[(.ref x1), (.ref b1)] 2)) _
  refine own_gs (castTop (ef_own_new1e m x1 b1) (Steps.refl _)) ?_
  show own_Fin p e below (s₁.setTop (mkF m 0 #[vr x1, vr b1] [])) _
  refine own_gs (cur' := s₁.setTop (mkF m 4 #[vr x1, vr b1] [(.ref b1), (.int (0 : Int32)), (.ref b1), (.ref x1)])) ?_ ?_
  · refine XS.aloadN X0.here hx rfl (hb hby d_jdk_42_m_3_0) rfl rfl ?_
    refine XS.aloadN X0.here hx rfl (hb hby d_jdk_42_m_3_1) rfl rfl ?_
    refine XS.iconst X0.here hx rfl (hb hby d_jdk_42_m_3_2) ?_
    show Steps p.tables e below (s₁.setTop (mkF m 3 #[vr x1, vr b1] [(.int (0 : Int32)), (.ref b1), (.ref x1)])) _
    refine XS.aloadN X0.here hx rfl (hb hby d_jdk_42_m_3_3) rfl rfl ?_
    exact Steps.refl _
  obtain ⟨cl11, Ar11, q11, S11, M11, Hs11, G11⟩ := id V1
  refine own_go (X0.arraylength hx (by rw [e0]; exact Ar11.1) (State.isArrayOf_alike hZ.alike Ar11.2.1) (g := (mkF m 4 #[vr x1, vr b1] [(.ref b1), (.int (0 : Int32)), (.ref b1), (.ref x1)])) rfl rfl (hb hby d_jdk_42_m_3_4)) ?_
  rw [len_of S11 M11]
  show own_Fin p e below (s₁.setTop (mkF m 5 #[vr x1, vr b1] [(.int (0 : Int32)), (.int (0 : Int32)), (.ref b1), (.ref x1)])) _
  refine own_gs (cur' := s₁.setTop (mkF m 6 #[vr x1, vr b1] [.null, (.int (0 : Int32)), (.int (0 : Int32)), (.ref b1), (.ref x1)])) ?_ ?_
  · refine XS.aconstNull X0.here hx rfl (hb hby d_jdk_42_m_3_5) ?_
    exact Steps.refl _
  obtain ⟨_, _, ⟨T12, L12, k12, n12⟩, -, Xw12, hSw12, hgw12, ⟨Lc12, hQ12, l12, y12, z12, hC12⟩, st12⟩ := X0.specialBackS hx (y := (⟨"java/lang/String", "<init>", "([CIILjava/lang/Void;)V"⟩ : MethodName)) rfl hown (mvT hZ (hw _ (List.mem_of_getElem? (i := 8) rfl))) (mvT hZ (hw _ (List.mem_of_getElem? (i := 9) rfl))) (mvT hZ (hw _ (List.mem_of_getElem? (i := 11) rfl))) (by decide) (own_backS (W := 0) (own_new4e l Z a0 hW x1 b1 v0 c0 h0 n0 (by omega) O0 E1 Fv1 Fc1 g1) hZ (hw _ (List.mem_of_getElem? (i := 11) rfl)) (hw _ (List.mem_of_getElem? (i := 3) rfl)) (by decide) (by decide) hEL CH0.1 (allS ⟨(hSf _ (List.mem_of_getElem? (i := 0) rfl)), own_lt (by omega)⟩ all0)) (g := (mkF m 6 #[vr x1, vr b1] [.null, (.int (0 : Int32)), (.int (0 : Int32)), (.ref b1), (.ref x1)])) rfl (by rw [hml]; rfl) (Steps.refl _) (a := x1) (argsL := [(.ref b1), (.int (0 : Int32)), (.int (0 : Int32)), .null]) (rest := []) (lenOf pd_0 rfl) rfl (by show 2 * 0 + _ ≤ _; exact Nat.le_of_eq rfl) (hb hby d_jdk_42_m_3_6) (fun _ _ => ⟨rfl, e0, (by decide : 0 + 4 ≤ 4), (by decide : 0 + 8 ≤ 8)⟩)
  dsimp only [Pt.U, Pt.locs, Pt.cells, Pt.slots] at Xw12 hSw12 hgw12 hC12 l12 y12 z12 st12 hQ12
  subst l12 y12 z12
  obtain ⟨X12, hS12, hZ12, hown12⟩ := rebS hS0 (show h0.size ≤ s₁.heap.size by rw [e0]; omega) Xw12 hSw12 hgw12 hZ hown
  obtain ⟨rfl, Nq12, Kq12, tq, hne, F12⟩ := hQ12
  have N12 := Fr.app N0 Nq12
  have z13 := Kq12.1
  have K13 := K0.trans Kq12 (allS (Or.inl (List.mem_of_getElem? (i := 0) rfl)) all0)
  have O13 := O0.keep Kq12 (allS (by omega) all0)
  have CH13 := CH0.trans hC12
  refine own_gs st12 ?_
  show own_Fin p e below (T12.setTop (mkF m 9 #[vr x1, vr b1] [])) _
  obtain ⟨fs, hr, hrun, hended, hRE⟩ := X12.leaveW hS12 (show T12.heap.size ≤ T12.heap.size by omega) (v := none) (fun _ => rfl)
  refine ⟨_, _, X12.returnOut hx Bd.returns (hb hby d_jdk_42_m_3_9) hr, hrun, hended, _, _, rfl, ?_, ?_, hRE.1, hRE.2.1, hRE.2.2.1, hRE.2.2.2.mono (by decide) (by decide)⟩
  · show own_new1e_Q Z x1 b1 v0 c0 k1 h0 n0 none T12.heap _
    exact ⟨rfl, N12, K13, tq, hne, F12⟩
  · have hfin := CH13.trans (CHv.at X12 hZ12 hEL CH13.1)
    rw [hh]
    show CHr Z own_EL s.vm h0 T12.vm T12.heap
    exact hfin
def own_u_len_Q (Z : State) (t1 : Nat) (k1 : ClassId) (n : Nat) (vs : List Value) (h0 : Heap) (n0 : Nat) (v : Option Value) (h : Heap) (L : List Loc) : Prop := v = (some (.int (Int32.ofNat n))) ∧ Fr n0 L ∧ h = h0
theorem pn_java_lang_StringUTF16 : plainName "java/lang/StringUTF16" = true := by first | (simp [plainName, overriddenIn]; done) | decide +kernel
theorem ef_own_u_len (m : MethodId) (x0 : Nat) : entryFrame m #[(.ref x0)] 1 = mkF m 0 #[vr x0] [] := by first | (simp [entryFrame, mkF, argsToLocals, Value.category]; done) | rfl
theorem d_jdk_52_m_6_0 : decode jdk_52_method_6_code 0 = .ok (.aload_n 0, 1) := by decide +kernel
theorem d_jdk_52_m_6_1 : decode jdk_52_method_6_code 1 = .ok (.arraylength, 1) := by decide +kernel
theorem d_jdk_52_m_6_2 : decode jdk_52_method_6_code 2 = .ok (.iconst 1, 1) := by decide +kernel
theorem d_jdk_52_m_6_3 : decode jdk_52_method_6_code 3 = .ok (.ishr, 1) := by decide +kernel
theorem d_jdk_52_m_6_4 : decode jdk_52_method_6_code 4 = .ok (.ireturn, 1) := by decide +kernel
set_option maxRecDepth 65536 in
set_option maxHeartbeats 40000000 in
theorem own_u_len (l : Launch) (Z : State) (a0 : Array Value) (hW : own_W Z a0) (t1 : Nat) (k1 : ClassId) (n : Nat) (vs : List Value) (h0 : Heap) (n0 : Nat) (Z0 : n0 ≤ h0.size) (O0 : Old Z n0 h0) (hn : n ≤ 4000) (V1 : Arv Z h0 t1 k1 .byte (Int32.ofNat (2 * n)) vs (.int (0 : Int32))) :
    MetFree l (⟨"java/lang/StringUTF16", "length", "([B)I"⟩ : MethodName) (head1 (Jvm.Cond.code (⟨"java/lang/StringUTF16", "length", "([B)I"⟩ : MethodName) jdk_52_method_6_code 1 (some .int) :: []) ({ frames := 0, cells := 0, slots := 0, locals := 0 } : Room)) (fun a U => a = #[(.ref t1)] ∧ Z.Warmed39 U.vm ∧ U.heap = h0) (fun _ _ _ _ _ => True) (fun _ U o U' => ∃ v L, o = .returned v ∧ own_u_len_Q Z t1 k1 n vs h0 n0 v U'.heap L ∧ FrameEnd U o U' L ({ frames := 0, cells := 0, slots := 0, locals := 0 } : Room).cells ({ frames := 0, cells := 0, slots := 0, locals := 0 } : Room).slots) := by
  refine MetFree.of_bodySF (plainFor_of_name pn_java_lang_StringUTF16) hisR ?_
  intro p e s m args below meth c s₁ Bd hml0 hP hK
  obtain ⟨rfl, hZ, hh⟩ := hP
  obtain ⟨hw, ⟨G1, O2, P5⟩, ⟨G3, O4, rG3⟩, Oa, Oh, Ol⟩ := id hW
  have hx := Bd.exec
  have hby := Bd.bytes
  have hml : c.maxLocals = 1 := hml0
  have hown : s.vm.findClass "java/lang/StringUTF16" = some m.cls := findClass_of_methodNamed Bd.named
  have hnm := (name_of_methodNamed Bd.named Bd.method).1
  have X0 : Stand p l e ({ frames := 0, cells := 0, slots := 0, locals := 0 } : Room) s m #[(.ref t1)] below meth c s₁ [] 0 0 := Stand.of_body Bd
  have e0 : s₁.heap = h0 := by rw [← hh, Bd.state]; rfl
  have N0 := Fr.nil n0
  have K0 := Keep.refl h0 []
  have lt1 := own_lt V1.lt
  show own_Fin p e below (s₁.setTop (entryFrame m #[(.ref t1)] 1)) _
  refine own_gs (castTop (ef_own_u_len m t1) (Steps.refl _)) ?_
  show own_Fin p e below (s₁.setTop (mkF m 0 #[vr t1] [])) _
  refine own_gs (cur' := s₁.setTop (mkF m 1 #[vr t1] [(.ref t1)])) ?_ ?_
  · refine XS.aloadN X0.here hx rfl (hb hby d_jdk_52_m_6_0) rfl rfl ?_
    exact Steps.refl _
  obtain ⟨cl11, Ar11, q11, S11, M11, Hs11, G11⟩ := id V1
  refine own_go (X0.arraylength hx (by rw [e0]; exact Ar11.1) (State.isArrayOf_alike hZ.alike Ar11.2.1) (g := (mkF m 1 #[vr t1] [(.ref t1)])) rfl rfl (hb hby d_jdk_52_m_6_1)) ?_
  rw [len_of S11 M11]
  show own_Fin p e below (s₁.setTop (mkF m 2 #[vr t1] [(.int (Int32.ofNat (2 * n)))])) _
  refine own_gs (cur' := s₁.setTop (mkF m 4 #[vr t1] [(.int ((Int32.ofNat (2 * n)) >>> ((1 : Int32) &&& 31)))])) ?_ ?_
  · refine XS.iconst X0.here hx rfl (hb hby d_jdk_52_m_6_2) ?_
    refine XS.ishr X0.here hx rfl (hb hby d_jdk_52_m_6_3) rfl ?_
    exact Steps.refl _
  rw [own_shr1 (by omega)]
  show own_Fin p e below (s₁.setTop (mkF m 4 #[vr t1] [(.int (Int32.ofNat n))])) _
  obtain ⟨fs, hr, hrun, hended, hW1, hsame⟩ := X0.leave (v := (some (.int (Int32.ofNat n)))) (fun h => by rw [Bd.returns] at h; cases h)
  refine ⟨_, _, retI X0 hx Bd.returns (hb hby d_jdk_52_m_6_4) hr, hrun, hended, _, _, rfl, ?_, ⟨_, rfl⟩, hW1, hsame.mono (by decide) (by decide)⟩
  show own_u_len_Q Z t1 k1 n vs h0 n0 (some (.int (Int32.ofNat n))) s₁.heap _
  rw [e0]
  exact ⟨rfl, N0, rfl⟩
def own_u_pci0_Q (Z : State) (p1 p2 : Int32) (h0 : Heap) (n0 : Nat) (v : Option Value) (h : Heap) (L : List Loc) : Prop := v = (some (.int p1)) ∧ Fr n0 L ∧ h = h0
theorem pn_jdk_internal_util_Preconditions : plainName "jdk/internal/util/Preconditions" = true := by first | (simp [plainName, overriddenIn]; done) | decide +kernel
theorem ef_own_u_pci0 (m : MethodId) (x0 : Int32) (x1 : Int32) : entryFrame m #[(.int x0), (.int x1), .null] 3 = mkF m 0 #[vi x0, vi x1, vn] [] := by first | (simp [entryFrame, mkF, argsToLocals, Value.category]; done) | rfl
theorem d_jdk_41_m_11_0 : decode jdk_41_method_11_code 0 = .ok (.iload_n 0, 1) := by decide +kernel
theorem d_jdk_41_m_11_1 : decode jdk_41_method_11_code 1 = .ok (.ifCond .lt 8, 3) := by decide +kernel
theorem d_jdk_41_m_11_4 : decode jdk_41_method_11_code 4 = .ok (.iload_n 0, 1) := by decide +kernel
theorem d_jdk_41_m_11_5 : decode jdk_41_method_11_code 5 = .ok (.iload_n 1, 1) := by decide +kernel
theorem d_jdk_41_m_11_6 : decode jdk_41_method_11_code 6 = .ok (.if_icmp .lt 10, 3) := by decide +kernel
theorem d_jdk_41_m_11_16 : decode jdk_41_method_11_code 16 = .ok (.iload_n 0, 1) := by decide +kernel
theorem d_jdk_41_m_11_17 : decode jdk_41_method_11_code 17 = .ok (.ireturn, 1) := by decide +kernel
set_option maxRecDepth 65536 in
set_option maxHeartbeats 40000000 in
theorem own_u_pci0 (l : Launch) (Z : State) (a0 : Array Value) (hW : own_W Z a0) (p1 p2 : Int32) (h0 : Heap) (n0 : Nat) (Z0 : n0 ≤ h0.size) (O0 : Old Z n0 h0) (hp1 : ¬ p1 < (0 : Int32)) (hp2 : p1 < p2) :
    MetFree l (⟨"jdk/internal/util/Preconditions", "checkIndex", "(IILjava/util/function/BiFunction;)I"⟩ : MethodName) (head1 (Jvm.Cond.code (⟨"jdk/internal/util/Preconditions", "checkIndex", "(IILjava/util/function/BiFunction;)I"⟩ : MethodName) jdk_41_method_11_code 3 (some .int) :: []) ({ frames := 0, cells := 0, slots := 0, locals := 0 } : Room)) (fun a U => a = #[(.int p1), (.int p2), .null] ∧ Z.Warmed39 U.vm ∧ U.heap = h0) (fun _ _ _ _ _ => True) (fun _ U o U' => ∃ v L, o = .returned v ∧ own_u_pci0_Q Z p1 p2 h0 n0 v U'.heap L ∧ FrameEnd U o U' L ({ frames := 0, cells := 0, slots := 0, locals := 0 } : Room).cells ({ frames := 0, cells := 0, slots := 0, locals := 0 } : Room).slots) := by
  refine MetFree.of_bodySF (plainFor_of_name pn_jdk_internal_util_Preconditions) hisR ?_
  intro p e s m args below meth c s₁ Bd hml0 hP hK
  obtain ⟨rfl, hZ, hh⟩ := hP
  obtain ⟨hw, ⟨G1, O2, P5⟩, ⟨G3, O4, rG3⟩, Oa, Oh, Ol⟩ := id hW
  have hx := Bd.exec
  have hby := Bd.bytes
  have hml : c.maxLocals = 3 := hml0
  have hown : s.vm.findClass "jdk/internal/util/Preconditions" = some m.cls := findClass_of_methodNamed Bd.named
  have hnm := (name_of_methodNamed Bd.named Bd.method).1
  have X0 : Stand p l e ({ frames := 0, cells := 0, slots := 0, locals := 0 } : Room) s m #[(.int p1), (.int p2), .null] below meth c s₁ [] 0 0 := Stand.of_body Bd
  have e0 : s₁.heap = h0 := by rw [← hh, Bd.state]; rfl
  have N0 := Fr.nil n0
  have K0 := Keep.refl h0 []
  show own_Fin p e below (s₁.setTop (entryFrame m #[(.int p1), (.int p2), .null] 3)) _
  refine own_gs (castTop (ef_own_u_pci0 m p1 p2) (Steps.refl _)) ?_
  show own_Fin p e below (s₁.setTop (mkF m 0 #[vi p1, vi p2, vn] [])) _
  refine own_gs (cur' := s₁.setTop (mkF m 17 #[vi p1, vi p2, vn] [(.int p1)])) ?_ ?_
  · refine XS.iloadN X0.here hx rfl (hb hby d_jdk_41_m_11_0) rfl ?_
    refine XS.ifNo X0.here hx rfl (hb hby d_jdk_41_m_11_1) rfl ((if0 _ _).trans (flt (hp1 : ¬ (p1 < (0 : Int32)))).1) ?_
    refine XS.iloadN X0.here hx rfl (hb hby d_jdk_41_m_11_4) rfl ?_
    show Steps p.tables e below (s₁.setTop (mkF m 5 #[vi p1, vi p2, vn] [(.int p1)])) _
    refine XS.iloadN X0.here hx rfl (hb hby d_jdk_41_m_11_5) rfl ?_
    refine XS.icmpYes X0.here hx rfl (pc0 := 6) (pc' := 16) rfl (hb hby d_jdk_41_m_11_6) rfl (tlt (hp2 : p1 < p2)).1 (by decide) (by decide) ?_
    refine XS.iloadN X0.here hx rfl (hb hby d_jdk_41_m_11_16) rfl ?_
    exact Steps.refl _
  obtain ⟨fs, hr, hrun, hended, hW1, hsame⟩ := X0.leave (v := (some (.int p1))) (fun h => by rw [Bd.returns] at h; cases h)
  refine ⟨_, _, retI X0 hx Bd.returns (hb hby d_jdk_41_m_11_17) hr, hrun, hended, _, _, rfl, ?_, ⟨_, rfl⟩, hW1, hsame.mono (by decide) (by decide)⟩
  show own_u_pci0_Q Z p1 p2 h0 n0 (some (.int p1)) s₁.heap _
  rw [e0]
  exact ⟨rfl, N0, rfl⟩
def own_u_pci1_Q (Z : State) (p1 p2 : Int32) (g3 : Nat) (h0 : Heap) (n0 : Nat) (v : Option Value) (h : Heap) (L : List Loc) : Prop := v = (some (.int p1)) ∧ Fr n0 L ∧ h = h0
theorem ef_own_u_pci1 (m : MethodId) (x0 : Int32) (x1 : Int32) (x2 : Nat) : entryFrame m #[(.int x0), (.int x1), (.ref x2)] 3 = mkF m 0 #[vi x0, vi x1, vr x2] [] := by first | (simp [entryFrame, mkF, argsToLocals, Value.category]; done) | rfl
set_option maxRecDepth 65536 in
set_option maxHeartbeats 40000000 in
theorem own_u_pci1 (l : Launch) (Z : State) (a0 : Array Value) (hW : own_W Z a0) (p1 p2 : Int32) (g3 : Nat) (h0 : Heap) (n0 : Nat) (Z0 : n0 ≤ h0.size) (O0 : Old Z n0 h0) (hp1 : ¬ p1 < (0 : Int32)) (hp2 : p1 < p2) :
    MetFree l (⟨"jdk/internal/util/Preconditions", "checkIndex", "(IILjava/util/function/BiFunction;)I"⟩ : MethodName) (head1 (Jvm.Cond.code (⟨"jdk/internal/util/Preconditions", "checkIndex", "(IILjava/util/function/BiFunction;)I"⟩ : MethodName) jdk_41_method_11_code 3 (some .int) :: []) ({ frames := 0, cells := 0, slots := 0, locals := 0 } : Room)) (fun a U => a = #[(.int p1), (.int p2), (.ref g3)] ∧ Z.Warmed39 U.vm ∧ U.heap = h0) (fun _ _ _ _ _ => True) (fun _ U o U' => ∃ v L, o = .returned v ∧ own_u_pci1_Q Z p1 p2 g3 h0 n0 v U'.heap L ∧ FrameEnd U o U' L ({ frames := 0, cells := 0, slots := 0, locals := 0 } : Room).cells ({ frames := 0, cells := 0, slots := 0, locals := 0 } : Room).slots) := by
  refine MetFree.of_bodySF (plainFor_of_name pn_jdk_internal_util_Preconditions) hisR ?_
  intro p e s m args below meth c s₁ Bd hml0 hP hK
  obtain ⟨rfl, hZ, hh⟩ := hP
  obtain ⟨hw, ⟨G1, O2, P5⟩, ⟨G3, O4, rG3⟩, Oa, Oh, Ol⟩ := id hW
  have hx := Bd.exec
  have hby := Bd.bytes
  have hml : c.maxLocals = 3 := hml0
  have hown : s.vm.findClass "jdk/internal/util/Preconditions" = some m.cls := findClass_of_methodNamed Bd.named
  have hnm := (name_of_methodNamed Bd.named Bd.method).1
  have X0 : Stand p l e ({ frames := 0, cells := 0, slots := 0, locals := 0 } : Room) s m #[(.int p1), (.int p2), (.ref g3)] below meth c s₁ [] 0 0 := Stand.of_body Bd
  have e0 : s₁.heap = h0 := by rw [← hh, Bd.state]; rfl
  have N0 := Fr.nil n0
  have K0 := Keep.refl h0 []
  show own_Fin p e below (s₁.setTop (entryFrame m #[(.int p1), (.int p2), (.ref g3)] 3)) _
  refine own_gs (castTop (ef_own_u_pci1 m p1 p2 g3) (Steps.refl _)) ?_
  show own_Fin p e below (s₁.setTop (mkF m 0 #[vi p1, vi p2, vr g3] [])) _
  refine own_gs (cur' := s₁.setTop (mkF m 17 #[vi p1, vi p2, vr g3] [(.int p1)])) ?_ ?_
  · refine XS.iloadN X0.here hx rfl (hb hby d_jdk_41_m_11_0) rfl ?_
    refine XS.ifNo X0.here hx rfl (hb hby d_jdk_41_m_11_1) rfl ((if0 _ _).trans (flt (hp1 : ¬ (p1 < (0 : Int32)))).1) ?_
    refine XS.iloadN X0.here hx rfl (hb hby d_jdk_41_m_11_4) rfl ?_
    show Steps p.tables e below (s₁.setTop (mkF m 5 #[vi p1, vi p2, vr g3] [(.int p1)])) _
    refine XS.iloadN X0.here hx rfl (hb hby d_jdk_41_m_11_5) rfl ?_
    refine XS.icmpYes X0.here hx rfl (pc0 := 6) (pc' := 16) rfl (hb hby d_jdk_41_m_11_6) rfl (tlt (hp2 : p1 < p2)).1 (by decide) (by decide) ?_
    refine XS.iloadN X0.here hx rfl (hb hby d_jdk_41_m_11_16) rfl ?_
    exact Steps.refl _
  obtain ⟨fs, hr, hrun, hended, hW1, hsame⟩ := X0.leave (v := (some (.int p1))) (fun h => by rw [Bd.returns] at h; cases h)
  refine ⟨_, _, retI X0 hx Bd.returns (hb hby d_jdk_41_m_11_17) hr, hrun, hended, _, _, rfl, ?_, ⟨_, rfl⟩, hW1, hsame.mono (by decide) (by decide)⟩
  show own_u_pci1_Q Z p1 p2 g3 h0 n0 (some (.int p1)) s₁.heap _
  rw [e0]
  exact ⟨rfl, N0, rfl⟩
def own_u_sci_Q (Z : State) (p1 p2 : Int32) (h0 : Heap) (n0 : Nat) (v : Option Value) (h : Heap) (L : List Loc) : Prop := v = none ∧ Fr n0 L ∧ h = h0
theorem ef_own_u_sci (m : MethodId) (x0 : Int32) (x1 : Int32) : entryFrame m #[(.int x0), (.int x1)] 2 = mkF m 0 #[vi x0, vi x1] [] := by first | (simp [entryFrame, mkF, argsToLocals, Value.category]; done) | rfl
theorem d_jdk_42_m_155_0 : decode jdk_42_method_155_code 0 = .ok (.iload_n 0, 1) := by decide +kernel
theorem d_jdk_42_m_155_1 : decode jdk_42_method_155_code 1 = .ok (.iload_n 1, 1) := by decide +kernel
theorem d_jdk_42_m_155_2 : decode jdk_42_method_155_code 2 = .ok (.getstatic 1053, 3) := by decide +kernel
theorem d_jdk_42_m_155_5 : decode jdk_42_method_155_code 5 = .ok (.invokestatic 1059, 3) := by decide +kernel
theorem pd_1 : parseMethodDescriptor "(IILjava/util/function/BiFunction;)I" = some ⟨[.int, .int, (.object "java/util/function/BiFunction")], some .int⟩ := by decide +kernel
theorem d_jdk_42_m_155_8 : decode jdk_42_method_155_code 8 = .ok (.pop, 1) := by decide +kernel
theorem d_jdk_42_m_155_9 : decode jdk_42_method_155_code 9 = .ok (.return_, 1) := by decide +kernel
set_option maxRecDepth 65536 in
set_option maxHeartbeats 40000000 in
theorem own_u_sci (l : Launch) (Z : State) (a0 : Array Value) (hW : own_W Z a0) (p1 p2 : Int32) (h0 : Heap) (n0 : Nat) (Z0 : n0 ≤ h0.size) (O0 : Old Z n0 h0) (hp1 : ¬ p1 < (0 : Int32)) (hp2 : p1 < p2) :
    MetFree l (⟨"java/lang/String", "checkIndex", "(II)V"⟩ : MethodName) (head1 (Jvm.Cond.code (⟨"java/lang/String", "checkIndex", "(II)V"⟩ : MethodName) jdk_42_method_155_code 2 none :: []) ({ frames := 1, cells := 0, slots := 0, locals := 14 } : Room)) (fun a U => a = #[(.int p1), (.int p2)] ∧ Z.Warmed39 U.vm ∧ U.heap = h0) (fun _ _ _ _ _ => True) (fun _ U o U' => ∃ v L, o = .returned v ∧ own_u_sci_Q Z p1 p2 h0 n0 v U'.heap L ∧ FrameEnd U o U' L ({ frames := 1, cells := 0, slots := 0, locals := 14 } : Room).cells ({ frames := 1, cells := 0, slots := 0, locals := 14 } : Room).slots) := by
  refine MetFree.of_bodySF (plainFor_of_name pn_java_lang_String) hisR ?_
  intro p e s m args below meth c s₁ Bd hml0 hP hK
  obtain ⟨rfl, hZ, hh⟩ := hP
  obtain ⟨hw, ⟨G1, O2, P5⟩, ⟨G3, O4, rG3⟩, Oa, Oh, Ol⟩ := id hW
  have hx := Bd.exec
  have hby := Bd.bytes
  have hml : c.maxLocals = 2 := hml0
  have hown : s.vm.findClass "java/lang/String" = some m.cls := findClass_of_methodNamed Bd.named
  have hnm := (name_of_methodNamed Bd.named Bd.method).1
  have X0 : Stand p l e ({ frames := 1, cells := 0, slots := 0, locals := 14 } : Room) s m #[(.int p1), (.int p2)] below meth c s₁ [] 0 0 := Stand.of_body Bd
  have e0 : s₁.heap = h0 := by rw [← hh, Bd.state]; rfl
  have N0 := Fr.nil n0
  have K0 := Keep.refl h0 []
  show own_Fin p e below (s₁.setTop (entryFrame m #[(.int p1), (.int p2)] 2)) _
  refine own_gs (castTop (ef_own_u_sci m p1 p2) (Steps.refl _)) ?_
  show own_Fin p e below (s₁.setTop (mkF m 0 #[vi p1, vi p2] [])) _
  refine own_gs (cur' := s₁.setTop (mkF m 2 #[vi p1, vi p2] [(.int p2), (.int p1)])) ?_ ?_
  · refine XS.iloadN X0.here hx rfl (hb hby d_jdk_42_m_155_0) rfl ?_
    refine XS.iloadN X0.here hx rfl (hb hby d_jdk_42_m_155_1) rfl ?_
    exact Steps.refl _
  obtain ⟨T11, X11, e11, st11⟩ := getS2 X0 hx hZ hown (host := "") (Or.inl (hw _ (List.mem_of_getElem? (i := 68) rfl))) Via.refl e0 (O4.ext O0.2) (g := (mkF m 2 #[vi p1, vi p2] [(.int p2), (.int p1)])) rfl (hb hby d_jdk_42_m_155_2)
  refine own_go st11 ?_
  show own_Fin p e below (T11.setTop (mkF m 5 #[vi p1, vi p2] [G3, (.int p2), (.int p1)])) _
  rcases ref_cases rG3 with rfl | ⟨g3, rfl⟩
  · show own_Fin p e below (T11.setTop (mkF m 5 #[vi p1, vi p2] [.null, (.int p2), (.int p1)])) _
    obtain ⟨_, _, ⟨T12, L12, k12, n12⟩, -, X12, ⟨Lc12, hQ12, l12, y12, z12⟩, st12⟩ := Jvm.LawKit.callS X11 hx (y := (⟨"jdk/internal/util/Preconditions", "checkIndex", "(IILjava/util/function/BiFunction;)I"⟩ : MethodName)) hown (mvT hZ (hw _ (List.mem_of_getElem? (i := 70) rfl))) (mvT hZ (hw _ (List.mem_of_getElem? (i := 71) rfl))) (mvT hZ (hw _ (List.mem_of_getElem? (i := 69) rfl))) (mvT hZ (hw _ (List.mem_of_getElem? (i := 72) rfl))) (by decide) (backOf (W := 0) (own_u_pci0 l Z a0 hW p1 p2 h0 n0 (by omega) O0 hp1 hp2) hZ (hw _ (List.mem_of_getElem? (i := 72) rfl)) (hw _ (List.mem_of_getElem? (i := 69) rfl)) (by decide) (by decide)) (g := (mkF m 5 #[vi p1, vi p2] [.null, (.int p2), (.int p1)])) rfl (by rw [hml]; rfl) (argsL := [(.int p1), (.int p2), .null]) (rest := []) (lenOf pd_1 rfl) rfl (by show 2 * 0 + _ ≤ _; exact Nat.le_of_eq rfl) (hb hby d_jdk_42_m_155_5) (fun _ _ => ⟨rfl, e11, (by decide : 0 + 0 ≤ 0), (by decide : 0 + 0 ≤ 0)⟩)
    dsimp only [Pt.U, Pt.locs, Pt.cells, Pt.slots] at X12 l12 y12 z12 st12 hQ12
    subst l12 y12 z12
    obtain ⟨rfl, Nq12, eh12⟩ := hQ12
    have N12 := Fr.app N0 Nq12
    refine own_go st12 ?_
    show own_Fin p e below (T12.setTop (mkF m 8 #[vi p1, vi p2] [(.int p1)])) _
    refine own_gs (cur' := T12.setTop (mkF m 9 #[vi p1, vi p2] [])) ?_ ?_
    · refine XS.pop X12.here hx rfl (hb hby d_jdk_42_m_155_8) rfl rfl ?_
      exact Steps.refl _
    obtain ⟨fs, hr, hrun, hended, hW1, hsame⟩ := X12.leave (v := none) (fun _ => rfl)
    refine ⟨_, _, X12.returnOut hx Bd.returns (hb hby d_jdk_42_m_155_9) hr, hrun, hended, _, _, rfl, ?_, ⟨_, rfl⟩, hW1, hsame.mono (by decide) (by decide)⟩
    show own_u_sci_Q Z p1 p2 h0 n0 none T12.heap _
    rw [eh12]
    exact ⟨rfl, N12, rfl⟩
  · show own_Fin p e below (T11.setTop (mkF m 5 #[vi p1, vi p2] [(.ref g3), (.int p2), (.int p1)])) _
    obtain ⟨_, _, ⟨T13, L13, k13, n13⟩, -, X13, ⟨Lc13, hQ13, l13, y13, z13⟩, st13⟩ := Jvm.LawKit.callS X11 hx (y := (⟨"jdk/internal/util/Preconditions", "checkIndex", "(IILjava/util/function/BiFunction;)I"⟩ : MethodName)) hown (mvT hZ (hw _ (List.mem_of_getElem? (i := 70) rfl))) (mvT hZ (hw _ (List.mem_of_getElem? (i := 71) rfl))) (mvT hZ (hw _ (List.mem_of_getElem? (i := 69) rfl))) (mvT hZ (hw _ (List.mem_of_getElem? (i := 72) rfl))) (by decide) (backOf (W := 0) (own_u_pci1 l Z a0 hW p1 p2 g3 h0 n0 (by omega) O0 hp1 hp2) hZ (hw _ (List.mem_of_getElem? (i := 72) rfl)) (hw _ (List.mem_of_getElem? (i := 69) rfl)) (by decide) (by decide)) (g := (mkF m 5 #[vi p1, vi p2] [(.ref g3), (.int p2), (.int p1)])) rfl (by rw [hml]; rfl) (argsL := [(.int p1), (.int p2), (.ref g3)]) (rest := []) (lenOf pd_1 rfl) rfl (by show 2 * 0 + _ ≤ _; exact Nat.le_of_eq rfl) (hb hby d_jdk_42_m_155_5) (fun _ _ => ⟨rfl, e11, (by decide : 0 + 0 ≤ 0), (by decide : 0 + 0 ≤ 0)⟩)
    dsimp only [Pt.U, Pt.locs, Pt.cells, Pt.slots] at X13 l13 y13 z13 st13 hQ13
    subst l13 y13 z13
    obtain ⟨rfl, Nq13, eh13⟩ := hQ13
    have N13 := Fr.app N0 Nq13
    refine own_go st13 ?_
    show own_Fin p e below (T13.setTop (mkF m 8 #[vi p1, vi p2] [(.int p1)])) _
    refine own_gs (cur' := T13.setTop (mkF m 9 #[vi p1, vi p2] [])) ?_ ?_
    · refine XS.pop X13.here hx rfl (hb hby d_jdk_42_m_155_8) rfl rfl ?_
      exact Steps.refl _
    obtain ⟨fs, hr, hrun, hended, hW1, hsame⟩ := X13.leave (v := none) (fun _ => rfl)
    refine ⟨_, _, X13.returnOut hx Bd.returns (hb hby d_jdk_42_m_155_9) hr, hrun, hended, _, _, rfl, ?_, ⟨_, rfl⟩, hW1, hsame.mono (by decide) (by decide)⟩
    show own_u_sci_Q Z p1 p2 h0 n0 none T13.heap _
    rw [eh13]
    exact ⟨rfl, N13, rfl⟩
def own_u_ci_Q (Z : State) (t1 : Nat) (k1 : ClassId) (n i : Nat) (vs : List Value) (h0 : Heap) (n0 : Nat) (v : Option Value) (h : Heap) (L : List Loc) : Prop := v = none ∧ Fr n0 L ∧ h = h0
theorem ef_own_u_ci (m : MethodId) (x0 : Int32) (x1 : Nat) : entryFrame m #[(.int x0), (.ref x1)] 2 = mkF m 0 #[vi x0, vr x1] [] := by first | (simp [entryFrame, mkF, argsToLocals, Value.category]; done) | rfl
theorem d_jdk_52_m_91_0 : decode jdk_52_method_91_code 0 = .ok (.iload_n 0, 1) := by decide +kernel
theorem d_jdk_52_m_91_1 : decode jdk_52_method_91_code 1 = .ok (.aload_n 1, 1) := by decide +kernel
theorem d_jdk_52_m_91_2 : decode jdk_52_method_91_code 2 = .ok (.invokestatic 48, 3) := by decide +kernel
theorem pd_2 : parseMethodDescriptor "([B)I" = some ⟨[(.array .byte)], some .int⟩ := by decide +kernel
theorem d_jdk_52_m_91_5 : decode jdk_52_method_91_code 5 = .ok (.invokestatic 414, 3) := by decide +kernel
theorem pd_3 : parseMethodDescriptor "(II)V" = some ⟨[.int, .int], none⟩ := by decide +kernel
theorem d_jdk_52_m_91_8 : decode jdk_52_method_91_code 8 = .ok (.return_, 1) := by decide +kernel
set_option maxRecDepth 65536 in
set_option maxHeartbeats 40000000 in
theorem own_u_ci (l : Launch) (Z : State) (a0 : Array Value) (hW : own_W Z a0) (t1 : Nat) (k1 : ClassId) (n i : Nat) (vs : List Value) (h0 : Heap) (n0 : Nat) (Z0 : n0 ≤ h0.size) (O0 : Old Z n0 h0) (hn : n ≤ 4000) (hi : i < n) (V1 : Arv Z h0 t1 k1 .byte (Int32.ofNat (2 * n)) vs (.int (0 : Int32))) :
    MetFree l (⟨"java/lang/StringUTF16", "checkIndex", "(I[B)V"⟩ : MethodName) (head1 (Jvm.Cond.code (⟨"java/lang/StringUTF16", "checkIndex", "(I[B)V"⟩ : MethodName) jdk_52_method_91_code 2 none :: []) ({ frames := 2, cells := 0, slots := 0, locals := 27 } : Room)) (fun a U => a = #[(.int (Int32.ofNat i)), (.ref t1)] ∧ Z.Warmed39 U.vm ∧ U.heap = h0) (fun _ _ _ _ _ => True) (fun _ U o U' => ∃ v L, o = .returned v ∧ own_u_ci_Q Z t1 k1 n i vs h0 n0 v U'.heap L ∧ FrameEnd U o U' L ({ frames := 2, cells := 0, slots := 0, locals := 27 } : Room).cells ({ frames := 2, cells := 0, slots := 0, locals := 27 } : Room).slots) := by
  refine MetFree.of_bodySF (plainFor_of_name pn_java_lang_StringUTF16) hisR ?_
  intro p e s m args below meth c s₁ Bd hml0 hP hK
  obtain ⟨rfl, hZ, hh⟩ := hP
  obtain ⟨hw, ⟨G1, O2, P5⟩, ⟨G3, O4, rG3⟩, Oa, Oh, Ol⟩ := id hW
  have hx := Bd.exec
  have hby := Bd.bytes
  have hml : c.maxLocals = 2 := hml0
  have hown : s.vm.findClass "java/lang/StringUTF16" = some m.cls := findClass_of_methodNamed Bd.named
  have hnm := (name_of_methodNamed Bd.named Bd.method).1
  have X0 : Stand p l e ({ frames := 2, cells := 0, slots := 0, locals := 27 } : Room) s m #[(.int (Int32.ofNat i)), (.ref t1)] below meth c s₁ [] 0 0 := Stand.of_body Bd
  have e0 : s₁.heap = h0 := by rw [← hh, Bd.state]; rfl
  have N0 := Fr.nil n0
  have K0 := Keep.refl h0 []
  have lt1 := own_lt V1.lt
  show own_Fin p e below (s₁.setTop (entryFrame m #[(.int (Int32.ofNat i)), (.ref t1)] 2)) _
  refine own_gs (castTop (ef_own_u_ci m (Int32.ofNat i) t1) (Steps.refl _)) ?_
  show own_Fin p e below (s₁.setTop (mkF m 0 #[vi (Int32.ofNat i), vr t1] [])) _
  refine own_gs (cur' := s₁.setTop (mkF m 2 #[vi (Int32.ofNat i), vr t1] [(.ref t1), (.int (Int32.ofNat i))])) ?_ ?_
  · refine XS.iloadN X0.here hx rfl (hb hby d_jdk_52_m_91_0) rfl ?_
    refine XS.aloadN X0.here hx rfl (hb hby d_jdk_52_m_91_1) rfl rfl ?_
    exact Steps.refl _
  obtain ⟨_, _, ⟨T11, L11, k11, n11⟩, -, X11, ⟨Lc11, hQ11, l11, y11, z11⟩, st11⟩ := Jvm.LawKit.callS X0 hx (y := (⟨"java/lang/StringUTF16", "length", "([B)I"⟩ : MethodName)) hown (mvT hZ (hw _ (List.mem_of_getElem? (i := 99) rfl))) (mvT hZ (hw _ (List.mem_of_getElem? (i := 100) rfl))) (mvT hZ (hw _ (List.mem_of_getElem? (i := 26) rfl))) (mvT hZ (hw _ (List.mem_of_getElem? (i := 101) rfl))) (by decide) (backOf (W := 1) (own_u_len l Z a0 hW t1 k1 n vs h0 n0 (by omega) O0 hn V1) hZ (hw _ (List.mem_of_getElem? (i := 101) rfl)) (hw _ (List.mem_of_getElem? (i := 26) rfl)) (by decide) (by decide)) (g := (mkF m 2 #[vi (Int32.ofNat i), vr t1] [(.ref t1), (.int (Int32.ofNat i))])) rfl (by rw [hml]; rfl) (argsL := [(.ref t1)]) (rest := [(.int (Int32.ofNat i))]) (lenOf pd_2 rfl) rfl (by show 2 * 0 + _ ≤ _; exact Nat.le_of_eq rfl) (hb hby d_jdk_52_m_91_2) (fun _ _ => ⟨rfl, e0, (by decide : 0 + 0 ≤ 0), (by decide : 0 + 0 ≤ 0)⟩)
  dsimp only [Pt.U, Pt.locs, Pt.cells, Pt.slots] at X11 l11 y11 z11 st11 hQ11
  subst l11 y11 z11
  obtain ⟨rfl, Nq11, eh11⟩ := hQ11
  have N11 := Fr.app N0 Nq11
  refine own_go st11 ?_
  show own_Fin p e below (T11.setTop (mkF m 5 #[vi (Int32.ofNat i), vr t1] [(.int (Int32.ofNat n)), (.int (Int32.ofNat i))])) _
  obtain ⟨_, _, ⟨T12, L12, k12, n12⟩, -, X12, ⟨Lc12, hQ12, l12, y12, z12⟩, st12⟩ := Jvm.LawKit.callS X11 hx (y := (⟨"java/lang/String", "checkIndex", "(II)V"⟩ : MethodName)) hown (mvT hZ (hw _ (List.mem_of_getElem? (i := 102) rfl))) (mvT hZ (hw _ (List.mem_of_getElem? (i := 66) rfl))) (mvT hZ (hw _ (List.mem_of_getElem? (i := 3) rfl))) (mvT hZ (hw _ (List.mem_of_getElem? (i := 67) rfl))) (by decide) (backOf (W := 0) (own_u_sci l Z a0 hW (Int32.ofNat i) (Int32.ofNat n) h0 n0 (by omega) O0 (own_in hi (by omega)).1 (own_in hi (by omega)).2) hZ (hw _ (List.mem_of_getElem? (i := 67) rfl)) (hw _ (List.mem_of_getElem? (i := 3) rfl)) (by decide) (by decide)) (g := (mkF m 5 #[vi (Int32.ofNat i), vr t1] [(.int (Int32.ofNat n)), (.int (Int32.ofNat i))])) rfl (by rw [hml]; rfl) (argsL := [(.int (Int32.ofNat i)), (.int (Int32.ofNat n))]) (rest := []) (lenOf pd_3 rfl) rfl (by show 2 * 0 + _ ≤ _; exact Nat.le_of_eq rfl) (hb hby d_jdk_52_m_91_5) (fun _ _ => ⟨rfl, eh11, (by decide : 0 + 0 ≤ 0), (by decide : 0 + 0 ≤ 0)⟩)
  dsimp only [Pt.U, Pt.locs, Pt.cells, Pt.slots] at X12 l12 y12 z12 st12 hQ12
  subst l12 y12 z12
  obtain ⟨rfl, Nq12, eh12⟩ := hQ12
  have N12 := Fr.app N11 Nq12
  refine own_go st12 ?_
  show own_Fin p e below (T12.setTop (mkF m 8 #[vi (Int32.ofNat i), vr t1] [])) _
  obtain ⟨fs, hr, hrun, hended, hW1, hsame⟩ := X12.leave (v := none) (fun _ => rfl)
  refine ⟨_, _, X12.returnOut hx Bd.returns (hb hby d_jdk_52_m_91_8) hr, hrun, hended, _, _, rfl, ?_, ⟨_, rfl⟩, hW1, hsame.mono (by decide) (by decide)⟩
  show own_u_ci_Q Z t1 k1 n i vs h0 n0 none T12.heap _
  rw [eh12]
  exact ⟨rfl, N12, rfl⟩
def own_u_getc_Q (Z : State) (t1 : Nat) (k1 : ClassId) (n i : Nat) (vs : List Value) (cu cv : Int32) (h0 : Heap) (n0 : Nat) (v : Option Value) (h : Heap) (L : List Loc) : Prop := v = (some (.int (StrChars.pairCh cu cv))) ∧ Fr n0 L ∧ h = h0
theorem ef_own_u_getc (m : MethodId) (x0 : Nat) (x1 : Int32) : entryFrame m #[(.ref x0), (.int x1)] 2 = mkF m 0 #[vr x0, vi x1] [] := by first | (simp [entryFrame, mkF, argsToLocals, Value.category]; done) | rfl
theorem d_jdk_52_m_5_0 : decode jdk_52_method_5_code 0 = .ok (.getstatic 44, 3) := by decide +kernel
theorem d_jdk_52_m_5_3 : decode jdk_52_method_5_code 3 = .ok (.ifCond .ne 25, 3) := by decide +kernel
theorem d_jdk_52_m_5_28 : decode jdk_52_method_5_code 28 = .ok (.iload_n 1, 1) := by decide +kernel
theorem d_jdk_52_m_5_29 : decode jdk_52_method_5_code 29 = .ok (.iconst 1, 1) := by decide +kernel
theorem d_jdk_52_m_5_30 : decode jdk_52_method_5_code 30 = .ok (.ishl, 1) := by decide +kernel
theorem d_jdk_52_m_5_31 : decode jdk_52_method_5_code 31 = .ok (.istore_n 1, 1) := by decide +kernel
theorem d_jdk_52_m_5_32 : decode jdk_52_method_5_code 32 = .ok (.aload_n 0, 1) := by decide +kernel
theorem d_jdk_52_m_5_33 : decode jdk_52_method_5_code 33 = .ok (.iload_n 1, 1) := by decide +kernel
theorem d_jdk_52_m_5_34 : decode jdk_52_method_5_code 34 = .ok (.iinc 1 1, 3) := by decide +kernel
theorem d_jdk_52_m_5_37 : decode jdk_52_method_5_code 37 = .ok (.baload, 1) := by decide +kernel
theorem d_jdk_52_m_5_38 : decode jdk_52_method_5_code 38 = .ok (.sipush 255, 3) := by decide +kernel
theorem d_jdk_52_m_5_41 : decode jdk_52_method_5_code 41 = .ok (.iand, 1) := by decide +kernel
theorem d_jdk_52_m_5_42 : decode jdk_52_method_5_code 42 = .ok (.getstatic 59, 3) := by decide +kernel
theorem d_jdk_52_m_5_45 : decode jdk_52_method_5_code 45 = .ok (.ishl, 1) := by decide +kernel
theorem d_jdk_52_m_5_46 : decode jdk_52_method_5_code 46 = .ok (.aload_n 0, 1) := by decide +kernel
theorem d_jdk_52_m_5_47 : decode jdk_52_method_5_code 47 = .ok (.iload_n 1, 1) := by decide +kernel
theorem d_jdk_52_m_5_48 : decode jdk_52_method_5_code 48 = .ok (.baload, 1) := by decide +kernel
theorem d_jdk_52_m_5_49 : decode jdk_52_method_5_code 49 = .ok (.sipush 255, 3) := by decide +kernel
theorem d_jdk_52_m_5_52 : decode jdk_52_method_5_code 52 = .ok (.iand, 1) := by decide +kernel
theorem d_jdk_52_m_5_53 : decode jdk_52_method_5_code 53 = .ok (.getstatic 63, 3) := by decide +kernel
theorem d_jdk_52_m_5_56 : decode jdk_52_method_5_code 56 = .ok (.ishl, 1) := by decide +kernel
theorem d_jdk_52_m_5_57 : decode jdk_52_method_5_code 57 = .ok (.ior, 1) := by decide +kernel
theorem d_jdk_52_m_5_58 : decode jdk_52_method_5_code 58 = .ok (.i2c, 1) := by decide +kernel
theorem d_jdk_52_m_5_59 : decode jdk_52_method_5_code 59 = .ok (.ireturn, 1) := by decide +kernel
set_option maxRecDepth 65536 in
set_option maxHeartbeats 40000000 in
theorem own_u_getc (l : Launch) (Z : State) (a0 : Array Value) (hW : own_W Z a0) (t1 : Nat) (k1 : ClassId) (n i : Nat) (vs : List Value) (cu cv : Int32) (h0 : Heap) (n0 : Nat) (Z0 : n0 ≤ h0.size) (O0 : Old Z n0 h0) (hn : n ≤ 4000) (hi : i < n) (V1 : Arv Z h0 t1 k1 .byte (Int32.ofNat (2 * n)) vs (.int (0 : Int32))) (hlo : vs.getD (2 * i) (.int (0 : Int32)) = .int cu) (hhi : vs.getD (2 * i + 1) (.int (0 : Int32)) = .int cv) :
    MetFree l (⟨"java/lang/StringUTF16", "getChar", "([BI)C"⟩ : MethodName) (head1 (Jvm.Cond.code (⟨"java/lang/StringUTF16", "getChar", "([BI)C"⟩ : MethodName) jdk_52_method_5_code 2 (some .char) :: []) ({ frames := 0, cells := 0, slots := 0, locals := 0 } : Room)) (fun a U => a = #[(.ref t1), (.int (Int32.ofNat i))] ∧ Z.Warmed39 U.vm ∧ U.heap = h0) (fun _ _ _ _ _ => True) (fun _ U o U' => ∃ v L, o = .returned v ∧ own_u_getc_Q Z t1 k1 n i vs cu cv h0 n0 v U'.heap L ∧ FrameEnd U o U' L ({ frames := 0, cells := 0, slots := 0, locals := 0 } : Room).cells ({ frames := 0, cells := 0, slots := 0, locals := 0 } : Room).slots) := by
  refine MetFree.of_bodySF (plainFor_of_name pn_java_lang_StringUTF16) hisR ?_
  intro p e s m args below meth c s₁ Bd hml0 hP hK
  obtain ⟨rfl, hZ, hh⟩ := hP
  obtain ⟨hw, ⟨G1, O2, P5⟩, ⟨G3, O4, rG3⟩, Oa, Oh, Ol⟩ := id hW
  have hx := Bd.exec
  have hby := Bd.bytes
  have hml : c.maxLocals = 2 := hml0
  have hown : s.vm.findClass "java/lang/StringUTF16" = some m.cls := findClass_of_methodNamed Bd.named
  have hnm := (name_of_methodNamed Bd.named Bd.method).1
  have X0 : Stand p l e ({ frames := 0, cells := 0, slots := 0, locals := 0 } : Room) s m #[(.ref t1), (.int (Int32.ofNat i))] below meth c s₁ [] 0 0 := Stand.of_body Bd
  have e0 : s₁.heap = h0 := by rw [← hh, Bd.state]; rfl
  have N0 := Fr.nil n0
  have K0 := Keep.refl h0 []
  have lt1 := own_lt V1.lt
  show own_Fin p e below (s₁.setTop (entryFrame m #[(.ref t1), (.int (Int32.ofNat i))] 2)) _
  refine own_gs (castTop (ef_own_u_getc m t1 (Int32.ofNat i)) (Steps.refl _)) ?_
  show own_Fin p e below (s₁.setTop (mkF m 0 #[vr t1, vi (Int32.ofNat i)] [])) _
  obtain ⟨T11, X11, e11, st11⟩ := getS2 X0 hx hZ hown (host := "") (Or.inl (hw _ (List.mem_of_getElem? (i := 87) rfl))) Via.refl e0 (Oa.ext O0.2) (g := (mkF m 0 #[vr t1, vi (Int32.ofNat i)] [])) rfl (hb hby d_jdk_52_m_5_0)
  refine own_go st11 ?_
  show own_Fin p e below (T11.setTop (mkF m 3 #[vr t1, vi (Int32.ofNat i)] [(.int (1 : Int32))])) _
  refine own_gs (cur' := T11.setTop (mkF m 31 #[vr t1, vi (Int32.ofNat i)] [(.int ((Int32.ofNat i) <<< ((1 : Int32) &&& 31)))])) ?_ ?_
  · refine XS.ifYes X11.here hx rfl (pc0 := 3) (pc' := 28) rfl (hb hby d_jdk_52_m_5_3) rfl ((if0 _ _).trans (feq ((by decide) : ¬ ((1 : Int32) = (0 : Int32)))).2) (by decide) (by decide) ?_
    refine XS.iloadN X11.here hx rfl (hb hby d_jdk_52_m_5_28) rfl ?_
    refine XS.iconst X11.here hx rfl (hb hby d_jdk_52_m_5_29) ?_
    show Steps p.tables e below (T11.setTop (mkF m 30 #[vr t1, vi (Int32.ofNat i)] [(.int (1 : Int32)), (.int (Int32.ofNat i))])) _
    refine XS.ishl X11.here hx rfl (hb hby d_jdk_52_m_5_30) rfl ?_
    exact Steps.refl _
  rw [own_shl1 (by omega)]
  show own_Fin p e below (T11.setTop (mkF m 31 #[vr t1, vi (Int32.ofNat i)] [(.int (Int32.ofNat (2 * i)))])) _
  refine own_gs (cur' := T11.setTop (mkF m 37 #[vr t1, vi ((Int32.ofNat (2 * i)) + (1 : Int32))] [(.int (Int32.ofNat (2 * i))), (.ref t1)])) ?_ ?_
  · refine XS.istoreN X11.here hx rfl (hb hby d_jdk_52_m_5_31) rfl (l' := #[vr t1, vi (Int32.ofNat (2 * i))]) rfl ?_
    refine XS.aloadN X11.here hx rfl (hb hby d_jdk_52_m_5_32) rfl rfl ?_
    refine XS.iloadN X11.here hx rfl (hb hby d_jdk_52_m_5_33) rfl ?_
    show Steps p.tables e below (T11.setTop (mkF m 34 #[vr t1, vi (Int32.ofNat (2 * i))] [(.int (Int32.ofNat (2 * i))), (.ref t1)])) _
    refine XS.iinc X11.here hx rfl (hb hby d_jdk_52_m_5_34) rfl (l' := #[vr t1, vi ((Int32.ofNat (2 * i)) + (1 : Int32))]) rfl ?_
    exact Steps.refl _
  rw [own_p1]
  show own_Fin p e below (T11.setTop (mkF m 37 #[vr t1, vi (Int32.ofNat (2 * i + 1))] [(.int (Int32.ofNat (2 * i))), (.ref t1)])) _
  obtain ⟨cl12, Ar12, q12, S12, M12, Hs12, G12⟩ := id V1
  have hin12 : ¬ ((Int32.ofNat (2 * i)) < 0 ∨ cl12.slots.size ≤ ((Int32.ofNat (2 * i))).toNatClampNeg) := inb_of S12 (own_in (by omega) (by omega))
  have hat12 : cl12.slots[((Int32.ofNat (2 * i))).toNatClampNeg]? = some (.int cu) := Has.at Hs12 hin12 (by rw [own_nat (by omega)]; exact hlo)
  refine own_go (X11.baloadBytes hx (j := (Int32.ofNat (2 * i))) (v := (.int cu)) (by rw [e11]; exact Ar12.1) (State.isArrayOf_alike hZ.alike Ar12.2.1) Ar12.2.2 hin12 hat12 (g := (mkF m 37 #[vr t1, vi (Int32.ofNat (2 * i + 1))] [(.int (Int32.ofNat (2 * i))), (.ref t1)])) rfl rfl (hb hby d_jdk_52_m_5_37)) ?_
  show own_Fin p e below (T11.setTop (mkF m 38 #[vr t1, vi (Int32.ofNat (2 * i + 1))] [(.int cu)])) _
  refine own_gs (cur' := T11.setTop (mkF m 42 #[vr t1, vi (Int32.ofNat (2 * i + 1))] [(.int (cu &&& (255 : Int32)))])) ?_ ?_
  · refine XS.sipush X11.here hx rfl (hb hby d_jdk_52_m_5_38) ?_
    refine XS.iand X11.here hx rfl (hb hby d_jdk_52_m_5_41) rfl ?_
    exact Steps.refl _
  obtain ⟨T13, X13, e13, st13⟩ := getS2 X11 hx hZ hown (host := "") (Or.inl (hw _ (List.mem_of_getElem? (i := 88) rfl))) Via.refl e11 (Oh.ext O0.2) (g := (mkF m 42 #[vr t1, vi (Int32.ofNat (2 * i + 1))] [(.int (cu &&& (255 : Int32)))])) rfl (hb hby d_jdk_52_m_5_42)
  refine own_go st13 ?_
  show own_Fin p e below (T13.setTop (mkF m 45 #[vr t1, vi (Int32.ofNat (2 * i + 1))] [(.int (0 : Int32)), (.int (cu &&& (255 : Int32)))])) _
  refine own_gs (cur' := T13.setTop (mkF m 48 #[vr t1, vi (Int32.ofNat (2 * i + 1))] [(.int (Int32.ofNat (2 * i + 1))), (.ref t1), (.int ((cu &&& (255 : Int32)) <<< ((0 : Int32) &&& 31)))])) ?_ ?_
  · refine XS.ishl X13.here hx rfl (hb hby d_jdk_52_m_5_45) rfl ?_
    refine XS.aloadN X13.here hx rfl (hb hby d_jdk_52_m_5_46) rfl rfl ?_
    refine XS.iloadN X13.here hx rfl (hb hby d_jdk_52_m_5_47) rfl ?_
    exact Steps.refl _
  obtain ⟨cl14, Ar14, q14, S14, M14, Hs14, G14⟩ := id V1
  have hin14 : ¬ ((Int32.ofNat (2 * i + 1)) < 0 ∨ cl14.slots.size ≤ ((Int32.ofNat (2 * i + 1))).toNatClampNeg) := inb_of S14 (own_in (by omega) (by omega))
  have hat14 : cl14.slots[((Int32.ofNat (2 * i + 1))).toNatClampNeg]? = some (.int cv) := Has.at Hs14 hin14 (by rw [own_nat (by omega)]; exact hhi)
  refine own_go (X13.baloadBytes hx (j := (Int32.ofNat (2 * i + 1))) (v := (.int cv)) (by rw [e13]; exact Ar14.1) (State.isArrayOf_alike hZ.alike Ar14.2.1) Ar14.2.2 hin14 hat14 (g := (mkF m 48 #[vr t1, vi (Int32.ofNat (2 * i + 1))] [(.int (Int32.ofNat (2 * i + 1))), (.ref t1), (.int ((cu &&& (255 : Int32)) <<< ((0 : Int32) &&& 31)))])) rfl rfl (hb hby d_jdk_52_m_5_48)) ?_
  show own_Fin p e below (T13.setTop (mkF m 49 #[vr t1, vi (Int32.ofNat (2 * i + 1))] [(.int cv), (.int ((cu &&& (255 : Int32)) <<< ((0 : Int32) &&& 31)))])) _
  refine own_gs (cur' := T13.setTop (mkF m 53 #[vr t1, vi (Int32.ofNat (2 * i + 1))] [(.int (cv &&& (255 : Int32))), (.int ((cu &&& (255 : Int32)) <<< ((0 : Int32) &&& 31)))])) ?_ ?_
  · refine XS.sipush X13.here hx rfl (hb hby d_jdk_52_m_5_49) ?_
    refine XS.iand X13.here hx rfl (hb hby d_jdk_52_m_5_52) rfl ?_
    exact Steps.refl _
  obtain ⟨T15, X15, e15, st15⟩ := getS2 X13 hx hZ hown (host := "") (Or.inl (hw _ (List.mem_of_getElem? (i := 89) rfl))) Via.refl e13 (Ol.ext O0.2) (g := (mkF m 53 #[vr t1, vi (Int32.ofNat (2 * i + 1))] [(.int (cv &&& (255 : Int32))), (.int ((cu &&& (255 : Int32)) <<< ((0 : Int32) &&& 31)))])) rfl (hb hby d_jdk_52_m_5_53)
  refine own_go st15 ?_
  show own_Fin p e below (T15.setTop (mkF m 56 #[vr t1, vi (Int32.ofNat (2 * i + 1))] [(.int (8 : Int32)), (.int (cv &&& (255 : Int32))), (.int ((cu &&& (255 : Int32)) <<< ((0 : Int32) &&& 31)))])) _
  refine own_gs (cur' := T15.setTop (mkF m 59 #[vr t1, vi (Int32.ofNat (2 * i + 1))] [(.int ((((cu &&& (255 : Int32)) <<< ((0 : Int32) &&& 31)) ||| ((cv &&& (255 : Int32)) <<< ((8 : Int32) &&& 31))).toUInt32.toUInt16.toUInt32.toInt32))])) ?_ ?_
  · refine XS.ishl X15.here hx rfl (hb hby d_jdk_52_m_5_56) rfl ?_
    refine XS.ior X15.here hx rfl (hb hby d_jdk_52_m_5_57) rfl ?_
    refine XS.i2c X15.here hx rfl (hb hby d_jdk_52_m_5_58) rfl ?_
    exact Steps.refl _
  obtain ⟨fs, hr, hrun, hended, hW1, hsame⟩ := X15.leave (v := (some (.int (nar .char ((((cu &&& (255 : Int32)) <<< ((0 : Int32) &&& 31)) ||| ((cv &&& (255 : Int32)) <<< ((8 : Int32) &&& 31))).toUInt32.toUInt16.toUInt32.toInt32))))) (fun h => by rw [Bd.returns] at h; cases h)
  refine ⟨_, _, retN X15 hx (t := .char) Bd.returns (by simp) (hb hby d_jdk_52_m_5_59) hr, hrun, hended, _, _, rfl, ?_, ⟨_, rfl⟩, hW1, hsame.mono (by decide) (by decide)⟩
  show own_u_getc_Q Z t1 k1 n i vs cu cv h0 n0 (some (.int (nar .char ((((cu &&& (255 : Int32)) <<< ((0 : Int32) &&& 31)) ||| ((cv &&& (255 : Int32)) <<< ((8 : Int32) &&& 31))).toUInt32.toUInt16.toUInt32.toInt32)))) T15.heap _
  rw [e15]
  exact ⟨congrArg (fun z => some (Value.int z)) (own_nar2 _), N0, rfl⟩
def own_u_ch_Q (Z : State) (t1 : Nat) (k1 : ClassId) (n i : Nat) (vs : List Value) (cu cv : Int32) (h0 : Heap) (n0 : Nat) (v : Option Value) (h : Heap) (L : List Loc) : Prop := v = (some (.int (StrChars.pairCh cu cv))) ∧ Fr n0 L ∧ h = h0
theorem ef_own_u_ch (m : MethodId) (x0 : Nat) (x1 : Int32) : entryFrame m #[(.ref x0), (.int x1)] 2 = mkF m 0 #[vr x0, vi x1] [] := by first | (simp [entryFrame, mkF, argsToLocals, Value.category]; done) | rfl
theorem d_jdk_52_m_83_0 : decode jdk_52_method_83_code 0 = .ok (.iload_n 1, 1) := by decide +kernel
theorem d_jdk_52_m_83_1 : decode jdk_52_method_83_code 1 = .ok (.aload_n 0, 1) := by decide +kernel
theorem d_jdk_52_m_83_2 : decode jdk_52_method_83_code 2 = .ok (.invokestatic 67, 3) := by decide +kernel
theorem pd_4 : parseMethodDescriptor "(I[B)V" = some ⟨[.int, (.array .byte)], none⟩ := by decide +kernel
theorem d_jdk_52_m_83_5 : decode jdk_52_method_83_code 5 = .ok (.aload_n 0, 1) := by decide +kernel
theorem d_jdk_52_m_83_6 : decode jdk_52_method_83_code 6 = .ok (.iload_n 1, 1) := by decide +kernel
theorem d_jdk_52_m_83_7 : decode jdk_52_method_83_code 7 = .ok (.invokestatic 71, 3) := by decide +kernel
theorem pd_5 : parseMethodDescriptor "([BI)C" = some ⟨[(.array .byte), .int], some .char⟩ := by decide +kernel
theorem d_jdk_52_m_83_10 : decode jdk_52_method_83_code 10 = .ok (.ireturn, 1) := by decide +kernel
set_option maxRecDepth 65536 in
set_option maxHeartbeats 40000000 in
theorem own_u_ch (l : Launch) (Z : State) (a0 : Array Value) (hW : own_W Z a0) (t1 : Nat) (k1 : ClassId) (n i : Nat) (vs : List Value) (cu cv : Int32) (h0 : Heap) (n0 : Nat) (Z0 : n0 ≤ h0.size) (O0 : Old Z n0 h0) (hn : n ≤ 4000) (hi : i < n) (V1 : Arv Z h0 t1 k1 .byte (Int32.ofNat (2 * n)) vs (.int (0 : Int32))) (hlo : vs.getD (2 * i) (.int (0 : Int32)) = .int cu) (hhi : vs.getD (2 * i + 1) (.int (0 : Int32)) = .int cv) :
    MetFree l (⟨"java/lang/StringUTF16", "charAt", "([BI)C"⟩ : MethodName) (head1 (Jvm.Cond.code (⟨"java/lang/StringUTF16", "charAt", "([BI)C"⟩ : MethodName) jdk_52_method_83_code 2 (some .char) :: []) ({ frames := 3, cells := 0, slots := 0, locals := 40 } : Room)) (fun a U => a = #[(.ref t1), (.int (Int32.ofNat i))] ∧ Z.Warmed39 U.vm ∧ U.heap = h0) (fun _ _ _ _ _ => True) (fun _ U o U' => ∃ v L, o = .returned v ∧ own_u_ch_Q Z t1 k1 n i vs cu cv h0 n0 v U'.heap L ∧ FrameEnd U o U' L ({ frames := 3, cells := 0, slots := 0, locals := 40 } : Room).cells ({ frames := 3, cells := 0, slots := 0, locals := 40 } : Room).slots) := by
  refine MetFree.of_bodySF (plainFor_of_name pn_java_lang_StringUTF16) hisR ?_
  intro p e s m args below meth c s₁ Bd hml0 hP hK
  obtain ⟨rfl, hZ, hh⟩ := hP
  obtain ⟨hw, ⟨G1, O2, P5⟩, ⟨G3, O4, rG3⟩, Oa, Oh, Ol⟩ := id hW
  have hx := Bd.exec
  have hby := Bd.bytes
  have hml : c.maxLocals = 2 := hml0
  have hown : s.vm.findClass "java/lang/StringUTF16" = some m.cls := findClass_of_methodNamed Bd.named
  have hnm := (name_of_methodNamed Bd.named Bd.method).1
  have X0 : Stand p l e ({ frames := 3, cells := 0, slots := 0, locals := 40 } : Room) s m #[(.ref t1), (.int (Int32.ofNat i))] below meth c s₁ [] 0 0 := Stand.of_body Bd
  have e0 : s₁.heap = h0 := by rw [← hh, Bd.state]; rfl
  have N0 := Fr.nil n0
  have K0 := Keep.refl h0 []
  have lt1 := own_lt V1.lt
  show own_Fin p e below (s₁.setTop (entryFrame m #[(.ref t1), (.int (Int32.ofNat i))] 2)) _
  refine own_gs (castTop (ef_own_u_ch m t1 (Int32.ofNat i)) (Steps.refl _)) ?_
  show own_Fin p e below (s₁.setTop (mkF m 0 #[vr t1, vi (Int32.ofNat i)] [])) _
  refine own_gs (cur' := s₁.setTop (mkF m 2 #[vr t1, vi (Int32.ofNat i)] [(.ref t1), (.int (Int32.ofNat i))])) ?_ ?_
  · refine XS.iloadN X0.here hx rfl (hb hby d_jdk_52_m_83_0) rfl ?_
    refine XS.aloadN X0.here hx rfl (hb hby d_jdk_52_m_83_1) rfl rfl ?_
    exact Steps.refl _
  obtain ⟨_, _, ⟨T11, L11, k11, n11⟩, -, X11, ⟨Lc11, hQ11, l11, y11, z11⟩, st11⟩ := Jvm.LawKit.callS X0 hx (y := (⟨"java/lang/StringUTF16", "checkIndex", "(I[B)V"⟩ : MethodName)) hown (mvT hZ (hw _ (List.mem_of_getElem? (i := 96) rfl))) (mvT hZ (hw _ (List.mem_of_getElem? (i := 97) rfl))) (mvT hZ (hw _ (List.mem_of_getElem? (i := 26) rfl))) (mvT hZ (hw _ (List.mem_of_getElem? (i := 98) rfl))) (by decide) (backOf (W := 0) (own_u_ci l Z a0 hW t1 k1 n i vs h0 n0 (by omega) O0 hn hi V1) hZ (hw _ (List.mem_of_getElem? (i := 98) rfl)) (hw _ (List.mem_of_getElem? (i := 26) rfl)) (by decide) (by decide)) (g := (mkF m 2 #[vr t1, vi (Int32.ofNat i)] [(.ref t1), (.int (Int32.ofNat i))])) rfl (by rw [hml]; rfl) (argsL := [(.int (Int32.ofNat i)), (.ref t1)]) (rest := []) (lenOf pd_4 rfl) rfl (by show 2 * 0 + _ ≤ _; exact Nat.le_of_eq rfl) (hb hby d_jdk_52_m_83_2) (fun _ _ => ⟨rfl, e0, (by decide : 0 + 0 ≤ 0), (by decide : 0 + 0 ≤ 0)⟩)
  dsimp only [Pt.U, Pt.locs, Pt.cells, Pt.slots] at X11 l11 y11 z11 st11 hQ11
  subst l11 y11 z11
  obtain ⟨rfl, Nq11, eh11⟩ := hQ11
  have N11 := Fr.app N0 Nq11
  refine own_go st11 ?_
  show own_Fin p e below (T11.setTop (mkF m 5 #[vr t1, vi (Int32.ofNat i)] [])) _
  refine own_gs (cur' := T11.setTop (mkF m 7 #[vr t1, vi (Int32.ofNat i)] [(.int (Int32.ofNat i)), (.ref t1)])) ?_ ?_
  · refine XS.aloadN X11.here hx rfl (hb hby d_jdk_52_m_83_5) rfl rfl ?_
    refine XS.iloadN X11.here hx rfl (hb hby d_jdk_52_m_83_6) rfl ?_
    exact Steps.refl _
  obtain ⟨_, _, ⟨T12, L12, k12, n12⟩, -, X12, ⟨Lc12, hQ12, l12, y12, z12⟩, st12⟩ := Jvm.LawKit.callS X11 hx (y := (⟨"java/lang/StringUTF16", "getChar", "([BI)C"⟩ : MethodName)) hown (mvT hZ (hw _ (List.mem_of_getElem? (i := 90) rfl))) (mvT hZ (hw _ (List.mem_of_getElem? (i := 91) rfl))) (mvT hZ (hw _ (List.mem_of_getElem? (i := 26) rfl))) (mvT hZ (hw _ (List.mem_of_getElem? (i := 92) rfl))) (by decide) (backOf (W := 0) (own_u_getc l Z a0 hW t1 k1 n i vs cu cv h0 n0 (by omega) O0 hn hi V1 hlo hhi) hZ (hw _ (List.mem_of_getElem? (i := 92) rfl)) (hw _ (List.mem_of_getElem? (i := 26) rfl)) (by decide) (by decide)) (g := (mkF m 7 #[vr t1, vi (Int32.ofNat i)] [(.int (Int32.ofNat i)), (.ref t1)])) rfl (by rw [hml]; rfl) (argsL := [(.ref t1), (.int (Int32.ofNat i))]) (rest := []) (lenOf pd_5 rfl) rfl (by show 2 * 0 + _ ≤ _; exact Nat.le_of_eq rfl) (hb hby d_jdk_52_m_83_7) (fun _ _ => ⟨rfl, eh11, (by decide : 0 + 0 ≤ 0), (by decide : 0 + 0 ≤ 0)⟩)
  dsimp only [Pt.U, Pt.locs, Pt.cells, Pt.slots] at X12 l12 y12 z12 st12 hQ12
  subst l12 y12 z12
  obtain ⟨rfl, Nq12, eh12⟩ := hQ12
  have N12 := Fr.app N11 Nq12
  refine own_go st12 ?_
  show own_Fin p e below (T12.setTop (mkF m 10 #[vr t1, vi (Int32.ofNat i)] [(.int (StrChars.pairCh cu cv))])) _
  obtain ⟨fs, hr, hrun, hended, hW1, hsame⟩ := X12.leave (v := (some (.int (nar .char (StrChars.pairCh cu cv))))) (fun h => by rw [Bd.returns] at h; cases h)
  refine ⟨_, _, retN X12 hx (t := .char) Bd.returns (by simp) (hb hby d_jdk_52_m_83_10) hr, hrun, hended, _, _, rfl, ?_, ⟨_, rfl⟩, hW1, hsame.mono (by decide) (by decide)⟩
  show own_u_ch_Q Z t1 k1 n i vs cu cv h0 n0 (some (.int (nar .char (StrChars.pairCh cu cv)))) T12.heap _
  rw [eh12]
  exact ⟨congrArg (fun z => some (Value.int z)) (own_nar2 _), N12, rfl⟩
def own_u_isl_Q (Z : State) (x1 : Nat) (h0 : Heap) (n0 : Nat) (v : Option Value) (h : Heap) (L : List Loc) : Prop := v = (some (.int (0 : Int32))) ∧ Fr n0 L ∧ h = h0
theorem ef_own_u_isl (m : MethodId) (x0 : Nat) : entryFrame m #[(.ref x0)] 1 = mkF m 0 #[vr x0] [] := by first | (simp [entryFrame, mkF, argsToLocals, Value.category]; done) | rfl
theorem d_jdk_42_m_154_0 : decode jdk_42_method_154_code 0 = .ok (.getstatic 38, 3) := by decide +kernel
theorem d_jdk_42_m_154_3 : decode jdk_42_method_154_code 3 = .ok (.ifCond .eq 14, 3) := by decide +kernel
theorem d_jdk_42_m_154_6 : decode jdk_42_method_154_code 6 = .ok (.aload_n 0, 1) := by decide +kernel
theorem d_jdk_42_m_154_7 : decode jdk_42_method_154_code 7 = .ok (.getfield 15, 3) := by decide +kernel
theorem d_jdk_42_m_154_10 : decode jdk_42_method_154_code 10 = .ok (.ifCond .ne 7, 3) := by decide +kernel
theorem d_jdk_42_m_154_17 : decode jdk_42_method_154_code 17 = .ok (.iconst 0, 1) := by decide +kernel
theorem d_jdk_42_m_154_18 : decode jdk_42_method_154_code 18 = .ok (.ireturn, 1) := by decide +kernel
set_option maxRecDepth 65536 in
set_option maxHeartbeats 40000000 in
theorem own_u_isl (l : Launch) (Z : State) (a0 : Array Value) (hW : own_W Z a0) (x1 : Nat) (h0 : Heap) (n0 : Nat) (Z0 : n0 ≤ h0.size) (O0 : Old Z n0 h0) (Fc1 : Fld Z h0 x1 "java/lang/String" "coder" "B" (.int (1 : Int32))) :
    MetFree l (⟨"java/lang/String", "isLatin1", "()Z"⟩ : MethodName) (head1 (Jvm.Cond.code (⟨"java/lang/String", "isLatin1", "()Z"⟩ : MethodName) jdk_42_method_154_code 1 (some .boolean) :: []) ({ frames := 0, cells := 0, slots := 0, locals := 0 } : Room)) (fun a U => a = #[(.ref x1)] ∧ Z.Warmed39 U.vm ∧ U.heap = h0) (fun _ _ _ _ _ => True) (fun _ U o U' => ∃ v L, o = .returned v ∧ own_u_isl_Q Z x1 h0 n0 v U'.heap L ∧ FrameEnd U o U' L ({ frames := 0, cells := 0, slots := 0, locals := 0 } : Room).cells ({ frames := 0, cells := 0, slots := 0, locals := 0 } : Room).slots) := by
  refine MetFree.of_bodySF (plainFor_of_name pn_java_lang_String) hisR ?_
  intro p e s m args below meth c s₁ Bd hml0 hP hK
  obtain ⟨rfl, hZ, hh⟩ := hP
  obtain ⟨hw, ⟨G1, O2, P5⟩, ⟨G3, O4, rG3⟩, Oa, Oh, Ol⟩ := id hW
  have hx := Bd.exec
  have hby := Bd.bytes
  have hml : c.maxLocals = 1 := hml0
  have hown : s.vm.findClass "java/lang/String" = some m.cls := findClass_of_methodNamed Bd.named
  have hnm := (name_of_methodNamed Bd.named Bd.method).1
  have X0 : Stand p l e ({ frames := 0, cells := 0, slots := 0, locals := 0 } : Room) s m #[(.ref x1)] below meth c s₁ [] 0 0 := Stand.of_body Bd
  have e0 : s₁.heap = h0 := by rw [← hh, Bd.state]; rfl
  have N0 := Fr.nil n0
  have K0 := Keep.refl h0 []
  show own_Fin p e below (s₁.setTop (entryFrame m #[(.ref x1)] 1)) _
  refine own_gs (castTop (ef_own_u_isl m x1) (Steps.refl _)) ?_
  show own_Fin p e below (s₁.setTop (mkF m 0 #[vr x1] [])) _
  obtain ⟨T11, X11, e11, st11⟩ := getS2 X0 hx hZ hown (host := "") (Or.inl (hw _ (List.mem_of_getElem? (i := 23) rfl))) Via.refl e0 (O2.ext O0.2) (g := (mkF m 0 #[vr x1] [])) rfl (hb hby d_jdk_42_m_154_0)
  refine own_go st11 ?_
  show own_Fin p e below (T11.setTop (mkF m 3 #[vr x1] [(.int G1)])) _
  refine own_gs (cur' := T11.setTop (mkF m 7 #[vr x1] [(.ref x1)])) ?_ ?_
  · refine XS.ifNo X11.here hx rfl (hb hby d_jdk_42_m_154_3) rfl ((if0 _ _).trans (feq (P5 : ¬ (G1 = (0 : Int32)))).1) ?_
    refine XS.aloadN X11.here hx rfl (hb hby d_jdk_42_m_154_6) rfl rfl ?_
    exact Steps.refl _
  obtain ⟨T12, X12, e12, st12⟩ := getF X11 hx hZ hown (host := "") (Or.inl (hw _ (List.mem_of_getElem? (i := 22) rfl))) Via.refl e11 Fc1 (g := (mkF m 7 #[vr x1] [(.ref x1)])) rfl rfl (hb hby d_jdk_42_m_154_7)
  refine own_go st12 ?_
  show own_Fin p e below (T12.setTop (mkF m 10 #[vr x1] [(.int (1 : Int32))])) _
  refine own_gs (cur' := T12.setTop (mkF m 18 #[vr x1] [(.int (0 : Int32))])) ?_ ?_
  · refine XS.ifYes X12.here hx rfl (pc0 := 10) (pc' := 17) rfl (hb hby d_jdk_42_m_154_10) rfl ((if0 _ _).trans (feq ((by decide) : ¬ ((1 : Int32) = (0 : Int32)))).2) (by decide) (by decide) ?_
    refine XS.iconst X12.here hx rfl (hb hby d_jdk_42_m_154_17) ?_
    exact Steps.refl _
  obtain ⟨fs, hr, hrun, hended, hW1, hsame⟩ := X12.leave (v := (some (.int (0 : Int32)))) (fun h => by rw [Bd.returns] at h; cases h)
  refine ⟨_, _, retN X12 hx (t := .boolean) Bd.returns (by simp) (hb hby d_jdk_42_m_154_18) hr, hrun, hended, _, _, rfl, ?_, ⟨_, rfl⟩, hW1, hsame.mono (by decide) (by decide)⟩
  show own_u_isl_Q Z x1 h0 n0 (some (.int (0 : Int32))) T12.heap _
  rw [e12]
  exact ⟨rfl, N0, rfl⟩
def own_u_sch_Q (Z : State) (x1 t1 : Nat) (k1 : ClassId) (i : Nat) (cs : List Int32) (h0 : Heap) (n0 : Nat) (v : Option Value) (h : Heap) (L : List Loc) : Prop := v = (some (.int (cs.getD i 0))) ∧ Fr n0 L ∧ h = h0
theorem ef_own_u_sch (m : MethodId) (x0 : Nat) (x1 : Int32) : entryFrame m #[(.ref x0), (.int x1)] 2 = mkF m 0 #[vr x0, vi x1] [] := by first | (simp [entryFrame, mkF, argsToLocals, Value.category]; done) | rfl
theorem d_jdk_42_m_56_0 : decode jdk_42_method_56_code 0 = .ok (.aload_n 0, 1) := by decide +kernel
theorem d_jdk_42_m_56_1 : decode jdk_42_method_56_code 1 = .ok (.invokevirtual 492, 3) := by decide +kernel
theorem pd_6 : parseMethodDescriptor "()Z" = some ⟨[], some .boolean⟩ := by decide +kernel
theorem d_jdk_42_m_56_4 : decode jdk_42_method_56_code 4 = .ok (.ifCond .eq 12, 3) := by decide +kernel
theorem d_jdk_42_m_56_16 : decode jdk_42_method_56_code 16 = .ok (.aload_n 0, 1) := by decide +kernel
theorem d_jdk_42_m_56_17 : decode jdk_42_method_56_code 17 = .ok (.getfield 9, 3) := by decide +kernel
theorem d_jdk_42_m_56_20 : decode jdk_42_method_56_code 20 = .ok (.iload_n 1, 1) := by decide +kernel
theorem d_jdk_42_m_56_21 : decode jdk_42_method_56_code 21 = .ok (.invokestatic 498, 3) := by decide +kernel
theorem d_jdk_42_m_56_24 : decode jdk_42_method_56_code 24 = .ok (.ireturn, 1) := by decide +kernel
set_option maxRecDepth 65536 in
set_option maxHeartbeats 40000000 in
theorem own_u_sch (l : Launch) (Z : State) (a0 : Array Value) (hW : own_W Z a0) (x1 t1 : Nat) (k1 : ClassId) (i : Nat) (cs : List Int32) (h0 : Heap) (n0 : Nat) (Z0 : n0 ≤ h0.size) (O0 : Old Z n0 h0) (hn : cs.length ≤ 4000) (hi : i < cs.length) (E1 : Exa Z h0 x1 "java/lang/String") (Fv1 : Fld Z h0 x1 "java/lang/String" "value" "[B" (.ref t1)) (Fc1 : Fld Z h0 x1 "java/lang/String" "coder" "B" (.int (1 : Int32))) (V1 : Arv Z h0 t1 k1 .byte (Int32.ofNat (2 * cs.length)) (StrChars.Road.wideBytes cs) (.int (0 : Int32))) (hb1 : ∀ c ∈ cs, ¬ c < 0 ∧ ¬ (65535 : Int32) < c) :
    MetFree l (⟨"java/lang/String", "charAt", "(I)C"⟩ : MethodName) (head1 (Jvm.Cond.code (⟨"java/lang/String", "charAt", "(I)C"⟩ : MethodName) jdk_42_method_56_code 2 (some .char) :: []) ({ frames := 4, cells := 0, slots := 0, locals := 53 } : Room)) (fun a U => a = #[(.ref x1), (.int (Int32.ofNat i))] ∧ Z.Warmed39 U.vm ∧ U.heap = h0) (fun _ _ _ _ _ => True) (fun _ U o U' => ∃ v L, o = .returned v ∧ own_u_sch_Q Z x1 t1 k1 i cs h0 n0 v U'.heap L ∧ FrameEnd U o U' L ({ frames := 4, cells := 0, slots := 0, locals := 53 } : Room).cells ({ frames := 4, cells := 0, slots := 0, locals := 53 } : Room).slots) := by
  refine MetFree.of_bodySF (plainFor_of_name pn_java_lang_String) hisR ?_
  intro p e s m args below meth c s₁ Bd hml0 hP hK
  obtain ⟨rfl, hZ, hh⟩ := hP
  obtain ⟨hw, ⟨G1, O2, P5⟩, ⟨G3, O4, rG3⟩, Oa, Oh, Ol⟩ := id hW
  have hx := Bd.exec
  have hby := Bd.bytes
  have hml : c.maxLocals = 2 := hml0
  have hown : s.vm.findClass "java/lang/String" = some m.cls := findClass_of_methodNamed Bd.named
  have hnm := (name_of_methodNamed Bd.named Bd.method).1
  have X0 : Stand p l e ({ frames := 4, cells := 0, slots := 0, locals := 53 } : Room) s m #[(.ref x1), (.int (Int32.ofNat i))] below meth c s₁ [] 0 0 := Stand.of_body Bd
  have e0 : s₁.heap = h0 := by rw [← hh, Bd.state]; rfl
  have N0 := Fr.nil n0
  have K0 := Keep.refl h0 []
  have lt1 := own_lt V1.lt
  have hcb : ¬ cs.getD i 0 < 0 ∧ ¬ (65535 : Int32) < cs.getD i 0 := by
    have e : cs.getD i 0 = cs[i] := by simp [List.getD_eq_getElem?_getD, hi]
    rw [e]; exact hb1 _ (List.getElem_mem _)
  show own_Fin p e below (s₁.setTop (entryFrame m #[(.ref x1), (.int (Int32.ofNat i))] 2)) _
  refine own_gs (castTop (ef_own_u_sch m x1 (Int32.ofNat i)) (Steps.refl _)) ?_
  show own_Fin p e below (s₁.setTop (mkF m 0 #[vr x1, vi (Int32.ofNat i)] [])) _
  refine own_gs (cur' := s₁.setTop (mkF m 1 #[vr x1, vi (Int32.ofNat i)] [(.ref x1)])) ?_ ?_
  · refine XS.aloadN X0.here hx rfl (hb hby d_jdk_42_m_56_0) rfl rfl ?_
    exact Steps.refl _
  obtain ⟨cq11, kq11, q11a, q11b, q11c⟩ := isOf hZ e0 E1
  obtain ⟨_, _, ⟨T11, L11, k11, n11⟩, -, X11, ⟨Lc11, hQ11, l11, y11, z11⟩, st11⟩ := X0.virtualBack hx (y := (⟨"java/lang/String", "isLatin1", "()Z"⟩ : MethodName)) (z := (⟨"java/lang/String", "isLatin1", "()Z"⟩ : MethodName)) hown (mvT hZ (hw _ (List.mem_of_getElem? (i := 56) rfl))) (mvT hZ (hw _ (List.mem_of_getElem? (i := 57) rfl))) (notFace_of_selects (args := #[]) (mvT hZ (hw _ (List.mem_of_getElem? (i := 59) rfl)))) (mvT hZ (hw _ (List.mem_of_getElem? (i := 59) rfl))) (mvT hZ (hw _ (List.mem_of_getElem? (i := 58) rfl))) (by decide) (backOf (W := 0) (own_u_isl l Z a0 hW x1 h0 n0 (by omega) O0 Fc1) hZ (hw _ (List.mem_of_getElem? (i := 60) rfl)) (hw _ (List.mem_of_getElem? (i := 3) rfl)) (by decide) (by decide)) q11a q11c (g := (mkF m 1 #[vr x1, vi (Int32.ofNat i)] [(.ref x1)])) rfl (by rw [hml]; rfl) (Steps.refl _) (argsL := []) (rest := []) (lenOf pd_6 rfl) rfl (by show 2 * 0 + _ ≤ _; exact Nat.le_of_eq rfl) (hb hby d_jdk_42_m_56_1) (fun _ _ => ⟨rfl, e0, (by decide : 0 + 0 ≤ 0), (by decide : 0 + 0 ≤ 0)⟩)
  dsimp only [Pt.U, Pt.locs, Pt.cells, Pt.slots] at X11 l11 y11 z11 st11 hQ11
  subst l11 y11 z11
  obtain ⟨rfl, Nq11, eh11⟩ := hQ11
  have N11 := Fr.app N0 Nq11
  refine own_gs st11 ?_
  show own_Fin p e below (T11.setTop (mkF m 4 #[vr x1, vi (Int32.ofNat i)] [(.int (0 : Int32))])) _
  refine own_gs (cur' := T11.setTop (mkF m 17 #[vr x1, vi (Int32.ofNat i)] [(.ref x1)])) ?_ ?_
  · refine XS.ifYes X11.here hx rfl (pc0 := 4) (pc' := 16) rfl (hb hby d_jdk_42_m_56_4) rfl ((if0 _ _).trans (teq ((by decide) : (0 : Int32) = (0 : Int32))).1) (by decide) (by decide) ?_
    refine XS.aloadN X11.here hx rfl (hb hby d_jdk_42_m_56_16) rfl rfl ?_
    exact Steps.refl _
  obtain ⟨T12, X12, e12, st12⟩ := getF X11 hx hZ hown (host := "") (Or.inl (hw _ (List.mem_of_getElem? (i := 21) rfl))) Via.refl eh11 Fv1 (g := (mkF m 17 #[vr x1, vi (Int32.ofNat i)] [(.ref x1)])) rfl rfl (hb hby d_jdk_42_m_56_17)
  refine own_go st12 ?_
  show own_Fin p e below (T12.setTop (mkF m 20 #[vr x1, vi (Int32.ofNat i)] [(.ref t1)])) _
  refine own_gs (cur' := T12.setTop (mkF m 21 #[vr x1, vi (Int32.ofNat i)] [(.int (Int32.ofNat i)), (.ref t1)])) ?_ ?_
  · refine XS.iloadN X12.here hx rfl (hb hby d_jdk_42_m_56_20) rfl ?_
    exact Steps.refl _
  obtain ⟨_, _, ⟨T13, L13, k13, n13⟩, -, X13, ⟨Lc13, hQ13, l13, y13, z13⟩, st13⟩ := Jvm.LawKit.callS X12 hx (y := (⟨"java/lang/StringUTF16", "charAt", "([BI)C"⟩ : MethodName)) hown (mvT hZ (hw _ (List.mem_of_getElem? (i := 93) rfl))) (mvT hZ (hw _ (List.mem_of_getElem? (i := 94) rfl))) (mvT hZ (hw _ (List.mem_of_getElem? (i := 26) rfl))) (mvT hZ (hw _ (List.mem_of_getElem? (i := 95) rfl))) (by decide) (backOf (W := 0) (own_u_ch l Z a0 hW t1 k1 cs.length i (StrChars.Road.wideBytes cs) (StrChars.lo8 (cs.getD i 0)) (StrChars.hi8 (cs.getD i 0)) h0 n0 (by omega) O0 hn hi V1 (StrChars.Road.wide_lo _ _ _ hi) (StrChars.Road.wide_hi _ _ _ hi)) hZ (hw _ (List.mem_of_getElem? (i := 95) rfl)) (hw _ (List.mem_of_getElem? (i := 26) rfl)) (by decide) (by decide)) (g := (mkF m 21 #[vr x1, vi (Int32.ofNat i)] [(.int (Int32.ofNat i)), (.ref t1)])) rfl (by rw [hml]; rfl) (argsL := [(.ref t1), (.int (Int32.ofNat i))]) (rest := []) (lenOf pd_5 rfl) rfl (by show 2 * 0 + _ ≤ _; exact Nat.le_of_eq rfl) (hb hby d_jdk_42_m_56_21) (fun _ _ => ⟨rfl, e12, (by decide : 0 + 0 ≤ 0), (by decide : 0 + 0 ≤ 0)⟩)
  dsimp only [Pt.U, Pt.locs, Pt.cells, Pt.slots] at X13 l13 y13 z13 st13 hQ13
  subst l13 y13 z13
  obtain ⟨rfl, Nq13, eh13⟩ := hQ13
  have N13 := Fr.app N11 Nq13
  rw [StrChars.pair_says hcb.1 hcb.2] at st13
  refine own_go st13 ?_
  show own_Fin p e below (T13.setTop (mkF m 24 #[vr x1, vi (Int32.ofNat i)] [(.int (cs.getD i 0))])) _
  obtain ⟨fs, hr, hrun, hended, hW1, hsame⟩ := X13.leave (v := (some (.int (nar .char (cs.getD i 0))))) (fun h => by rw [Bd.returns] at h; cases h)
  refine ⟨_, _, retN X13 hx (t := .char) Bd.returns (by simp) (hb hby d_jdk_42_m_56_24) hr, hrun, hended, _, _, rfl, ?_, ⟨_, rfl⟩, hW1, hsame.mono (by decide) (by decide)⟩
  show own_u_sch_Q Z x1 t1 k1 i cs h0 n0 (some (.int (nar .char (cs.getD i 0)))) T13.heap _
  rw [eh13]
  exact ⟨congrArg (fun z => some (Value.int z)) (own_nar hcb.1 hcb.2), N13, rfl⟩
section OwnCh
variable {p : Program} {l : Launch} {e : Env} {R : Room} {s : State} {args : Array Value} {below : List Frame} {Z : State} {a0 : Array Value} {h : Heap}
/-- charAt(i), whatever the coder -/
theorem own_chB {len W : Nat} (hZ : Z.Warmed39 s.vm) (hW : own_W Z a0) {x t : Addr} {cs : List Int32} (F : own_Str Z h x t cs) {i : Nat} {j : Int32} (hi : i < cs.length) (hj : j = Int32.ofNat i) {n0 : Nat} (hn0 : n0 ≤ h.size) (O0 : Old Z n0 h) (hfr : 5 ≤ R.frames) (hlo : W + 66 ≤ R.locals) :
    Back l R p e below s args (⟨"java/lang/String", "charAt", "(I)C"⟩ : MethodName) len W (fun P a => a = #[.ref x, .int j] ∧ P.U.heap = h ∧ P.cells + 0 ≤ R.cells ∧ P.slots + 0 ≤ R.slots)
      (fun P _ v B => ∃ L, (v = some (.int (cs.getD i 0)) ∧ Fr n0 L ∧ B.U.heap = h) ∧ B.locs = P.locs ++ L ∧ B.cells = P.cells + 0 ∧ B.slots = P.slots + 0) := by
  obtain ⟨hw, ⟨G1, O2, P5⟩, ⟨G3, O4, rG3⟩, Oa, Oh, Ol⟩ := id hW
  obtain ⟨k, cd, N, vs, f1, f2, f3, f4, f5, f6, f7⟩ := F
  rcases f5 with ⟨rfl, r⟩ | ⟨rfl, rfl, rfl, r⟩
  · refine Back.mono (StrChars.Road.chN hZ (fun d hd => hw d ((by decide +kernel : ∀ d ∈ StrChars.Road.wordsChN, d ∈ tables_1) d hd)) (kI := 4) (hw _ (List.mem_of_getElem? (i := 2) rfl)) f1 f2 f3 f4 (Or.inl ⟨rfl, r⟩) f6 (O2.ext O0.2) P5 (O4.ext O0.2) rG3 f7 hi hj (by omega) (by omega)) (fun _ _ q => q) ?_
    rintro P a v B - ⟨L, ⟨q1, rfl, q3⟩, r3⟩
    exact ⟨[], ⟨q1, Fr.nil n0, q3⟩, r3⟩
  · subst hj
    exact backOf (own_u_sch l Z a0 hW x t k i cs h n0 hn0 O0 f7 hi f1 f2 f3 f4 f6) hZ (hw _ (List.mem_of_getElem? (i := 55) rfl)) (hw _ (List.mem_of_getElem? (i := 3) rfl)) (by show 4 + 1 ≤ R.frames; omega) (by show W + (2 + 11) + 53 ≤ R.locals; omega)
end OwnCh
def own_u_putc_Q (Z : State) (t1 : Nat) (k1 : ClassId) (n i : Nat) (vs : List Value) (p2 : Int32) (h0 : Heap) (n0 : Nat) (v : Option Value) (h : Heap) (L : List Loc) : Prop := v = none ∧ Fr n0 L ∧ Keep h0 h [t1] ∧ Arv Z h t1 k1 .byte (Int32.ofNat (2 * n)) ((vs.set (2 * i) (.int (StrChars.lo8 p2))).set (2 * i + 1) (.int (StrChars.hi8 p2))) (.int (0 : Int32))
theorem ef_own_u_putc (m : MethodId) (x0 : Nat) (x1 : Int32) (x2 : Int32) : entryFrame m #[(.ref x0), (.int x1), (.int x2)] 3 = mkF m 0 #[vr x0, vi x1, vi x2] [] := by first | (simp [entryFrame, mkF, argsToLocals, Value.category]; done) | rfl
theorem d_jdk_52_m_4_0 : decode jdk_52_method_4_code 0 = .ok (.getstatic 44, 3) := by decide +kernel
theorem d_jdk_52_m_4_3 : decode jdk_52_method_4_code 3 = .ok (.ifCond .ne 25, 3) := by decide +kernel
theorem d_jdk_52_m_4_28 : decode jdk_52_method_4_code 28 = .ok (.iload_n 1, 1) := by decide +kernel
theorem d_jdk_52_m_4_29 : decode jdk_52_method_4_code 29 = .ok (.iconst 1, 1) := by decide +kernel
theorem d_jdk_52_m_4_30 : decode jdk_52_method_4_code 30 = .ok (.ishl, 1) := by decide +kernel
theorem d_jdk_52_m_4_31 : decode jdk_52_method_4_code 31 = .ok (.istore_n 1, 1) := by decide +kernel
theorem d_jdk_52_m_4_32 : decode jdk_52_method_4_code 32 = .ok (.aload_n 0, 1) := by decide +kernel
theorem d_jdk_52_m_4_33 : decode jdk_52_method_4_code 33 = .ok (.iload_n 1, 1) := by decide +kernel
theorem d_jdk_52_m_4_34 : decode jdk_52_method_4_code 34 = .ok (.iinc 1 1, 3) := by decide +kernel
theorem d_jdk_52_m_4_37 : decode jdk_52_method_4_code 37 = .ok (.iload_n 2, 1) := by decide +kernel
theorem d_jdk_52_m_4_38 : decode jdk_52_method_4_code 38 = .ok (.getstatic 59, 3) := by decide +kernel
theorem d_jdk_52_m_4_41 : decode jdk_52_method_4_code 41 = .ok (.ishr, 1) := by decide +kernel
theorem d_jdk_52_m_4_42 : decode jdk_52_method_4_code 42 = .ok (.i2b, 1) := by decide +kernel
theorem d_jdk_52_m_4_43 : decode jdk_52_method_4_code 43 = .ok (.bastore, 1) := by decide +kernel
theorem d_jdk_52_m_4_44 : decode jdk_52_method_4_code 44 = .ok (.aload_n 0, 1) := by decide +kernel
theorem d_jdk_52_m_4_45 : decode jdk_52_method_4_code 45 = .ok (.iload_n 1, 1) := by decide +kernel
theorem d_jdk_52_m_4_46 : decode jdk_52_method_4_code 46 = .ok (.iload_n 2, 1) := by decide +kernel
theorem d_jdk_52_m_4_47 : decode jdk_52_method_4_code 47 = .ok (.getstatic 63, 3) := by decide +kernel
theorem d_jdk_52_m_4_50 : decode jdk_52_method_4_code 50 = .ok (.ishr, 1) := by decide +kernel
theorem d_jdk_52_m_4_51 : decode jdk_52_method_4_code 51 = .ok (.i2b, 1) := by decide +kernel
theorem d_jdk_52_m_4_52 : decode jdk_52_method_4_code 52 = .ok (.bastore, 1) := by decide +kernel
theorem d_jdk_52_m_4_53 : decode jdk_52_method_4_code 53 = .ok (.return_, 1) := by decide +kernel
set_option maxRecDepth 65536 in
set_option maxHeartbeats 40000000 in
theorem own_u_putc (l : Launch) (Z : State) (a0 : Array Value) (hW : own_W Z a0) (t1 : Nat) (k1 : ClassId) (n i : Nat) (vs : List Value) (p2 : Int32) (h0 : Heap) (n0 : Nat) (Z0 : n0 ≤ h0.size) (O0 : Old Z n0 h0) (hn : n ≤ 4000) (hi : i < n) (hl : vs.length = 2 * n) (g1 : n0 ≤ t1) (V1 : Arv Z h0 t1 k1 .byte (Int32.ofNat (2 * n)) vs (.int (0 : Int32))) :
    MetFree l (⟨"java/lang/StringUTF16", "putChar", "([BII)V"⟩ : MethodName) (head1 (Jvm.Cond.code (⟨"java/lang/StringUTF16", "putChar", "([BII)V"⟩ : MethodName) jdk_52_method_4_code 3 none :: []) ({ frames := 0, cells := 0, slots := 0, locals := 0 } : Room)) (fun a U => a = #[(.ref t1), (.int (Int32.ofNat i)), (.int p2)] ∧ Z.Warmed39 U.vm ∧ U.heap = h0) (fun _ _ _ _ _ => True) (fun _ U o U' => ∃ v L, o = .returned v ∧ own_u_putc_Q Z t1 k1 n i vs p2 h0 n0 v U'.heap L ∧ FrameEnd U o U' L ({ frames := 0, cells := 0, slots := 0, locals := 0 } : Room).cells ({ frames := 0, cells := 0, slots := 0, locals := 0 } : Room).slots) := by
  refine MetFree.of_bodySF (plainFor_of_name pn_java_lang_StringUTF16) hisR ?_
  intro p e s m args below meth c s₁ Bd hml0 hP hK
  obtain ⟨rfl, hZ, hh⟩ := hP
  obtain ⟨hw, ⟨G1, O2, P5⟩, ⟨G3, O4, rG3⟩, Oa, Oh, Ol⟩ := id hW
  have hx := Bd.exec
  have hby := Bd.bytes
  have hml : c.maxLocals = 3 := hml0
  have hown : s.vm.findClass "java/lang/StringUTF16" = some m.cls := findClass_of_methodNamed Bd.named
  have hnm := (name_of_methodNamed Bd.named Bd.method).1
  have X0 : Stand p l e ({ frames := 0, cells := 0, slots := 0, locals := 0 } : Room) s m #[(.ref t1), (.int (Int32.ofNat i)), (.int p2)] below meth c s₁ [] 0 0 := Stand.of_body Bd
  have e0 : s₁.heap = h0 := by rw [← hh, Bd.state]; rfl
  have N0 := Fr.nil n0
  have K0 := Keep.refl h0 [t1]
  have lt1 := own_lt V1.lt
  show own_Fin p e below (s₁.setTop (entryFrame m #[(.ref t1), (.int (Int32.ofNat i)), (.int p2)] 3)) _
  refine own_gs (castTop (ef_own_u_putc m t1 (Int32.ofNat i) p2) (Steps.refl _)) ?_
  show own_Fin p e below (s₁.setTop (mkF m 0 #[vr t1, vi (Int32.ofNat i), vi p2] [])) _
  obtain ⟨T11, X11, e11, st11⟩ := getS2 X0 hx hZ hown (host := "") (Or.inl (hw _ (List.mem_of_getElem? (i := 87) rfl))) Via.refl e0 (Oa.ext O0.2) (g := (mkF m 0 #[vr t1, vi (Int32.ofNat i), vi p2] [])) rfl (hb hby d_jdk_52_m_4_0)
  refine own_go st11 ?_
  show own_Fin p e below (T11.setTop (mkF m 3 #[vr t1, vi (Int32.ofNat i), vi p2] [(.int (1 : Int32))])) _
  refine own_gs (cur' := T11.setTop (mkF m 31 #[vr t1, vi (Int32.ofNat i), vi p2] [(.int ((Int32.ofNat i) <<< ((1 : Int32) &&& 31)))])) ?_ ?_
  · refine XS.ifYes X11.here hx rfl (pc0 := 3) (pc' := 28) rfl (hb hby d_jdk_52_m_4_3) rfl ((if0 _ _).trans (feq ((by decide) : ¬ ((1 : Int32) = (0 : Int32)))).2) (by decide) (by decide) ?_
    refine XS.iloadN X11.here hx rfl (hb hby d_jdk_52_m_4_28) rfl ?_
    refine XS.iconst X11.here hx rfl (hb hby d_jdk_52_m_4_29) ?_
    show Steps p.tables e below (T11.setTop (mkF m 30 #[vr t1, vi (Int32.ofNat i), vi p2] [(.int (1 : Int32)), (.int (Int32.ofNat i))])) _
    refine XS.ishl X11.here hx rfl (hb hby d_jdk_52_m_4_30) rfl ?_
    exact Steps.refl _
  rw [own_shl1 (by omega)]
  show own_Fin p e below (T11.setTop (mkF m 31 #[vr t1, vi (Int32.ofNat i), vi p2] [(.int (Int32.ofNat (2 * i)))])) _
  refine own_gs (cur' := T11.setTop (mkF m 37 #[vr t1, vi ((Int32.ofNat (2 * i)) + (1 : Int32)), vi p2] [(.int (Int32.ofNat (2 * i))), (.ref t1)])) ?_ ?_
  · refine XS.istoreN X11.here hx rfl (hb hby d_jdk_52_m_4_31) rfl (l' := #[vr t1, vi (Int32.ofNat (2 * i)), vi p2]) rfl ?_
    refine XS.aloadN X11.here hx rfl (hb hby d_jdk_52_m_4_32) rfl rfl ?_
    refine XS.iloadN X11.here hx rfl (hb hby d_jdk_52_m_4_33) rfl ?_
    show Steps p.tables e below (T11.setTop (mkF m 34 #[vr t1, vi (Int32.ofNat (2 * i)), vi p2] [(.int (Int32.ofNat (2 * i))), (.ref t1)])) _
    refine XS.iinc X11.here hx rfl (hb hby d_jdk_52_m_4_34) rfl (l' := #[vr t1, vi ((Int32.ofNat (2 * i)) + (1 : Int32)), vi p2]) rfl ?_
    exact Steps.refl _
  rw [own_p1]
  show own_Fin p e below (T11.setTop (mkF m 37 #[vr t1, vi (Int32.ofNat (2 * i + 1)), vi p2] [(.int (Int32.ofNat (2 * i))), (.ref t1)])) _
  refine own_gs (cur' := T11.setTop (mkF m 38 #[vr t1, vi (Int32.ofNat (2 * i + 1)), vi p2] [(.int p2), (.int (Int32.ofNat (2 * i))), (.ref t1)])) ?_ ?_
  · refine XS.iloadN X11.here hx rfl (hb hby d_jdk_52_m_4_37) rfl ?_
    exact Steps.refl _
  obtain ⟨T12, X12, e12, st12⟩ := getS2 X11 hx hZ hown (host := "") (Or.inl (hw _ (List.mem_of_getElem? (i := 88) rfl))) Via.refl e11 (Oh.ext O0.2) (g := (mkF m 38 #[vr t1, vi (Int32.ofNat (2 * i + 1)), vi p2] [(.int p2), (.int (Int32.ofNat (2 * i))), (.ref t1)])) rfl (hb hby d_jdk_52_m_4_38)
  refine own_go st12 ?_
  show own_Fin p e below (T12.setTop (mkF m 41 #[vr t1, vi (Int32.ofNat (2 * i + 1)), vi p2] [(.int (0 : Int32)), (.int p2), (.int (Int32.ofNat (2 * i))), (.ref t1)])) _
  refine own_gs (cur' := T12.setTop (mkF m 43 #[vr t1, vi (Int32.ofNat (2 * i + 1)), vi p2] [(.int ((p2 >>> ((0 : Int32) &&& 31)).toInt8.toInt32)), (.int (Int32.ofNat (2 * i))), (.ref t1)])) ?_ ?_
  · refine XS.ishr X12.here hx rfl (hb hby d_jdk_52_m_4_41) rfl ?_
    refine XS.i2b X12.here hx rfl (hb hby d_jdk_52_m_4_42) rfl ?_
    exact Steps.refl _
  obtain ⟨cl13, Ar13, q13, S13, M13, Hs13, G13⟩ := id V1
  have hin13 : ¬ ((Int32.ofNat (2 * i)) < 0 ∨ cl13.slots.size ≤ ((Int32.ofNat (2 * i))).toNatClampNeg) := inb_of S13 (own_in (by omega) (by omega))
  obtain ⟨T13, h13, X13, e13, W13, st13⟩ := stB X12 hx hZ e12 Ar13 (j := (Int32.ofNat (2 * i))) hin13 (g := (mkF m 43 #[vr t1, vi (Int32.ofNat (2 * i + 1)), vi p2] [(.int ((p2 >>> ((0 : Int32) &&& 31)).toInt8.toInt32)), (.int (Int32.ofNat (2 * i))), (.ref t1)])) rfl rfl (hb hby d_jdk_52_m_4_43)
  have V13 := Arv.set Ar13 q13 S13 M13 Hs13 G13 (fits_nar_byte _) W13 (2 * i) (own_nat (by omega)) (by omega)
  refine own_go st13 ?_
  show own_Fin p e below (T13.setTop (mkF m 44 #[vr t1, vi (Int32.ofNat (2 * i + 1)), vi p2] [])) _
  have z14 := W13.size
  have K14 := K0.wr W13 (Or.inl (List.mem_of_getElem? (i := 0) rfl))
  have O14 := O0.wr W13 (by omega)
  have N14 := Fr.snoc X13 N0 (by omega)
  refine own_gs (cur' := T13.setTop (mkF m 47 #[vr t1, vi (Int32.ofNat (2 * i + 1)), vi p2] [(.int p2), (.int (Int32.ofNat (2 * i + 1))), (.ref t1)])) ?_ ?_
  · refine XS.aloadN X13.here hx rfl (hb hby d_jdk_52_m_4_44) rfl rfl ?_
    refine XS.iloadN X13.here hx rfl (hb hby d_jdk_52_m_4_45) rfl ?_
    refine XS.iloadN X13.here hx rfl (hb hby d_jdk_52_m_4_46) rfl ?_
    exact Steps.refl _
  obtain ⟨T15, X15, e15, st15⟩ := getS2 X13 hx hZ hown (host := "") (Or.inl (hw _ (List.mem_of_getElem? (i := 89) rfl))) Via.refl e13 (Ol.ext O14.2) (g := (mkF m 47 #[vr t1, vi (Int32.ofNat (2 * i + 1)), vi p2] [(.int p2), (.int (Int32.ofNat (2 * i + 1))), (.ref t1)])) rfl (hb hby d_jdk_52_m_4_47)
  refine own_go st15 ?_
  show own_Fin p e below (T15.setTop (mkF m 50 #[vr t1, vi (Int32.ofNat (2 * i + 1)), vi p2] [(.int (8 : Int32)), (.int p2), (.int (Int32.ofNat (2 * i + 1))), (.ref t1)])) _
  refine own_gs (cur' := T15.setTop (mkF m 52 #[vr t1, vi (Int32.ofNat (2 * i + 1)), vi p2] [(.int ((p2 >>> ((8 : Int32) &&& 31)).toInt8.toInt32)), (.int (Int32.ofNat (2 * i + 1))), (.ref t1)])) ?_ ?_
  · refine XS.ishr X15.here hx rfl (hb hby d_jdk_52_m_4_50) rfl ?_
    refine XS.i2b X15.here hx rfl (hb hby d_jdk_52_m_4_51) rfl ?_
    exact Steps.refl _
  obtain ⟨cl16, Ar16, q16, S16, M16, Hs16, G16⟩ := id V13
  have hin16 : ¬ ((Int32.ofNat (2 * i + 1)) < 0 ∨ cl16.slots.size ≤ ((Int32.ofNat (2 * i + 1))).toNatClampNeg) := inb_of S16 (own_in (by omega) (by omega))
  obtain ⟨T16, h16, X16, e16, W16, st16⟩ := stB X15 hx hZ e15 Ar16 (j := (Int32.ofNat (2 * i + 1))) hin16 (g := (mkF m 52 #[vr t1, vi (Int32.ofNat (2 * i + 1)), vi p2] [(.int ((p2 >>> ((8 : Int32) &&& 31)).toInt8.toInt32)), (.int (Int32.ofNat (2 * i + 1))), (.ref t1)])) rfl rfl (hb hby d_jdk_52_m_4_52)
  have V16 := Arv.set Ar16 q16 S16 M16 Hs16 G16 (fits_nar_byte _) W16 (2 * i + 1) (own_nat (by omega)) (by simp only [List.length_set]; omega)
  refine own_go st16 ?_
  show own_Fin p e below (T16.setTop (mkF m 53 #[vr t1, vi (Int32.ofNat (2 * i + 1)), vi p2] [])) _
  have z17 := W16.size
  have K17 := K14.wr W16 (Or.inl (List.mem_of_getElem? (i := 0) rfl))
  have O17 := O14.wr W16 (by omega)
  have N17 := Fr.snoc X16 N14 (by omega)
  have Vf := V16
  rw [own_b2, own_b2, StrChars.shr0] at Vf
  obtain ⟨fs, hr, hrun, hended, hW1, hsame⟩ := X16.leave (v := none) (fun _ => rfl)
  refine ⟨_, _, X16.returnOut hx Bd.returns (hb hby d_jdk_52_m_4_53) hr, hrun, hended, _, _, rfl, ?_, ⟨_, rfl⟩, hW1, hsame.mono (by decide) (by decide)⟩
  show own_u_putc_Q Z t1 k1 n i vs p2 h0 n0 none T16.heap _
  rw [e16]
  exact ⟨rfl, N17, K17, Vf⟩
def own_u_nbl1_Q (Z : State)  (h0 : Heap) (n0 : Nat) (v : Option Value) (h : Heap) (L : List Loc) : Prop := v = (some (.int (2 : Int32))) ∧ Fr n0 L ∧ h = h0
theorem ef_own_u_nbl1 (m : MethodId) (x0 : Int32) : entryFrame m #[(.int x0)] 1 = mkF m 0 #[vi x0] [] := by first | (simp [entryFrame, mkF, argsToLocals, Value.category]; done) | rfl
theorem d_jdk_52_m_3_0 : decode jdk_52_method_3_code 0 = .ok (.iload_n 0, 1) := by decide +kernel
theorem d_jdk_52_m_3_1 : decode jdk_52_method_3_code 1 = .ok (.ifCond .ge 11, 3) := by decide +kernel
theorem d_jdk_52_m_3_12 : decode jdk_52_method_3_code 12 = .ok (.iload_n 0, 1) := by decide +kernel
theorem d_jdk_52_m_3_13 : decode jdk_52_method_3_code 13 = .ok (.ldc 20, 2) := by decide +kernel
theorem d_jdk_52_m_3_15 : decode jdk_52_method_3_code 15 = .ok (.if_icmp .lt 40, 3) := by decide +kernel
theorem d_jdk_52_m_3_55 : decode jdk_52_method_3_code 55 = .ok (.iload_n 0, 1) := by decide +kernel
theorem d_jdk_52_m_3_56 : decode jdk_52_method_3_code 56 = .ok (.iconst 1, 1) := by decide +kernel
theorem d_jdk_52_m_3_57 : decode jdk_52_method_3_code 57 = .ok (.ishl, 1) := by decide +kernel
theorem d_jdk_52_m_3_58 : decode jdk_52_method_3_code 58 = .ok (.ireturn, 1) := by decide +kernel
set_option maxRecDepth 65536 in
set_option maxHeartbeats 40000000 in
theorem own_u_nbl1 (l : Launch) (Z : State) (a0 : Array Value) (hW : own_W Z a0)  (h0 : Heap) (n0 : Nat) (Z0 : n0 ≤ h0.size) (O0 : Old Z n0 h0)  :
    MetFree l (⟨"java/lang/StringUTF16", "newBytesLength", "(I)I"⟩ : MethodName) (head1 (Jvm.Cond.code (⟨"java/lang/StringUTF16", "newBytesLength", "(I)I"⟩ : MethodName) jdk_52_method_3_code 1 (some .int) :: []) ({ frames := 0, cells := 0, slots := 0, locals := 0 } : Room)) (fun a U => a = #[(.int (1 : Int32))] ∧ Z.Warmed39 U.vm ∧ U.heap = h0) (fun _ _ _ _ _ => True) (fun _ U o U' => ∃ v L, o = .returned v ∧ own_u_nbl1_Q Z  h0 n0 v U'.heap L ∧ FrameEnd U o U' L ({ frames := 0, cells := 0, slots := 0, locals := 0 } : Room).cells ({ frames := 0, cells := 0, slots := 0, locals := 0 } : Room).slots) := by
  refine MetFree.of_bodySF (plainFor_of_name pn_java_lang_StringUTF16) hisR ?_
  intro p e s m args below meth c s₁ Bd hml0 hP hK
  obtain ⟨rfl, hZ, hh⟩ := hP
  obtain ⟨hw, ⟨G1, O2, P5⟩, ⟨G3, O4, rG3⟩, Oa, Oh, Ol⟩ := id hW
  have hx := Bd.exec
  have hby := Bd.bytes
  have hml : c.maxLocals = 1 := hml0
  have hown : s.vm.findClass "java/lang/StringUTF16" = some m.cls := findClass_of_methodNamed Bd.named
  have hnm := (name_of_methodNamed Bd.named Bd.method).1
  have X0 : Stand p l e ({ frames := 0, cells := 0, slots := 0, locals := 0 } : Room) s m #[(.int (1 : Int32))] below meth c s₁ [] 0 0 := Stand.of_body Bd
  have e0 : s₁.heap = h0 := by rw [← hh, Bd.state]; rfl
  have N0 := Fr.nil n0
  have K0 := Keep.refl h0 []
  show own_Fin p e below (s₁.setTop (entryFrame m #[(.int (1 : Int32))] 1)) _
  refine own_gs (castTop (ef_own_u_nbl1 m (1 : Int32)) (Steps.refl _)) ?_
  show own_Fin p e below (s₁.setTop (mkF m 0 #[vi (1 : Int32)] [])) _
  refine own_gs (cur' := s₁.setTop (mkF m 58 #[vi (1 : Int32)] [(.int (2 : Int32))])) ?_ ?_
  · refine XS.iloadN X0.here hx rfl (hb hby d_jdk_52_m_3_0) rfl ?_
    refine XS.ifYes X0.here hx rfl (pc0 := 1) (pc' := 12) rfl (hb hby d_jdk_52_m_3_1) rfl ((if0 _ _).trans (flt ((by decide) : ¬ ((1 : Int32) < (0 : Int32)))).2.1) (by decide) (by decide) ?_
    refine XS.iloadN X0.here hx rfl (hb hby d_jdk_52_m_3_12) rfl ?_
    show Steps p.tables e below (s₁.setTop (mkF m 13 #[vi (1 : Int32)] [(.int (1 : Int32))])) _
    refine X0.ldcInt hx hown (mvT hZ (hw _ (List.mem_of_getElem? (i := 83) rfl))) (g := (mkF m 13 #[vi (1 : Int32)] [(.int (1 : Int32))])) rfl (hb hby d_jdk_52_m_3_13) _ ?_
    refine XS.icmpYes X0.here hx rfl (pc0 := 15) (pc' := 55) rfl (hb hby d_jdk_52_m_3_15) rfl (tlt ((by decide) : (1 : Int32) < (1073741823 : Int32))).1 (by decide) (by decide) ?_
    refine XS.iloadN X0.here hx rfl (hb hby d_jdk_52_m_3_55) rfl ?_
    show Steps p.tables e below (s₁.setTop (mkF m 56 #[vi (1 : Int32)] [(.int (1 : Int32))])) _
    refine XS.iconst X0.here hx rfl (hb hby d_jdk_52_m_3_56) ?_
    refine XS.ishl X0.here hx rfl (hb hby d_jdk_52_m_3_57) rfl ?_
    exact Steps.refl _
  obtain ⟨fs, hr, hrun, hended, hW1, hsame⟩ := X0.leave (v := (some (.int (2 : Int32)))) (fun h => by rw [Bd.returns] at h; cases h)
  refine ⟨_, _, retI X0 hx Bd.returns (hb hby d_jdk_52_m_3_58) hr, hrun, hended, _, _, rfl, ?_, ⟨_, rfl⟩, hW1, hsame.mono (by decide) (by decide)⟩
  show own_u_nbl1_Q Z  h0 n0 (some (.int (2 : Int32))) s₁.heap _
  rw [e0]
  exact ⟨rfl, N0, rfl⟩
def own_u_nbf1_Q (Z : State)  (h0 : Heap) (n0 : Nat) (v : Option Value) (h : Heap) (L : List Loc) : Prop := ∃ (t : Nat) (kb : ClassId), v = some (.ref t) ∧ Fr n0 L ∧ Keep h0 h [] ∧ Arv Z h t kb .byte (2 : Int32) [(.int (0 : Int32)), (.int (0 : Int32))] (.int (0 : Int32)) ∧ h0.size ≤ t
theorem ef_own_u_nbf1 (m : MethodId) (x0 : Int32) : entryFrame m #[(.int x0)] 1 = mkF m 0 #[vi x0] [] := by first | (simp [entryFrame, mkF, argsToLocals, Value.category]; done) | rfl
theorem d_jdk_52_m_2_0 : decode jdk_52_method_2_code 0 = .ok (.iload_n 0, 1) := by decide +kernel
theorem d_jdk_52_m_2_1 : decode jdk_52_method_2_code 1 = .ok (.invokestatic 11, 3) := by decide +kernel
theorem pd_7 : parseMethodDescriptor "(I)I" = some ⟨[.int], some .int⟩ := by decide +kernel
theorem d_jdk_52_m_2_4 : decode jdk_52_method_2_code 4 = .ok (.newarray .byte, 2) := by decide +kernel
theorem d_jdk_52_m_2_6 : decode jdk_52_method_2_code 6 = .ok (.areturn, 1) := by decide +kernel
set_option maxRecDepth 65536 in
set_option maxHeartbeats 40000000 in
theorem own_u_nbf1 (l : Launch) (Z : State) (a0 : Array Value) (hW : own_W Z a0)  (h0 : Heap) (n0 : Nat) (Z0 : n0 ≤ h0.size) (O0 : Old Z n0 h0)  :
    MetFree l (⟨"java/lang/StringUTF16", "newBytesFor", "(I)[B"⟩ : MethodName) (head1 (Jvm.Cond.code (⟨"java/lang/StringUTF16", "newBytesFor", "(I)[B"⟩ : MethodName) jdk_52_method_2_code 1 (some (.array .byte)) :: []) ({ frames := 1, cells := 1, slots := 2, locals := 12 } : Room)) (fun a U => a = #[(.int (1 : Int32))] ∧ Z.Warmed39 U.vm ∧ U.heap = h0) (fun _ _ _ _ _ => True) (fun _ U o U' => ∃ v L, o = .returned v ∧ own_u_nbf1_Q Z  h0 n0 v U'.heap L ∧ FrameEnd U o U' L ({ frames := 1, cells := 1, slots := 2, locals := 12 } : Room).cells ({ frames := 1, cells := 1, slots := 2, locals := 12 } : Room).slots) := by
  refine MetFree.of_bodySF (plainFor_of_name pn_java_lang_StringUTF16) hisR ?_
  intro p e s m args below meth c s₁ Bd hml0 hP hK
  obtain ⟨rfl, hZ, hh⟩ := hP
  obtain ⟨hw, ⟨G1, O2, P5⟩, ⟨G3, O4, rG3⟩, Oa, Oh, Ol⟩ := id hW
  have hx := Bd.exec
  have hby := Bd.bytes
  have hml : c.maxLocals = 1 := hml0
  have hown : s.vm.findClass "java/lang/StringUTF16" = some m.cls := findClass_of_methodNamed Bd.named
  have hnm := (name_of_methodNamed Bd.named Bd.method).1
  have X0 : Stand p l e ({ frames := 1, cells := 1, slots := 2, locals := 12 } : Room) s m #[(.int (1 : Int32))] below meth c s₁ [] 0 0 := Stand.of_body Bd
  have e0 : s₁.heap = h0 := by rw [← hh, Bd.state]; rfl
  have N0 := Fr.nil n0
  have K0 := Keep.refl h0 []
  show own_Fin p e below (s₁.setTop (entryFrame m #[(.int (1 : Int32))] 1)) _
  refine own_gs (castTop (ef_own_u_nbf1 m (1 : Int32)) (Steps.refl _)) ?_
  show own_Fin p e below (s₁.setTop (mkF m 0 #[vi (1 : Int32)] [])) _
  refine own_gs (cur' := s₁.setTop (mkF m 1 #[vi (1 : Int32)] [(.int (1 : Int32))])) ?_ ?_
  · refine XS.iloadN X0.here hx rfl (hb hby d_jdk_52_m_2_0) rfl ?_
    exact Steps.refl _
  obtain ⟨_, _, ⟨T11, L11, k11, n11⟩, -, X11, ⟨Lc11, hQ11, l11, y11, z11⟩, st11⟩ := Jvm.LawKit.callS X0 hx (y := (⟨"java/lang/StringUTF16", "newBytesLength", "(I)I"⟩ : MethodName)) hown (mvT hZ (hw _ (List.mem_of_getElem? (i := 80) rfl))) (mvT hZ (hw _ (List.mem_of_getElem? (i := 81) rfl))) (mvT hZ (hw _ (List.mem_of_getElem? (i := 26) rfl))) (mvT hZ (hw _ (List.mem_of_getElem? (i := 82) rfl))) (by decide) (backOf (W := 0) (own_u_nbl1 l Z a0 hW h0 n0 (by omega) O0) hZ (hw _ (List.mem_of_getElem? (i := 82) rfl)) (hw _ (List.mem_of_getElem? (i := 26) rfl)) (by decide) (by decide)) (g := (mkF m 1 #[vi (1 : Int32)] [(.int (1 : Int32))])) rfl (by rw [hml]; rfl) (argsL := [(.int (1 : Int32))]) (rest := []) (lenOf pd_7 rfl) rfl (by show 2 * 0 + _ ≤ _; exact Nat.le_of_eq rfl) (hb hby d_jdk_52_m_2_1) (fun _ _ => ⟨rfl, e0, (by decide : 0 + 0 ≤ 1), (by decide : 0 + 0 ≤ 2)⟩)
  dsimp only [Pt.U, Pt.locs, Pt.cells, Pt.slots] at X11 l11 y11 z11 st11 hQ11
  subst l11 y11 z11
  obtain ⟨rfl, Nq11, eh11⟩ := hQ11
  have N11 := Fr.app N0 Nq11
  refine own_go st11 ?_
  show own_Fin p e below (T11.setTop (mkF m 4 #[vi (1 : Int32)] [(.int (2 : Int32))])) _
  obtain ⟨T12, h12, k12, X12, e12, E12, A12, st12⟩ := newP X11 hx hZ (hw _ (List.mem_of_getElem? (i := 16) rfl)) eh11 (g := (mkF m 4 #[vi (1 : Int32)] [(.int (2 : Int32))])) rfl (hb hby d_jdk_52_m_2_4) rfl (by decide) (cap := 2) (by decide) (by decide) (by decide) (by decide)
  obtain ⟨b12, g12⟩ : ∃ z, z = h0.size := ⟨_, rfl⟩
  rw [← g12] at A12 st12
  have lt12 := own_lt A12.lt
  refine own_go st12 ?_
  show own_Fin p e below (T12.setTop (mkF m 6 #[vi (1 : Int32)] [(.ref b12)])) _
  have z13 := E12.1
  have K13 := K0.ext E12
  have O13 := O0.ext E12
  have V12 : Arv Z h12 b12 k12 .byte (2 : Int32) [(.int (0 : Int32)), (.int (0 : Int32))] (.int (0 : Int32)) := (Arv.new A12 (by decide)).pad (pad_rep [] (.int (0 : Int32)) 2)
  obtain ⟨fs, hr, hrun, hended, hW1, hsame⟩ := X12.leave (v := (some (.ref b12))) (fun h => by rw [Bd.returns] at h; cases h)
  refine ⟨_, _, X12.areturnOut hx rfl Bd.returns rfl (hb hby d_jdk_52_m_2_6) hr, hrun, hended, _, _, rfl, ?_, ⟨_, rfl⟩, hW1, hsame.mono (by decide) (by decide)⟩
  show own_u_nbf1_Q Z  h0 n0 (some (.ref b12)) T12.heap _
  rw [e12]
  exact ⟨_, _, rfl, N11, K13, V12, (by omega)⟩
def own_u_tob1_Q (Z : State) (b1 : Nat) (k1 : ClassId) (c0 : Int32) (h0 : Heap) (n0 : Nat) (v : Option Value) (h : Heap) (L : List Loc) : Prop := ∃ (t : Nat) (kb : ClassId), v = some (.ref t) ∧ Fr n0 L ∧ Keep h0 h [] ∧ Arv Z h t kb .byte (2 : Int32) (StrChars.Road.wideBytes [c0]) (.int (0 : Int32)) ∧ h0.size ≤ t
theorem ef_own_u_tob1 (m : MethodId) (x0 : Nat) (x1 : Int32) (x2 : Int32) : entryFrame m #[(.ref x0), (.int x1), (.int x2)] 5 = mkF m 0 #[vr x0, vi x1, vi x2, .unset, .unset] [] := by first | (simp [entryFrame, mkF, argsToLocals, Value.category]; done) | rfl
theorem d_jdk_52_m_14_0 : decode jdk_52_method_14_code 0 = .ok (.iload_n 2, 1) := by decide +kernel
theorem d_jdk_52_m_14_1 : decode jdk_52_method_14_code 1 = .ok (.invokestatic 107, 3) := by decide +kernel
theorem pd_8 : parseMethodDescriptor "(I)[B" = some ⟨[.int], some (.array .byte)⟩ := by decide +kernel
theorem d_jdk_52_m_14_4 : decode jdk_52_method_14_code 4 = .ok (.astore_n 3, 1) := by decide +kernel
theorem d_jdk_52_m_14_5 : decode jdk_52_method_14_code 5 = .ok (.iconst 0, 1) := by decide +kernel
theorem d_jdk_52_m_14_6 : decode jdk_52_method_14_code 6 = .ok (.istore 4, 2) := by decide +kernel
theorem d_jdk_52_m_14_8 : decode jdk_52_method_14_code 8 = .ok (.iload 4, 2) := by decide +kernel
theorem d_jdk_52_m_14_10 : decode jdk_52_method_14_code 10 = .ok (.iload_n 2, 1) := by decide +kernel
theorem d_jdk_52_m_14_11 : decode jdk_52_method_14_code 11 = .ok (.if_icmp .ge 21, 3) := by decide +kernel
theorem d_jdk_52_m_14_14 : decode jdk_52_method_14_code 14 = .ok (.aload_n 3, 1) := by decide +kernel
theorem d_jdk_52_m_14_15 : decode jdk_52_method_14_code 15 = .ok (.iload 4, 2) := by decide +kernel
theorem d_jdk_52_m_14_17 : decode jdk_52_method_14_code 17 = .ok (.aload_n 0, 1) := by decide +kernel
theorem d_jdk_52_m_14_18 : decode jdk_52_method_14_code 18 = .ok (.iload_n 1, 1) := by decide +kernel
theorem d_jdk_52_m_14_19 : decode jdk_52_method_14_code 19 = .ok (.caload, 1) := by decide +kernel
theorem d_jdk_52_m_14_20 : decode jdk_52_method_14_code 20 = .ok (.invokestatic 111, 3) := by decide +kernel
theorem pd_9 : parseMethodDescriptor "([BII)V" = some ⟨[(.array .byte), .int, .int], none⟩ := by decide +kernel
theorem d_jdk_52_m_14_23 : decode jdk_52_method_14_code 23 = .ok (.iinc 1 1, 3) := by decide +kernel
theorem d_jdk_52_m_14_26 : decode jdk_52_method_14_code 26 = .ok (.iinc 4 1, 3) := by decide +kernel
theorem d_jdk_52_m_14_29 : decode jdk_52_method_14_code 29 = .ok (.goto (-21), 3) := by decide +kernel
theorem d_jdk_52_m_14_32 : decode jdk_52_method_14_code 32 = .ok (.aload_n 3, 1) := by decide +kernel
theorem d_jdk_52_m_14_33 : decode jdk_52_method_14_code 33 = .ok (.areturn, 1) := by decide +kernel
set_option maxRecDepth 65536 in
set_option maxHeartbeats 40000000 in
theorem own_u_tob1 (l : Launch) (Z : State) (a0 : Array Value) (hW : own_W Z a0) (b1 : Nat) (k1 : ClassId) (c0 : Int32) (h0 : Heap) (n0 : Nat) (Z0 : n0 ≤ h0.size) (O0 : Old Z n0 h0) (V1 : Arv Z h0 b1 k1 .char (1 : Int32) [(.int c0)] (.int (0 : Int32))) :
    MetFree l (⟨"java/lang/StringUTF16", "toBytes", "([CII)[B"⟩ : MethodName) (head1 (Jvm.Cond.code (⟨"java/lang/StringUTF16", "toBytes", "([CII)[B"⟩ : MethodName) jdk_52_method_14_code 5 (some (.array .byte)) :: []) ({ frames := 2, cells := 1, slots := 2, locals := 24 } : Room)) (fun a U => a = #[(.ref b1), (.int (0 : Int32)), (.int (1 : Int32))] ∧ Z.Warmed39 U.vm ∧ U.heap = h0) (fun _ _ _ _ _ => True) (fun _ U o U' => ∃ v L, o = .returned v ∧ own_u_tob1_Q Z b1 k1 c0 h0 n0 v U'.heap L ∧ FrameEnd U o U' L ({ frames := 2, cells := 1, slots := 2, locals := 24 } : Room).cells ({ frames := 2, cells := 1, slots := 2, locals := 24 } : Room).slots) := by
  refine MetFree.of_bodySF (plainFor_of_name pn_java_lang_StringUTF16) hisR ?_
  intro p e s m args below meth c s₁ Bd hml0 hP hK
  obtain ⟨rfl, hZ, hh⟩ := hP
  obtain ⟨hw, ⟨G1, O2, P5⟩, ⟨G3, O4, rG3⟩, Oa, Oh, Ol⟩ := id hW
  have hx := Bd.exec
  have hby := Bd.bytes
  have hml : c.maxLocals = 5 := hml0
  have hown : s.vm.findClass "java/lang/StringUTF16" = some m.cls := findClass_of_methodNamed Bd.named
  have hnm := (name_of_methodNamed Bd.named Bd.method).1
  have X0 : Stand p l e ({ frames := 2, cells := 1, slots := 2, locals := 24 } : Room) s m #[(.ref b1), (.int (0 : Int32)), (.int (1 : Int32))] below meth c s₁ [] 0 0 := Stand.of_body Bd
  have e0 : s₁.heap = h0 := by rw [← hh, Bd.state]; rfl
  have N0 := Fr.nil n0
  have K0 := Keep.refl h0 []
  have lt1 := own_lt V1.lt
  show own_Fin p e below (s₁.setTop (entryFrame m #[(.ref b1), (.int (0 : Int32)), (.int (1 : Int32))] 5)) _
  refine own_gs (castTop (ef_own_u_tob1 m b1 (0 : Int32) (1 : Int32)) (Steps.refl _)) ?_
  show own_Fin p e below (s₁.setTop (mkF m 0 #[vr b1, vi (0 : Int32), vi (1 : Int32), uu, uu] [])) _
  refine own_gs (cur' := s₁.setTop (mkF m 1 #[vr b1, vi (0 : Int32), vi (1 : Int32), uu, uu] [(.int (1 : Int32))])) ?_ ?_
  · refine XS.iloadN X0.here hx rfl (hb hby d_jdk_52_m_14_0) rfl ?_
    exact Steps.refl _
  obtain ⟨_, _, ⟨T11, L11, k11, n11⟩, -, X11, ⟨Lc11, hQ11, l11, y11, z11⟩, st11⟩ := Jvm.LawKit.callS X0 hx (y := (⟨"java/lang/StringUTF16", "newBytesFor", "(I)[B"⟩ : MethodName)) hown (mvT hZ (hw _ (List.mem_of_getElem? (i := 77) rfl))) (mvT hZ (hw _ (List.mem_of_getElem? (i := 78) rfl))) (mvT hZ (hw _ (List.mem_of_getElem? (i := 26) rfl))) (mvT hZ (hw _ (List.mem_of_getElem? (i := 79) rfl))) (by decide) (backOf (W := 0) (own_u_nbf1 l Z a0 hW h0 n0 (by omega) O0) hZ (hw _ (List.mem_of_getElem? (i := 79) rfl)) (hw _ (List.mem_of_getElem? (i := 26) rfl)) (by decide) (by decide)) (g := (mkF m 1 #[vr b1, vi (0 : Int32), vi (1 : Int32), uu, uu] [(.int (1 : Int32))])) rfl (by rw [hml]; rfl) (argsL := [(.int (1 : Int32))]) (rest := []) (lenOf pd_8 rfl) rfl (by show 2 * 0 + _ ≤ _; exact Nat.le_of_eq rfl) (hb hby d_jdk_52_m_14_1) (fun _ _ => ⟨rfl, e0, (by decide : 0 + 1 ≤ 1), (by decide : 0 + 2 ≤ 2)⟩)
  dsimp only [Pt.U, Pt.locs, Pt.cells, Pt.slots] at X11 l11 y11 z11 st11 hQ11
  subst l11 y11 z11
  obtain ⟨t11, kb11, rfl, Nq11, Kq11, Vt11, ge11⟩ := hQ11
  have N11 := Fr.app N0 Nq11
  have z12 := Kq11.1
  have K12 := K0.trans Kq11 all0
  have O12 := O0.keep Kq11 all0
  have lt11 := own_lt Vt11.lt
  refine own_go st11 ?_
  show own_Fin p e below (T11.setTop (mkF m 4 #[vr b1, vi (0 : Int32), vi (1 : Int32), uu, uu] [(.ref t11)])) _
  refine own_gs (cur' := T11.setTop (mkF m 19 #[vr b1, vi (0 : Int32), vi (1 : Int32), vr t11, vi (0 : Int32)] [(.int (0 : Int32)), (.ref b1), (.int (0 : Int32)), (.ref t11)])) ?_ ?_
  · refine XS.astoreN X11.here hx rfl (hb hby d_jdk_52_m_14_4) rfl rfl (l' := #[vr b1, vi (0 : Int32), vi (1 : Int32), vr t11, uu]) rfl ?_
    refine XS.iconst X11.here hx rfl (hb hby d_jdk_52_m_14_5) ?_
    refine XS.istore X11.here hx rfl (hb hby d_jdk_52_m_14_6) rfl (l' := #[vr b1, vi (0 : Int32), vi (1 : Int32), vr t11, vi (0 : Int32)]) rfl ?_
    show Steps p.tables e below (T11.setTop (mkF m 8 #[vr b1, vi (0 : Int32), vi (1 : Int32), vr t11, vi (0 : Int32)] [])) _
    refine XS.iload X11.here hx rfl (hb hby d_jdk_52_m_14_8) rfl ?_
    refine XS.iloadN X11.here hx rfl (hb hby d_jdk_52_m_14_10) rfl ?_
    refine XS.icmpNo X11.here hx rfl (hb hby d_jdk_52_m_14_11) rfl (tlt ((by decide) : (0 : Int32) < (1 : Int32))).2.1 ?_
    show Steps p.tables e below (T11.setTop (mkF m 14 #[vr b1, vi (0 : Int32), vi (1 : Int32), vr t11, vi (0 : Int32)] [])) _
    refine XS.aloadN X11.here hx rfl (hb hby d_jdk_52_m_14_14) rfl rfl ?_
    refine XS.iload X11.here hx rfl (hb hby d_jdk_52_m_14_15) rfl ?_
    refine XS.aloadN X11.here hx rfl (hb hby d_jdk_52_m_14_17) rfl rfl ?_
    show Steps p.tables e below (T11.setTop (mkF m 18 #[vr b1, vi (0 : Int32), vi (1 : Int32), vr t11, vi (0 : Int32)] [(.ref b1), (.int (0 : Int32)), (.ref t11)])) _
    refine XS.iloadN X11.here hx rfl (hb hby d_jdk_52_m_14_18) rfl ?_
    exact Steps.refl _
  have f14 := (V1.keep Kq11 nin0)
  obtain ⟨cl13, Ar13, q13, S13, M13, Hs13, G13⟩ := id f14
  have hin13 : ¬ ((0 : Int32) < 0 ∨ cl13.slots.size ≤ ((0 : Int32)).toNatClampNeg) := inb_of S13 ⟨by decide, by decide⟩
  have hat13 : cl13.slots[((0 : Int32)).toNatClampNeg]? = some (.int c0) := Has.at Hs13 hin13 rfl
  refine own_go (X11.caload hx (j := (0 : Int32)) (v := (.int c0)) (by exact Ar13.1) (State.isArrayOf_alike hZ.alike Ar13.2.1) Ar13.2.2 hin13 hat13 (g := (mkF m 19 #[vr b1, vi (0 : Int32), vi (1 : Int32), vr t11, vi (0 : Int32)] [(.int (0 : Int32)), (.ref b1), (.int (0 : Int32)), (.ref t11)])) rfl rfl (hb hby d_jdk_52_m_14_19)) ?_
  show own_Fin p e below (T11.setTop (mkF m 20 #[vr b1, vi (0 : Int32), vi (1 : Int32), vr t11, vi (0 : Int32)] [(.int c0), (.int (0 : Int32)), (.ref t11)])) _
  obtain ⟨_, _, ⟨T15, L15, k15, n15⟩, -, X15, ⟨Lc15, hQ15, l15, y15, z15⟩, st15⟩ := Jvm.LawKit.callS X11 hx (y := (⟨"java/lang/StringUTF16", "putChar", "([BII)V"⟩ : MethodName)) hown (mvT hZ (hw _ (List.mem_of_getElem? (i := 84) rfl))) (mvT hZ (hw _ (List.mem_of_getElem? (i := 85) rfl))) (mvT hZ (hw _ (List.mem_of_getElem? (i := 26) rfl))) (mvT hZ (hw _ (List.mem_of_getElem? (i := 86) rfl))) (by decide) (backOf (W := 0) (own_u_putc l Z a0 hW t11 kb11 1 0 [(.int (0 : Int32)), (.int (0 : Int32))] c0 T11.heap n0 (by omega) O12 (by decide) (by decide) rfl (by omega) Vt11) hZ (hw _ (List.mem_of_getElem? (i := 86) rfl)) (hw _ (List.mem_of_getElem? (i := 26) rfl)) (by decide) (by decide)) (g := (mkF m 20 #[vr b1, vi (0 : Int32), vi (1 : Int32), vr t11, vi (0 : Int32)] [(.int c0), (.int (0 : Int32)), (.ref t11)])) rfl (by rw [hml]; rfl) (argsL := [(.ref t11), (.int (0 : Int32)), (.int c0)]) (rest := []) (lenOf pd_9 rfl) rfl (by show 2 * 0 + _ ≤ _; exact Nat.le_of_eq rfl) (hb hby d_jdk_52_m_14_20) (fun _ _ => ⟨rfl, rfl, (by decide : 1 + 0 ≤ 1), (by decide : 2 + 0 ≤ 2)⟩)
  dsimp only [Pt.U, Pt.locs, Pt.cells, Pt.slots] at X15 l15 y15 z15 st15 hQ15
  subst l15 y15 z15
  obtain ⟨rfl, Nq15, Kq15, Vt15⟩ := hQ15
  have N15 := Fr.app N11 Nq15
  have z16 := Kq15.1
  have K16 := K12.trans Kq15 (allS (Or.inr (by omega)) all0)
  have O16 := O12.keep Kq15 (allS (by omega) all0)
  have Vu15 : Arv Z T15.heap t11 kb11 .byte (2 : Int32) [(.int (StrChars.lo8 c0)), (.int (StrChars.hi8 c0))] (.int (0 : Int32)) := Vt15
  refine own_go st15 ?_
  show own_Fin p e below (T15.setTop (mkF m 23 #[vr b1, vi (0 : Int32), vi (1 : Int32), vr t11, vi (0 : Int32)] [])) _
  refine own_gs (cur' := T15.setTop (mkF m 33 #[vr b1, vi (1 : Int32), vi (1 : Int32), vr t11, vi (1 : Int32)] [(.ref t11)])) ?_ ?_
  · refine XS.iinc X15.here hx rfl (hb hby d_jdk_52_m_14_23) rfl (l' := #[vr b1, vi (1 : Int32), vi (1 : Int32), vr t11, vi (0 : Int32)]) rfl ?_
    refine XS.iinc X15.here hx rfl (hb hby d_jdk_52_m_14_26) rfl (l' := #[vr b1, vi (1 : Int32), vi (1 : Int32), vr t11, vi (1 : Int32)]) rfl ?_
    refine XS.goto X15.here hx rfl (pc0 := 29) (pc' := 8) rfl (hb hby d_jdk_52_m_14_29) (by decide) (by decide) ?_
    show Steps p.tables e below (T15.setTop (mkF m 8 #[vr b1, vi (1 : Int32), vi (1 : Int32), vr t11, vi (1 : Int32)] [])) _
    refine XS.iload X15.here hx rfl (hb hby d_jdk_52_m_14_8) rfl ?_
    refine XS.iloadN X15.here hx rfl (hb hby d_jdk_52_m_14_10) rfl ?_
    refine XS.icmpYes X15.here hx rfl (pc0 := 11) (pc' := 32) rfl (hb hby d_jdk_52_m_14_11) rfl (flt ((by decide) : ¬ ((1 : Int32) < (1 : Int32)))).2.1 (by decide) (by decide) ?_
    show Steps p.tables e below (T15.setTop (mkF m 32 #[vr b1, vi (1 : Int32), vi (1 : Int32), vr t11, vi (1 : Int32)] [])) _
    refine XS.aloadN X15.here hx rfl (hb hby d_jdk_52_m_14_32) rfl rfl ?_
    exact Steps.refl _
  obtain ⟨fs, hr, hrun, hended, hW1, hsame⟩ := X15.leave (v := (some (.ref t11))) (fun h => by rw [Bd.returns] at h; cases h)
  refine ⟨_, _, X15.areturnOut hx rfl Bd.returns rfl (hb hby d_jdk_52_m_14_33) hr, hrun, hended, _, _, rfl, ?_, ⟨_, rfl⟩, hW1, hsame.mono (by decide) (by decide)⟩
  show own_u_tob1_Q Z b1 k1 c0 h0 n0 (some (.ref t11)) T15.heap _
  exact ⟨_, _, rfl, N15, K16, Vu15, (by omega)⟩
def own_u_cmp1_Q (Z : State) (b1 d1 : Nat) (k1 k2 : ClassId) (c0 : Int32) (h0 : Heap) (n0 : Nat) (v : Option Value) (h : Heap) (L : List Loc) : Prop := Fr n0 L ∧ Keep h0 h [d1] ∧ ((v = some (.int (1 : Int32)) ∧ (∀ c ∈ ([c0] : List Int32), ¬ (255 : Int32) < c) ∧ Arv Z h d1 k2 .byte (1 : Int32) [(.int (StrChars.lo8 c0))] (.int (0 : Int32))) ∨ (v = some (.int (0 : Int32)) ∧ (255 : Int32) < c0))
theorem ef_own_u_cmp1 (m : MethodId) (x0 : Nat) (x1 : Int32) (x2 : Nat) (x3 : Int32) (x4 : Int32) : entryFrame m #[(.ref x0), (.int x1), (.ref x2), (.int x3), (.int x4)] 7 = mkF m 0 #[vr x0, vi x1, vr x2, vi x3, vi x4, .unset, .unset] [] := by first | (simp [entryFrame, mkF, argsToLocals, Value.category]; done) | rfl
theorem d_jdk_52_m_21_0 : decode jdk_52_method_21_code 0 = .ok (.iconst 0, 1) := by decide +kernel
theorem d_jdk_52_m_21_1 : decode jdk_52_method_21_code 1 = .ok (.istore 5, 2) := by decide +kernel
theorem d_jdk_52_m_21_3 : decode jdk_52_method_21_code 3 = .ok (.iload 5, 2) := by decide +kernel
theorem d_jdk_52_m_21_5 : decode jdk_52_method_21_code 5 = .ok (.iload 4, 2) := by decide +kernel
theorem d_jdk_52_m_21_7 : decode jdk_52_method_21_code 7 = .ok (.if_icmp .ge 37, 3) := by decide +kernel
theorem d_jdk_52_m_21_10 : decode jdk_52_method_21_code 10 = .ok (.aload_n 0, 1) := by decide +kernel
theorem d_jdk_52_m_21_11 : decode jdk_52_method_21_code 11 = .ok (.iload_n 1, 1) := by decide +kernel
theorem d_jdk_52_m_21_12 : decode jdk_52_method_21_code 12 = .ok (.caload, 1) := by decide +kernel
theorem d_jdk_52_m_21_13 : decode jdk_52_method_21_code 13 = .ok (.istore 6, 2) := by decide +kernel
theorem d_jdk_52_m_21_15 : decode jdk_52_method_21_code 15 = .ok (.iload 6, 2) := by decide +kernel
theorem d_jdk_52_m_21_17 : decode jdk_52_method_21_code 17 = .ok (.sipush 255, 3) := by decide +kernel
theorem d_jdk_52_m_21_20 : decode jdk_52_method_21_code 20 = .ok (.if_icmp .le 6, 3) := by decide +kernel
theorem d_jdk_52_m_21_23 : decode jdk_52_method_21_code 23 = .ok (.iload 5, 2) := by decide +kernel
theorem d_jdk_52_m_21_25 : decode jdk_52_method_21_code 25 = .ok (.ireturn, 1) := by decide +kernel
theorem d_jdk_52_m_21_26 : decode jdk_52_method_21_code 26 = .ok (.aload_n 2, 1) := by decide +kernel
theorem d_jdk_52_m_21_27 : decode jdk_52_method_21_code 27 = .ok (.iload_n 3, 1) := by decide +kernel
theorem d_jdk_52_m_21_28 : decode jdk_52_method_21_code 28 = .ok (.iload 6, 2) := by decide +kernel
theorem d_jdk_52_m_21_30 : decode jdk_52_method_21_code 30 = .ok (.i2b, 1) := by decide +kernel
theorem d_jdk_52_m_21_31 : decode jdk_52_method_21_code 31 = .ok (.bastore, 1) := by decide +kernel
theorem d_jdk_52_m_21_32 : decode jdk_52_method_21_code 32 = .ok (.iinc 1 1, 3) := by decide +kernel
theorem d_jdk_52_m_21_35 : decode jdk_52_method_21_code 35 = .ok (.iinc 3 1, 3) := by decide +kernel
theorem d_jdk_52_m_21_38 : decode jdk_52_method_21_code 38 = .ok (.iinc 5 1, 3) := by decide +kernel
theorem d_jdk_52_m_21_41 : decode jdk_52_method_21_code 41 = .ok (.goto (-38), 3) := by decide +kernel
theorem d_jdk_52_m_21_44 : decode jdk_52_method_21_code 44 = .ok (.iload 4, 2) := by decide +kernel
theorem d_jdk_52_m_21_46 : decode jdk_52_method_21_code 46 = .ok (.ireturn, 1) := by decide +kernel
set_option maxRecDepth 65536 in
set_option maxHeartbeats 40000000 in
theorem own_u_cmp1 (l : Launch) (Z : State) (a0 : Array Value) (hW : own_W Z a0) (b1 d1 : Nat) (k1 k2 : ClassId) (c0 : Int32) (h0 : Heap) (n0 : Nat) (Z0 : n0 ≤ h0.size) (O0 : Old Z n0 h0) (V1 : Arv Z h0 b1 k1 .char (1 : Int32) [(.int c0)] (.int (0 : Int32))) (V2 : Arv Z h0 d1 k2 .byte (1 : Int32) [(.int (0 : Int32))] (.int (0 : Int32))) (g2 : n0 ≤ d1) (hbd : b1 ≠ d1) :
    MetFree l (⟨"java/lang/StringUTF16", "compress", "([CI[BII)I"⟩ : MethodName) (head1 (Jvm.Cond.code (⟨"java/lang/StringUTF16", "compress", "([CI[BII)I"⟩ : MethodName) jdk_52_method_21_code 7 (some .int) :: []) ({ frames := 0, cells := 0, slots := 0, locals := 0 } : Room)) (fun a U => a = #[(.ref b1), (.int (0 : Int32)), (.ref d1), (.int (0 : Int32)), (.int (1 : Int32))] ∧ Z.Warmed39 U.vm ∧ U.heap = h0) (fun _ _ _ _ _ => True) (fun _ U o U' => ∃ v L, o = .returned v ∧ own_u_cmp1_Q Z b1 d1 k1 k2 c0 h0 n0 v U'.heap L ∧ FrameEnd U o U' L ({ frames := 0, cells := 0, slots := 0, locals := 0 } : Room).cells ({ frames := 0, cells := 0, slots := 0, locals := 0 } : Room).slots) := by
  refine MetFree.of_bodySF (plainFor_of_name pn_java_lang_StringUTF16) hisR ?_
  intro p e s m args below meth c s₁ Bd hml0 hP hK
  obtain ⟨rfl, hZ, hh⟩ := hP
  obtain ⟨hw, ⟨G1, O2, P5⟩, ⟨G3, O4, rG3⟩, Oa, Oh, Ol⟩ := id hW
  have hx := Bd.exec
  have hby := Bd.bytes
  have hml : c.maxLocals = 7 := hml0
  have hown : s.vm.findClass "java/lang/StringUTF16" = some m.cls := findClass_of_methodNamed Bd.named
  have hnm := (name_of_methodNamed Bd.named Bd.method).1
  have X0 : Stand p l e ({ frames := 0, cells := 0, slots := 0, locals := 0 } : Room) s m #[(.ref b1), (.int (0 : Int32)), (.ref d1), (.int (0 : Int32)), (.int (1 : Int32))] below meth c s₁ [] 0 0 := Stand.of_body Bd
  have e0 : s₁.heap = h0 := by rw [← hh, Bd.state]; rfl
  have N0 := Fr.nil n0
  have K0 := Keep.refl h0 [d1]
  have lt1 := own_lt V1.lt
  have lt2 := own_lt V2.lt
  show own_Fin p e below (s₁.setTop (entryFrame m #[(.ref b1), (.int (0 : Int32)), (.ref d1), (.int (0 : Int32)), (.int (1 : Int32))] 7)) _
  refine own_gs (castTop (ef_own_u_cmp1 m b1 (0 : Int32) d1 (0 : Int32) (1 : Int32)) (Steps.refl _)) ?_
  show own_Fin p e below (s₁.setTop (mkF m 0 #[vr b1, vi (0 : Int32), vr d1, vi (0 : Int32), vi (1 : Int32), uu, uu] [])) _
  refine own_gs (cur' := s₁.setTop (mkF m 12 #[vr b1, vi (0 : Int32), vr d1, vi (0 : Int32), vi (1 : Int32), vi (0 : Int32), uu] [(.int (0 : Int32)), (.ref b1)])) ?_ ?_
  · refine XS.iconst X0.here hx rfl (hb hby d_jdk_52_m_21_0) ?_
    refine XS.istore X0.here hx rfl (hb hby d_jdk_52_m_21_1) rfl (l' := #[vr b1, vi (0 : Int32), vr d1, vi (0 : Int32), vi (1 : Int32), vi (0 : Int32), uu]) rfl ?_
    refine XS.iload X0.here hx rfl (hb hby d_jdk_52_m_21_3) rfl ?_
    show Steps p.tables e below (s₁.setTop (mkF m 5 #[vr b1, vi (0 : Int32), vr d1, vi (0 : Int32), vi (1 : Int32), vi (0 : Int32), uu] [(.int (0 : Int32))])) _
    refine XS.iload X0.here hx rfl (hb hby d_jdk_52_m_21_5) rfl ?_
    refine XS.icmpNo X0.here hx rfl (hb hby d_jdk_52_m_21_7) rfl (tlt ((by decide) : (0 : Int32) < (1 : Int32))).2.1 ?_
    refine XS.aloadN X0.here hx rfl (hb hby d_jdk_52_m_21_10) rfl rfl ?_
    show Steps p.tables e below (s₁.setTop (mkF m 11 #[vr b1, vi (0 : Int32), vr d1, vi (0 : Int32), vi (1 : Int32), vi (0 : Int32), uu] [(.ref b1)])) _
    refine XS.iloadN X0.here hx rfl (hb hby d_jdk_52_m_21_11) rfl ?_
    exact Steps.refl _
  obtain ⟨cl11, Ar11, q11, S11, M11, Hs11, G11⟩ := id V1
  have hin11 : ¬ ((0 : Int32) < 0 ∨ cl11.slots.size ≤ ((0 : Int32)).toNatClampNeg) := inb_of S11 ⟨by decide, by decide⟩
  have hat11 : cl11.slots[((0 : Int32)).toNatClampNeg]? = some (.int c0) := Has.at Hs11 hin11 rfl
  refine own_go (X0.caload hx (j := (0 : Int32)) (v := (.int c0)) (by rw [e0]; exact Ar11.1) (State.isArrayOf_alike hZ.alike Ar11.2.1) Ar11.2.2 hin11 hat11 (g := (mkF m 12 #[vr b1, vi (0 : Int32), vr d1, vi (0 : Int32), vi (1 : Int32), vi (0 : Int32), uu] [(.int (0 : Int32)), (.ref b1)])) rfl rfl (hb hby d_jdk_52_m_21_12)) ?_
  show own_Fin p e below (s₁.setTop (mkF m 13 #[vr b1, vi (0 : Int32), vr d1, vi (0 : Int32), vi (1 : Int32), vi (0 : Int32), uu] [(.int c0)])) _
  refine own_gs (cur' := s₁.setTop (mkF m 20 #[vr b1, vi (0 : Int32), vr d1, vi (0 : Int32), vi (1 : Int32), vi (0 : Int32), vi c0] [(.int (255 : Int32)), (.int c0)])) ?_ ?_
  · refine XS.istore X0.here hx rfl (hb hby d_jdk_52_m_21_13) rfl (l' := #[vr b1, vi (0 : Int32), vr d1, vi (0 : Int32), vi (1 : Int32), vi (0 : Int32), vi c0]) rfl ?_
    refine XS.iload X0.here hx rfl (hb hby d_jdk_52_m_21_15) rfl ?_
    refine XS.sipush X0.here hx rfl (hb hby d_jdk_52_m_21_17) ?_
    exact Steps.refl _
  by_cases hc20_12 : (255 : Int32) < c0
  · refine own_gs (cur' := s₁.setTop (mkF m 25 #[vr b1, vi (0 : Int32), vr d1, vi (0 : Int32), vi (1 : Int32), vi (0 : Int32), vi c0] [(.int (0 : Int32))])) ?_ ?_
    · refine XS.icmpNo X0.here hx rfl (hb hby d_jdk_52_m_21_20) rfl (tlt (hc20_12 : (255 : Int32) < c0)).2.2.2 ?_
      refine XS.iload X0.here hx rfl (hb hby d_jdk_52_m_21_23) rfl ?_
      exact Steps.refl _
    obtain ⟨fs, hr, hrun, hended, hW1, hsame⟩ := X0.leave (v := (some (.int (0 : Int32)))) (fun h => by rw [Bd.returns] at h; cases h)
    refine ⟨_, _, retI X0 hx Bd.returns (hb hby d_jdk_52_m_21_25) hr, hrun, hended, _, _, rfl, ?_, ⟨_, rfl⟩, hW1, hsame.mono (by decide) (by decide)⟩
    show own_u_cmp1_Q Z b1 d1 k1 k2 c0 h0 n0 (some (.int (0 : Int32))) s₁.heap _
    rw [e0]
    exact ⟨N0, K0, Or.inr ⟨rfl, hc20_12⟩⟩
  · refine own_gs (cur' := s₁.setTop (mkF m 31 #[vr b1, vi (0 : Int32), vr d1, vi (0 : Int32), vi (1 : Int32), vi (0 : Int32), vi c0] [(.int (c0.toInt8.toInt32)), (.int (0 : Int32)), (.ref d1)])) ?_ ?_
    · refine XS.icmpYes X0.here hx rfl (pc0 := 20) (pc' := 26) rfl (hb hby d_jdk_52_m_21_20) rfl (flt (hc20_12 : ¬ ((255 : Int32) < c0))).2.2.2 (by decide) (by decide) ?_
      refine XS.aloadN X0.here hx rfl (hb hby d_jdk_52_m_21_26) rfl rfl ?_
      refine XS.iloadN X0.here hx rfl (hb hby d_jdk_52_m_21_27) rfl ?_
      show Steps p.tables e below (s₁.setTop (mkF m 28 #[vr b1, vi (0 : Int32), vr d1, vi (0 : Int32), vi (1 : Int32), vi (0 : Int32), vi c0] [(.int (0 : Int32)), (.ref d1)])) _
      refine XS.iload X0.here hx rfl (hb hby d_jdk_52_m_21_28) rfl ?_
      refine XS.i2b X0.here hx rfl (hb hby d_jdk_52_m_21_30) rfl ?_
      exact Steps.refl _
    obtain ⟨cl13, Ar13, q13, S13, M13, Hs13, G13⟩ := id V2
    have hin13 : ¬ ((0 : Int32) < 0 ∨ cl13.slots.size ≤ ((0 : Int32)).toNatClampNeg) := inb_of S13 ⟨by decide, by decide⟩
    obtain ⟨T13, h13, X13, e13, W13, st13⟩ := stB X0 hx hZ e0 Ar13 (j := (0 : Int32)) hin13 (g := (mkF m 31 #[vr b1, vi (0 : Int32), vr d1, vi (0 : Int32), vi (1 : Int32), vi (0 : Int32), vi c0] [(.int (c0.toInt8.toInt32)), (.int (0 : Int32)), (.ref d1)])) rfl rfl (hb hby d_jdk_52_m_21_31)
    have V13 := Arv.set Ar13 q13 S13 M13 Hs13 G13 (fits_nar_byte _) W13 0 rfl (Nat.le_of_ble_eq_true rfl)
    refine own_go st13 ?_
    show own_Fin p e below (T13.setTop (mkF m 32 #[vr b1, vi (0 : Int32), vr d1, vi (0 : Int32), vi (1 : Int32), vi (0 : Int32), vi c0] [])) _
    have z14 := W13.size
    have K14 := K0.wr W13 (Or.inl (List.mem_of_getElem? (i := 0) rfl))
    have O14 := O0.wr W13 (by omega)
    have N14 := Fr.snoc X13 N0 (by omega)
    have Vf := V13
    rw [own_b2] at Vf
    have hal : ∀ c ∈ ([c0] : List Int32), ¬ (255 : Int32) < c := by
      intro c hc
      simp only [List.mem_cons, List.not_mem_nil, or_false] at hc
      rcases hc with rfl
      · exact hc20_12
    refine own_gs (cur' := T13.setTop (mkF m 46 #[vr b1, vi (1 : Int32), vr d1, vi (1 : Int32), vi (1 : Int32), vi (1 : Int32), vi c0] [(.int (1 : Int32))])) ?_ ?_
    · refine XS.iinc X13.here hx rfl (hb hby d_jdk_52_m_21_32) rfl (l' := #[vr b1, vi (1 : Int32), vr d1, vi (0 : Int32), vi (1 : Int32), vi (0 : Int32), vi c0]) rfl ?_
      refine XS.iinc X13.here hx rfl (hb hby d_jdk_52_m_21_35) rfl (l' := #[vr b1, vi (1 : Int32), vr d1, vi (1 : Int32), vi (1 : Int32), vi (0 : Int32), vi c0]) rfl ?_
      refine XS.iinc X13.here hx rfl (hb hby d_jdk_52_m_21_38) rfl (l' := #[vr b1, vi (1 : Int32), vr d1, vi (1 : Int32), vi (1 : Int32), vi (1 : Int32), vi c0]) rfl ?_
      show Steps p.tables e below (T13.setTop (mkF m 41 #[vr b1, vi (1 : Int32), vr d1, vi (1 : Int32), vi (1 : Int32), vi (1 : Int32), vi c0] [])) _
      refine XS.goto X13.here hx rfl (pc0 := 41) (pc' := 3) rfl (hb hby d_jdk_52_m_21_41) (by decide) (by decide) ?_
      refine XS.iload X13.here hx rfl (hb hby d_jdk_52_m_21_3) rfl ?_
      refine XS.iload X13.here hx rfl (hb hby d_jdk_52_m_21_5) rfl ?_
      show Steps p.tables e below (T13.setTop (mkF m 7 #[vr b1, vi (1 : Int32), vr d1, vi (1 : Int32), vi (1 : Int32), vi (1 : Int32), vi c0] [(.int (1 : Int32)), (.int (1 : Int32))])) _
      refine XS.icmpYes X13.here hx rfl (pc0 := 7) (pc' := 44) rfl (hb hby d_jdk_52_m_21_7) rfl (flt ((by decide) : ¬ ((1 : Int32) < (1 : Int32)))).2.1 (by decide) (by decide) ?_
      refine XS.iload X13.here hx rfl (hb hby d_jdk_52_m_21_44) rfl ?_
      exact Steps.refl _
    obtain ⟨fs, hr, hrun, hended, hW1, hsame⟩ := X13.leave (v := (some (.int (1 : Int32)))) (fun h => by rw [Bd.returns] at h; cases h)
    refine ⟨_, _, retI X13 hx Bd.returns (hb hby d_jdk_52_m_21_46) hr, hrun, hended, _, _, rfl, ?_, ⟨_, rfl⟩, hW1, hsame.mono (by decide) (by decide)⟩
    show own_u_cmp1_Q Z b1 d1 k1 k2 c0 h0 n0 (some (.int (1 : Int32))) T13.heap _
    rw [e13]
    exact ⟨N14, K14, Or.inl ⟨rfl, hal, Vf⟩⟩
def own_u_cmpr1_Q (Z : State) (b1 : Nat) (k1 : ClassId) (c0 : Int32) (h0 : Heap) (n0 : Nat) (v : Option Value) (h : Heap) (L : List Loc) : Prop := ∃ (t : Nat) (kb : ClassId), v = some (.ref t) ∧ Fr n0 L ∧ Keep h0 h [] ∧ h0.size ≤ t ∧ (((∀ c ∈ ([c0] : List Int32), ¬ (255 : Int32) < c) ∧ Arv Z h t kb .byte (1 : Int32) [(.int (StrChars.lo8 c0))] (.int (0 : Int32))) ∨ ((∃ c ∈ ([c0] : List Int32), (255 : Int32) < c) ∧ Arv Z h t kb .byte (2 : Int32) (StrChars.Road.wideBytes [c0]) (.int (0 : Int32))))
theorem ef_own_u_cmpr1 (m : MethodId) (x0 : Nat) (x1 : Int32) (x2 : Int32) : entryFrame m #[(.ref x0), (.int x1), (.int x2)] 6 = mkF m 0 #[vr x0, vi x1, vi x2, .unset, .unset, .unset] [] := by first | (simp [entryFrame, mkF, argsToLocals, Value.category]; done) | rfl
theorem d_jdk_52_m_16_0 : decode jdk_52_method_16_code 0 = .ok (.iload_n 2, 1) := by decide +kernel
theorem d_jdk_52_m_16_1 : decode jdk_52_method_16_code 1 = .ok (.newarray .byte, 2) := by decide +kernel
theorem d_jdk_52_m_16_3 : decode jdk_52_method_16_code 3 = .ok (.astore_n 3, 1) := by decide +kernel
theorem d_jdk_52_m_16_4 : decode jdk_52_method_16_code 4 = .ok (.aload_n 0, 1) := by decide +kernel
theorem d_jdk_52_m_16_5 : decode jdk_52_method_16_code 5 = .ok (.iload_n 1, 1) := by decide +kernel
theorem d_jdk_52_m_16_6 : decode jdk_52_method_16_code 6 = .ok (.aload_n 3, 1) := by decide +kernel
theorem d_jdk_52_m_16_7 : decode jdk_52_method_16_code 7 = .ok (.iconst 0, 1) := by decide +kernel
theorem d_jdk_52_m_16_8 : decode jdk_52_method_16_code 8 = .ok (.iload_n 2, 1) := by decide +kernel
theorem d_jdk_52_m_16_9 : decode jdk_52_method_16_code 9 = .ok (.invokestatic 115, 3) := by decide +kernel
theorem pd_10 : parseMethodDescriptor "([CI[BII)I" = some ⟨[(.array .char), .int, (.array .byte), .int, .int], some .int⟩ := by decide +kernel
theorem d_jdk_52_m_16_12 : decode jdk_52_method_16_code 12 = .ok (.istore 4, 2) := by decide +kernel
theorem d_jdk_52_m_16_14 : decode jdk_52_method_16_code 14 = .ok (.iload 4, 2) := by decide +kernel
theorem d_jdk_52_m_16_16 : decode jdk_52_method_16_code 16 = .ok (.iload_n 2, 1) := by decide +kernel
theorem d_jdk_52_m_16_17 : decode jdk_52_method_16_code 17 = .ok (.if_icmp .eq 40, 3) := by decide +kernel
theorem d_jdk_52_m_16_57 : decode jdk_52_method_16_code 57 = .ok (.aload_n 3, 1) := by decide +kernel
theorem d_jdk_52_m_16_58 : decode jdk_52_method_16_code 58 = .ok (.areturn, 1) := by decide +kernel
theorem d_jdk_52_m_16_20 : decode jdk_52_method_16_code 20 = .ok (.aload_n 0, 1) := by decide +kernel
theorem d_jdk_52_m_16_21 : decode jdk_52_method_16_code 21 = .ok (.iload_n 1, 1) := by decide +kernel
theorem d_jdk_52_m_16_22 : decode jdk_52_method_16_code 22 = .ok (.iload_n 2, 1) := by decide +kernel
theorem d_jdk_52_m_16_23 : decode jdk_52_method_16_code 23 = .ok (.invokestatic 119, 3) := by decide +kernel
theorem pd_11 : parseMethodDescriptor "([CII)[B" = some ⟨[(.array .char), .int, .int], some (.array .byte)⟩ := by decide +kernel
theorem d_jdk_52_m_16_26 : decode jdk_52_method_16_code 26 = .ok (.astore 5, 2) := by decide +kernel
theorem d_jdk_52_m_16_28 : decode jdk_52_method_16_code 28 = .ok (.aload 5, 2) := by decide +kernel
theorem d_jdk_52_m_16_30 : decode jdk_52_method_16_code 30 = .ok (.iload 4, 2) := by decide +kernel
theorem d_jdk_52_m_16_32 : decode jdk_52_method_16_code 32 = .ok (.invokestatic 71, 3) := by decide +kernel
theorem d_jdk_52_m_16_35 : decode jdk_52_method_16_code 35 = .ok (.sipush 255, 3) := by decide +kernel
theorem d_jdk_52_m_16_38 : decode jdk_52_method_16_code 38 = .ok (.if_icmp .gt 16, 3) := by decide +kernel
theorem d_jdk_52_m_16_54 : decode jdk_52_method_16_code 54 = .ok (.aload 5, 2) := by decide +kernel
theorem d_jdk_52_m_16_56 : decode jdk_52_method_16_code 56 = .ok (.areturn, 1) := by decide +kernel
set_option maxRecDepth 65536 in
set_option maxHeartbeats 40000000 in
theorem own_u_cmpr1 (l : Launch) (Z : State) (a0 : Array Value) (hW : own_W Z a0) (b1 : Nat) (k1 : ClassId) (c0 : Int32) (h0 : Heap) (n0 : Nat) (Z0 : n0 ≤ h0.size) (O0 : Old Z n0 h0) (V1 : Arv Z h0 b1 k1 .char (1 : Int32) [(.int c0)] (.int (0 : Int32))) (hb0 : ¬ c0 < 0 ∧ ¬ (65535 : Int32) < c0) :
    MetFree l (⟨"java/lang/StringUTF16", "compress", "([CII)[B"⟩ : MethodName) (head1 (Jvm.Cond.code (⟨"java/lang/StringUTF16", "compress", "([CII)[B"⟩ : MethodName) jdk_52_method_16_code 6 (some (.array .byte)) :: []) ({ frames := 3, cells := 2, slots := 3, locals := 40 } : Room)) (fun a U => a = #[(.ref b1), (.int (0 : Int32)), (.int (1 : Int32))] ∧ Z.Warmed39 U.vm ∧ U.heap = h0) (fun _ _ _ _ _ => True) (fun _ U o U' => ∃ v L, o = .returned v ∧ own_u_cmpr1_Q Z b1 k1 c0 h0 n0 v U'.heap L ∧ FrameEnd U o U' L ({ frames := 3, cells := 2, slots := 3, locals := 40 } : Room).cells ({ frames := 3, cells := 2, slots := 3, locals := 40 } : Room).slots) := by
  refine MetFree.of_bodySF (plainFor_of_name pn_java_lang_StringUTF16) hisR ?_
  intro p e s m args below meth c s₁ Bd hml0 hP hK
  obtain ⟨rfl, hZ, hh⟩ := hP
  obtain ⟨hw, ⟨G1, O2, P5⟩, ⟨G3, O4, rG3⟩, Oa, Oh, Ol⟩ := id hW
  have hx := Bd.exec
  have hby := Bd.bytes
  have hml : c.maxLocals = 6 := hml0
  have hown : s.vm.findClass "java/lang/StringUTF16" = some m.cls := findClass_of_methodNamed Bd.named
  have hnm := (name_of_methodNamed Bd.named Bd.method).1
  have X0 : Stand p l e ({ frames := 3, cells := 2, slots := 3, locals := 40 } : Room) s m #[(.ref b1), (.int (0 : Int32)), (.int (1 : Int32))] below meth c s₁ [] 0 0 := Stand.of_body Bd
  have e0 : s₁.heap = h0 := by rw [← hh, Bd.state]; rfl
  have N0 := Fr.nil n0
  have K0 := Keep.refl h0 []
  have lt1 := own_lt V1.lt
  show own_Fin p e below (s₁.setTop (entryFrame m #[(.ref b1), (.int (0 : Int32)), (.int (1 : Int32))] 6)) _
  refine own_gs (castTop (ef_own_u_cmpr1 m b1 (0 : Int32) (1 : Int32)) (Steps.refl _)) ?_
  show own_Fin p e below (s₁.setTop (mkF m 0 #[vr b1, vi (0 : Int32), vi (1 : Int32), uu, uu, uu] [])) _
  refine own_gs (cur' := s₁.setTop (mkF m 1 #[vr b1, vi (0 : Int32), vi (1 : Int32), uu, uu, uu] [(.int (1 : Int32))])) ?_ ?_
  · refine XS.iloadN X0.here hx rfl (hb hby d_jdk_52_m_16_0) rfl ?_
    exact Steps.refl _
  obtain ⟨T11, h11, k11, X11, e11, E11, A11, st11⟩ := newP X0 hx hZ (hw _ (List.mem_of_getElem? (i := 16) rfl)) e0 (g := (mkF m 1 #[vr b1, vi (0 : Int32), vi (1 : Int32), uu, uu, uu] [(.int (1 : Int32))])) rfl (hb hby d_jdk_52_m_16_1) rfl (by decide) (cap := 1) (by decide) (by decide) (by decide) (by decide)
  obtain ⟨b11, g11⟩ : ∃ z, z = h0.size := ⟨_, rfl⟩
  rw [← g11] at A11 st11
  have lt11 := own_lt A11.lt
  refine own_go st11 ?_
  show own_Fin p e below (T11.setTop (mkF m 3 #[vr b1, vi (0 : Int32), vi (1 : Int32), uu, uu, uu] [(.ref b11)])) _
  have z12 := E11.1
  have K12 := K0.ext E11
  have O12 := O0.ext E11
  have V11 : Arv Z h11 b11 k11 .byte (1 : Int32) [(.int (0 : Int32))] (.int (0 : Int32)) := (Arv.new A11 (by decide)).pad (pad_rep [] (.int (0 : Int32)) 1)
  have f13 := (V1.ext E11)
  refine own_gs (cur' := T11.setTop (mkF m 9 #[vr b1, vi (0 : Int32), vi (1 : Int32), vr b11, uu, uu] [(.int (1 : Int32)), (.int (0 : Int32)), (.ref b11), (.int (0 : Int32)), (.ref b1)])) ?_ ?_
  · refine XS.astoreN X11.here hx rfl (hb hby d_jdk_52_m_16_3) rfl rfl (l' := #[vr b1, vi (0 : Int32), vi (1 : Int32), vr b11, uu, uu]) rfl ?_
    refine XS.aloadN X11.here hx rfl (hb hby d_jdk_52_m_16_4) rfl rfl ?_
    refine XS.iloadN X11.here hx rfl (hb hby d_jdk_52_m_16_5) rfl ?_
    show Steps p.tables e below (T11.setTop (mkF m 6 #[vr b1, vi (0 : Int32), vi (1 : Int32), vr b11, uu, uu] [(.int (0 : Int32)), (.ref b1)])) _
    refine XS.aloadN X11.here hx rfl (hb hby d_jdk_52_m_16_6) rfl rfl ?_
    refine XS.iconst X11.here hx rfl (hb hby d_jdk_52_m_16_7) ?_
    refine XS.iloadN X11.here hx rfl (hb hby d_jdk_52_m_16_8) rfl ?_
    exact Steps.refl _
  obtain ⟨_, _, ⟨T14, L14, k14, n14⟩, -, X14, ⟨Lc14, hQ14, l14, y14, z14⟩, st14⟩ := Jvm.LawKit.callS X11 hx (y := (⟨"java/lang/StringUTF16", "compress", "([CI[BII)I"⟩ : MethodName)) hown (mvT hZ (hw _ (List.mem_of_getElem? (i := 28) rfl))) (mvT hZ (hw _ (List.mem_of_getElem? (i := 29) rfl))) (mvT hZ (hw _ (List.mem_of_getElem? (i := 26) rfl))) (mvT hZ (hw _ (List.mem_of_getElem? (i := 30) rfl))) (by decide) (backOf (W := 0) (own_u_cmp1 l Z a0 hW b1 b11 k1 k11 c0 h11 n0 (by omega) O12 f13 V11 (by omega) (by omega)) hZ (hw _ (List.mem_of_getElem? (i := 30) rfl)) (hw _ (List.mem_of_getElem? (i := 26) rfl)) (by decide) (by decide)) (g := (mkF m 9 #[vr b1, vi (0 : Int32), vi (1 : Int32), vr b11, uu, uu] [(.int (1 : Int32)), (.int (0 : Int32)), (.ref b11), (.int (0 : Int32)), (.ref b1)])) rfl (by rw [hml]; rfl) (argsL := [(.ref b1), (.int (0 : Int32)), (.ref b11), (.int (0 : Int32)), (.int (1 : Int32))]) (rest := []) (lenOf pd_10 rfl) rfl (by show 2 * 0 + _ ≤ _; exact Nat.le_of_eq rfl) (hb hby d_jdk_52_m_16_9) (fun _ _ => ⟨rfl, e11, (by decide : 1 + 0 ≤ 2), (by decide : 1 + 0 ≤ 3)⟩)
  dsimp only [Pt.U, Pt.locs, Pt.cells, Pt.slots] at X14 l14 y14 z14 st14 hQ14
  subst l14 y14 z14
  obtain ⟨Nq14, Kq14, hor⟩ := hQ14
  have N14 := Fr.app N0 Nq14
  have z15 := Kq14.1
  have K15 := K12.trans Kq14 (allS (Or.inr (by omega)) all0)
  have O15 := O12.keep Kq14 (allS (by omega) all0)
  rcases hor with ⟨rfl, hal, Vl⟩ | ⟨rfl, hbig⟩
  · refine own_go st14 ?_
    show own_Fin p e below (T14.setTop (mkF m 12 #[vr b1, vi (0 : Int32), vi (1 : Int32), vr b11, uu, uu] [(.int (1 : Int32))])) _
    refine own_gs (cur' := T14.setTop (mkF m 58 #[vr b1, vi (0 : Int32), vi (1 : Int32), vr b11, vi (1 : Int32), uu] [(.ref b11)])) ?_ ?_
    · refine XS.istore X14.here hx rfl (hb hby d_jdk_52_m_16_12) rfl (l' := #[vr b1, vi (0 : Int32), vi (1 : Int32), vr b11, vi (1 : Int32), uu]) rfl ?_
      refine XS.iload X14.here hx rfl (hb hby d_jdk_52_m_16_14) rfl ?_
      refine XS.iloadN X14.here hx rfl (hb hby d_jdk_52_m_16_16) rfl ?_
      show Steps p.tables e below (T14.setTop (mkF m 17 #[vr b1, vi (0 : Int32), vi (1 : Int32), vr b11, vi (1 : Int32), uu] [(.int (1 : Int32)), (.int (1 : Int32))])) _
      refine XS.icmpYes X14.here hx rfl (pc0 := 17) (pc' := 57) rfl (hb hby d_jdk_52_m_16_17) rfl (teq ((by decide) : (1 : Int32) = (1 : Int32))).1 (by decide) (by decide) ?_
      refine XS.aloadN X14.here hx rfl (hb hby d_jdk_52_m_16_57) rfl rfl ?_
      exact Steps.refl _
    obtain ⟨fs, hr, hrun, hended, hW1, hsame⟩ := X14.leave (v := (some (.ref b11))) (fun h => by rw [Bd.returns] at h; cases h)
    refine ⟨_, _, X14.areturnOut hx rfl Bd.returns rfl (hb hby d_jdk_52_m_16_58) hr, hrun, hended, _, _, rfl, ?_, ⟨_, rfl⟩, hW1, hsame.mono (by decide) (by decide)⟩
    show own_u_cmpr1_Q Z b1 k1 c0 h0 n0 (some (.ref b11)) T14.heap _
    exact ⟨_, _, rfl, N14, K15, (by omega), Or.inl ⟨hal, Vl⟩⟩
  · refine own_go st14 ?_
    show own_Fin p e below (T14.setTop (mkF m 12 #[vr b1, vi (0 : Int32), vi (1 : Int32), vr b11, uu, uu] [(.int (0 : Int32))])) _
    have f16 := (f13.keep Kq14 (ninS (own_ne (a := b1) (b := b11) (by omega)) nin0))
    refine own_gs (cur' := T14.setTop (mkF m 23 #[vr b1, vi (0 : Int32), vi (1 : Int32), vr b11, vi (0 : Int32), uu] [(.int (1 : Int32)), (.int (0 : Int32)), (.ref b1)])) ?_ ?_
    · refine XS.istore X14.here hx rfl (hb hby d_jdk_52_m_16_12) rfl (l' := #[vr b1, vi (0 : Int32), vi (1 : Int32), vr b11, vi (0 : Int32), uu]) rfl ?_
      refine XS.iload X14.here hx rfl (hb hby d_jdk_52_m_16_14) rfl ?_
      refine XS.iloadN X14.here hx rfl (hb hby d_jdk_52_m_16_16) rfl ?_
      show Steps p.tables e below (T14.setTop (mkF m 17 #[vr b1, vi (0 : Int32), vi (1 : Int32), vr b11, vi (0 : Int32), uu] [(.int (1 : Int32)), (.int (0 : Int32))])) _
      refine XS.icmpNo X14.here hx rfl (hb hby d_jdk_52_m_16_17) rfl (feq ((by decide) : ¬ ((0 : Int32) = (1 : Int32)))).1 ?_
      refine XS.aloadN X14.here hx rfl (hb hby d_jdk_52_m_16_20) rfl rfl ?_
      refine XS.iloadN X14.here hx rfl (hb hby d_jdk_52_m_16_21) rfl ?_
      show Steps p.tables e below (T14.setTop (mkF m 22 #[vr b1, vi (0 : Int32), vi (1 : Int32), vr b11, vi (0 : Int32), uu] [(.int (0 : Int32)), (.ref b1)])) _
      refine XS.iloadN X14.here hx rfl (hb hby d_jdk_52_m_16_22) rfl ?_
      exact Steps.refl _
    obtain ⟨_, _, ⟨T17, L17, k17, n17⟩, -, X17, ⟨Lc17, hQ17, l17, y17, z17⟩, st17⟩ := Jvm.LawKit.callS X14 hx (y := (⟨"java/lang/StringUTF16", "toBytes", "([CII)[B"⟩ : MethodName)) hown (mvT hZ (hw _ (List.mem_of_getElem? (i := 74) rfl))) (mvT hZ (hw _ (List.mem_of_getElem? (i := 75) rfl))) (mvT hZ (hw _ (List.mem_of_getElem? (i := 26) rfl))) (mvT hZ (hw _ (List.mem_of_getElem? (i := 76) rfl))) (by decide) (backOf (W := 0) (own_u_tob1 l Z a0 hW b1 k1 c0 T14.heap n0 (by omega) O15 f16) hZ (hw _ (List.mem_of_getElem? (i := 76) rfl)) (hw _ (List.mem_of_getElem? (i := 26) rfl)) (by decide) (by decide)) (g := (mkF m 23 #[vr b1, vi (0 : Int32), vi (1 : Int32), vr b11, vi (0 : Int32), uu] [(.int (1 : Int32)), (.int (0 : Int32)), (.ref b1)])) rfl (by rw [hml]; rfl) (argsL := [(.ref b1), (.int (0 : Int32)), (.int (1 : Int32))]) (rest := []) (lenOf pd_11 rfl) rfl (by show 2 * 0 + _ ≤ _; exact Nat.le_of_eq rfl) (hb hby d_jdk_52_m_16_23) (fun _ _ => ⟨rfl, rfl, (by decide : 1 + 1 ≤ 2), (by decide : 1 + 2 ≤ 3)⟩)
    dsimp only [Pt.U, Pt.locs, Pt.cells, Pt.slots] at X17 l17 y17 z17 st17 hQ17
    subst l17 y17 z17
    obtain ⟨t17, kb17, rfl, Nq17, Kq17, Vt17, ge17⟩ := hQ17
    have N17 := Fr.app N14 Nq17
    have z18 := Kq17.1
    have K18 := K15.trans Kq17 all0
    have O18 := O15.keep Kq17 all0
    have lt17 := own_lt Vt17.lt
    refine own_go st17 ?_
    show own_Fin p e below (T17.setTop (mkF m 26 #[vr b1, vi (0 : Int32), vi (1 : Int32), vr b11, vi (0 : Int32), uu] [(.ref t17)])) _
    refine own_gs (cur' := T17.setTop (mkF m 32 #[vr b1, vi (0 : Int32), vi (1 : Int32), vr b11, vi (0 : Int32), vr t17] [(.int (0 : Int32)), (.ref t17)])) ?_ ?_
    · refine XS.astore X17.here hx rfl (hb hby d_jdk_52_m_16_26) rfl rfl (l' := #[vr b1, vi (0 : Int32), vi (1 : Int32), vr b11, vi (0 : Int32), vr t17]) rfl ?_
      refine XS.aload X17.here hx rfl (hb hby d_jdk_52_m_16_28) rfl rfl ?_
      refine XS.iload X17.here hx rfl (hb hby d_jdk_52_m_16_30) rfl ?_
      exact Steps.refl _
    obtain ⟨_, _, ⟨T19, L19, k19, n19⟩, -, X19, ⟨Lc19, hQ19, l19, y19, z19⟩, st19⟩ := Jvm.LawKit.callS X17 hx (y := (⟨"java/lang/StringUTF16", "getChar", "([BI)C"⟩ : MethodName)) hown (mvT hZ (hw _ (List.mem_of_getElem? (i := 90) rfl))) (mvT hZ (hw _ (List.mem_of_getElem? (i := 91) rfl))) (mvT hZ (hw _ (List.mem_of_getElem? (i := 26) rfl))) (mvT hZ (hw _ (List.mem_of_getElem? (i := 92) rfl))) (by decide) (backOf (W := 0) (own_u_getc l Z a0 hW t17 kb17 1 0 (StrChars.Road.wideBytes [c0]) (StrChars.lo8 c0) (StrChars.hi8 c0) T17.heap n0 (by omega) O18 (by decide) (by decide) Vt17 rfl rfl) hZ (hw _ (List.mem_of_getElem? (i := 92) rfl)) (hw _ (List.mem_of_getElem? (i := 26) rfl)) (by decide) (by decide)) (g := (mkF m 32 #[vr b1, vi (0 : Int32), vi (1 : Int32), vr b11, vi (0 : Int32), vr t17] [(.int (0 : Int32)), (.ref t17)])) rfl (by rw [hml]; rfl) (argsL := [(.ref t17), (.int (0 : Int32))]) (rest := []) (lenOf pd_5 rfl) rfl (by show 2 * 0 + _ ≤ _; exact Nat.le_of_eq rfl) (hb hby d_jdk_52_m_16_32) (fun _ _ => ⟨rfl, rfl, (by decide : 2 + 0 ≤ 2), (by decide : 3 + 0 ≤ 3)⟩)
    dsimp only [Pt.U, Pt.locs, Pt.cells, Pt.slots] at X19 l19 y19 z19 st19 hQ19
    subst l19 y19 z19
    obtain ⟨rfl, Nq19, eh19⟩ := hQ19
    have N19 := Fr.app N17 Nq19
    rw [StrChars.pair_says hb0.1 hb0.2] at st19
    refine own_go st19 ?_
    show own_Fin p e below (T19.setTop (mkF m 35 #[vr b1, vi (0 : Int32), vi (1 : Int32), vr b11, vi (0 : Int32), vr t17] [(.int c0)])) _
    refine own_gs (cur' := T19.setTop (mkF m 56 #[vr b1, vi (0 : Int32), vi (1 : Int32), vr b11, vi (0 : Int32), vr t17] [(.ref t17)])) ?_ ?_
    · refine XS.sipush X19.here hx rfl (hb hby d_jdk_52_m_16_35) ?_
      refine XS.icmpYes X19.here hx rfl (pc0 := 38) (pc' := 54) rfl (hb hby d_jdk_52_m_16_38) rfl (tlt (hbig : (255 : Int32) < c0)).2.2.1 (by decide) (by decide) ?_
      refine XS.aload X19.here hx rfl (hb hby d_jdk_52_m_16_54) rfl rfl ?_
      exact Steps.refl _
    obtain ⟨fs, hr, hrun, hended, hW1, hsame⟩ := X19.leave (v := (some (.ref t17))) (fun h => by rw [Bd.returns] at h; cases h)
    refine ⟨_, _, X19.areturnOut hx rfl Bd.returns rfl (hb hby d_jdk_52_m_16_56) hr, hrun, hended, _, _, rfl, ?_, ⟨_, rfl⟩, hW1, hsame.mono (by decide) (by decide)⟩
    show own_u_cmpr1_Q Z b1 k1 c0 h0 n0 (some (.ref t17)) T19.heap _
    rw [eh19]
    exact ⟨_, _, rfl, N19, K18, (by omega), Or.inr ⟨⟨_, List.mem_of_getElem? (i := 0) rfl, hbig⟩, Vt17⟩⟩
def own_u_cfa1_0_Q (Z : State) (t1 : Nat) (k1 : ClassId) (vs : List Value) (h0 : Heap) (n0 : Nat) (v : Option Value) (h : Heap) (L : List Loc) : Prop := v = (some (.int (0 : Int32))) ∧ Fr n0 L ∧ h = h0
theorem ef_own_u_cfa1_0 (m : MethodId) (x0 : Nat) (x1 : Int32) : entryFrame m #[(.ref x0), (.int x1)] 2 = mkF m 0 #[vr x0, vi x1] [] := by first | (simp [entryFrame, mkF, argsToLocals, Value.category]; done) | rfl
theorem d_jdk_52_m_15_0 : decode jdk_52_method_15_code 0 = .ok (.iload_n 1, 1) := by decide +kernel
theorem d_jdk_52_m_15_1 : decode jdk_52_method_15_code 1 = .ok (.aload_n 0, 1) := by decide +kernel
theorem d_jdk_52_m_15_2 : decode jdk_52_method_15_code 2 = .ok (.arraylength, 1) := by decide +kernel
theorem d_jdk_52_m_15_3 : decode jdk_52_method_15_code 3 = .ok (.isub, 1) := by decide +kernel
theorem d_jdk_52_m_15_4 : decode jdk_52_method_15_code 4 = .ok (.bipush 31, 2) := by decide +kernel
theorem d_jdk_52_m_15_6 : decode jdk_52_method_15_code 6 = .ok (.iushr, 1) := by decide +kernel
theorem d_jdk_52_m_15_7 : decode jdk_52_method_15_code 7 = .ok (.i2b, 1) := by decide +kernel
theorem d_jdk_52_m_15_8 : decode jdk_52_method_15_code 8 = .ok (.ireturn, 1) := by decide +kernel
set_option maxRecDepth 65536 in
set_option maxHeartbeats 40000000 in
theorem own_u_cfa1_0 (l : Launch) (Z : State) (a0 : Array Value) (hW : own_W Z a0) (t1 : Nat) (k1 : ClassId) (vs : List Value) (h0 : Heap) (n0 : Nat) (Z0 : n0 ≤ h0.size) (O0 : Old Z n0 h0) (V1 : Arv Z h0 t1 k1 .byte (1 : Int32) vs (.int (0 : Int32))) :
    MetFree l (⟨"java/lang/StringUTF16", "coderFromArrayLen", "([BI)B"⟩ : MethodName) (head1 (Jvm.Cond.code (⟨"java/lang/StringUTF16", "coderFromArrayLen", "([BI)B"⟩ : MethodName) jdk_52_method_15_code 2 (some .byte) :: []) ({ frames := 0, cells := 0, slots := 0, locals := 0 } : Room)) (fun a U => a = #[(.ref t1), (.int (1 : Int32))] ∧ Z.Warmed39 U.vm ∧ U.heap = h0) (fun _ _ _ _ _ => True) (fun _ U o U' => ∃ v L, o = .returned v ∧ own_u_cfa1_0_Q Z t1 k1 vs h0 n0 v U'.heap L ∧ FrameEnd U o U' L ({ frames := 0, cells := 0, slots := 0, locals := 0 } : Room).cells ({ frames := 0, cells := 0, slots := 0, locals := 0 } : Room).slots) := by
  refine MetFree.of_bodySF (plainFor_of_name pn_java_lang_StringUTF16) hisR ?_
  intro p e s m args below meth c s₁ Bd hml0 hP hK
  obtain ⟨rfl, hZ, hh⟩ := hP
  obtain ⟨hw, ⟨G1, O2, P5⟩, ⟨G3, O4, rG3⟩, Oa, Oh, Ol⟩ := id hW
  have hx := Bd.exec
  have hby := Bd.bytes
  have hml : c.maxLocals = 2 := hml0
  have hown : s.vm.findClass "java/lang/StringUTF16" = some m.cls := findClass_of_methodNamed Bd.named
  have hnm := (name_of_methodNamed Bd.named Bd.method).1
  have X0 : Stand p l e ({ frames := 0, cells := 0, slots := 0, locals := 0 } : Room) s m #[(.ref t1), (.int (1 : Int32))] below meth c s₁ [] 0 0 := Stand.of_body Bd
  have e0 : s₁.heap = h0 := by rw [← hh, Bd.state]; rfl
  have N0 := Fr.nil n0
  have K0 := Keep.refl h0 []
  show own_Fin p e below (s₁.setTop (entryFrame m #[(.ref t1), (.int (1 : Int32))] 2)) _
  refine own_gs (castTop (ef_own_u_cfa1_0 m t1 (1 : Int32)) (Steps.refl _)) ?_
  show own_Fin p e below (s₁.setTop (mkF m 0 #[vr t1, vi (1 : Int32)] [])) _
  refine own_gs (cur' := s₁.setTop (mkF m 2 #[vr t1, vi (1 : Int32)] [(.ref t1), (.int (1 : Int32))])) ?_ ?_
  · refine XS.iloadN X0.here hx rfl (hb hby d_jdk_52_m_15_0) rfl ?_
    refine XS.aloadN X0.here hx rfl (hb hby d_jdk_52_m_15_1) rfl rfl ?_
    exact Steps.refl _
  obtain ⟨cl11, Ar11, q11, S11, M11, Hs11, G11⟩ := id V1
  refine own_go (X0.arraylength hx (by rw [e0]; exact Ar11.1) (State.isArrayOf_alike hZ.alike Ar11.2.1) (g := (mkF m 2 #[vr t1, vi (1 : Int32)] [(.ref t1), (.int (1 : Int32))])) rfl rfl (hb hby d_jdk_52_m_15_2)) ?_
  rw [len_of S11 M11]
  show own_Fin p e below (s₁.setTop (mkF m 3 #[vr t1, vi (1 : Int32)] [(.int (1 : Int32)), (.int (1 : Int32))])) _
  refine own_gs (cur' := s₁.setTop (mkF m 8 #[vr t1, vi (1 : Int32)] [(.int (0 : Int32))])) ?_ ?_
  · refine XS.isub X0.here hx rfl (hb hby d_jdk_52_m_15_3) rfl ?_
    refine XS.bipush X0.here hx rfl (hb hby d_jdk_52_m_15_4) ?_
    refine XS.iushr X0.here hx rfl (hb hby d_jdk_52_m_15_6) rfl ?_
    show Steps p.tables e below (s₁.setTop (mkF m 7 #[vr t1, vi (1 : Int32)] [(.int (0 : Int32))])) _
    refine XS.i2b X0.here hx rfl (hb hby d_jdk_52_m_15_7) rfl ?_
    exact Steps.refl _
  obtain ⟨fs, hr, hrun, hended, hW1, hsame⟩ := X0.leave (v := (some (.int (0 : Int32)))) (fun h => by rw [Bd.returns] at h; cases h)
  refine ⟨_, _, retN X0 hx (t := .byte) Bd.returns (by simp) (hb hby d_jdk_52_m_15_8) hr, hrun, hended, _, _, rfl, ?_, ⟨_, rfl⟩, hW1, hsame.mono (by decide) (by decide)⟩
  show own_u_cfa1_0_Q Z t1 k1 vs h0 n0 (some (.int (0 : Int32))) s₁.heap _
  rw [e0]
  exact ⟨rfl, N0, rfl⟩
def own_u_cfa1_1_Q (Z : State) (t1 : Nat) (k1 : ClassId) (vs : List Value) (h0 : Heap) (n0 : Nat) (v : Option Value) (h : Heap) (L : List Loc) : Prop := v = (some (.int (1 : Int32))) ∧ Fr n0 L ∧ h = h0
theorem ef_own_u_cfa1_1 (m : MethodId) (x0 : Nat) (x1 : Int32) : entryFrame m #[(.ref x0), (.int x1)] 2 = mkF m 0 #[vr x0, vi x1] [] := by first | (simp [entryFrame, mkF, argsToLocals, Value.category]; done) | rfl
set_option maxRecDepth 65536 in
set_option maxHeartbeats 40000000 in
theorem own_u_cfa1_1 (l : Launch) (Z : State) (a0 : Array Value) (hW : own_W Z a0) (t1 : Nat) (k1 : ClassId) (vs : List Value) (h0 : Heap) (n0 : Nat) (Z0 : n0 ≤ h0.size) (O0 : Old Z n0 h0) (V1 : Arv Z h0 t1 k1 .byte (2 : Int32) vs (.int (0 : Int32))) :
    MetFree l (⟨"java/lang/StringUTF16", "coderFromArrayLen", "([BI)B"⟩ : MethodName) (head1 (Jvm.Cond.code (⟨"java/lang/StringUTF16", "coderFromArrayLen", "([BI)B"⟩ : MethodName) jdk_52_method_15_code 2 (some .byte) :: []) ({ frames := 0, cells := 0, slots := 0, locals := 0 } : Room)) (fun a U => a = #[(.ref t1), (.int (1 : Int32))] ∧ Z.Warmed39 U.vm ∧ U.heap = h0) (fun _ _ _ _ _ => True) (fun _ U o U' => ∃ v L, o = .returned v ∧ own_u_cfa1_1_Q Z t1 k1 vs h0 n0 v U'.heap L ∧ FrameEnd U o U' L ({ frames := 0, cells := 0, slots := 0, locals := 0 } : Room).cells ({ frames := 0, cells := 0, slots := 0, locals := 0 } : Room).slots) := by
  refine MetFree.of_bodySF (plainFor_of_name pn_java_lang_StringUTF16) hisR ?_
  intro p e s m args below meth c s₁ Bd hml0 hP hK
  obtain ⟨rfl, hZ, hh⟩ := hP
  obtain ⟨hw, ⟨G1, O2, P5⟩, ⟨G3, O4, rG3⟩, Oa, Oh, Ol⟩ := id hW
  have hx := Bd.exec
  have hby := Bd.bytes
  have hml : c.maxLocals = 2 := hml0
  have hown : s.vm.findClass "java/lang/StringUTF16" = some m.cls := findClass_of_methodNamed Bd.named
  have hnm := (name_of_methodNamed Bd.named Bd.method).1
  have X0 : Stand p l e ({ frames := 0, cells := 0, slots := 0, locals := 0 } : Room) s m #[(.ref t1), (.int (1 : Int32))] below meth c s₁ [] 0 0 := Stand.of_body Bd
  have e0 : s₁.heap = h0 := by rw [← hh, Bd.state]; rfl
  have N0 := Fr.nil n0
  have K0 := Keep.refl h0 []
  show own_Fin p e below (s₁.setTop (entryFrame m #[(.ref t1), (.int (1 : Int32))] 2)) _
  refine own_gs (castTop (ef_own_u_cfa1_1 m t1 (1 : Int32)) (Steps.refl _)) ?_
  show own_Fin p e below (s₁.setTop (mkF m 0 #[vr t1, vi (1 : Int32)] [])) _
  refine own_gs (cur' := s₁.setTop (mkF m 2 #[vr t1, vi (1 : Int32)] [(.ref t1), (.int (1 : Int32))])) ?_ ?_
  · refine XS.iloadN X0.here hx rfl (hb hby d_jdk_52_m_15_0) rfl ?_
    refine XS.aloadN X0.here hx rfl (hb hby d_jdk_52_m_15_1) rfl rfl ?_
    exact Steps.refl _
  obtain ⟨cl11, Ar11, q11, S11, M11, Hs11, G11⟩ := id V1
  refine own_go (X0.arraylength hx (by rw [e0]; exact Ar11.1) (State.isArrayOf_alike hZ.alike Ar11.2.1) (g := (mkF m 2 #[vr t1, vi (1 : Int32)] [(.ref t1), (.int (1 : Int32))])) rfl rfl (hb hby d_jdk_52_m_15_2)) ?_
  rw [len_of S11 M11]
  show own_Fin p e below (s₁.setTop (mkF m 3 #[vr t1, vi (1 : Int32)] [(.int (2 : Int32)), (.int (1 : Int32))])) _
  refine own_gs (cur' := s₁.setTop (mkF m 8 #[vr t1, vi (1 : Int32)] [(.int (1 : Int32))])) ?_ ?_
  · refine XS.isub X0.here hx rfl (hb hby d_jdk_52_m_15_3) rfl ?_
    refine XS.bipush X0.here hx rfl (hb hby d_jdk_52_m_15_4) ?_
    refine XS.iushr X0.here hx rfl (hb hby d_jdk_52_m_15_6) rfl ?_
    show Steps p.tables e below (s₁.setTop (mkF m 7 #[vr t1, vi (1 : Int32)] [(.int (1 : Int32))])) _
    refine XS.i2b X0.here hx rfl (hb hby d_jdk_52_m_15_7) rfl ?_
    exact Steps.refl _
  obtain ⟨fs, hr, hrun, hended, hW1, hsame⟩ := X0.leave (v := (some (.int (1 : Int32)))) (fun h => by rw [Bd.returns] at h; cases h)
  refine ⟨_, _, retN X0 hx (t := .byte) Bd.returns (by simp) (hb hby d_jdk_52_m_15_8) hr, hrun, hended, _, _, rfl, ?_, ⟨_, rfl⟩, hW1, hsame.mono (by decide) (by decide)⟩
  show own_u_cfa1_1_Q Z t1 k1 vs h0 n0 (some (.int (1 : Int32))) s₁.heap _
  rw [e0]
  exact ⟨rfl, N0, rfl⟩
def own_u_new4_1_Q (Z : State) (x1 b1 : Nat) (v0 c0_ : Value) (k1 : ClassId) (c0 : Int32) (h0 : Heap) (n0 : Nat) (v : Option Value) (h : Heap) (L : List Loc) : Prop := v = none ∧ Fr n0 L ∧ Keep h0 h [x1] ∧ ∃ t : Nat, x1 ≠ t ∧ own_Str Z h x1 t [c0]
theorem ef_own_u_new4_1 (m : MethodId) (x0 : Nat) (x1 : Nat) (x2 : Int32) (x3 : Int32) : entryFrame m #[(.ref x0), (.ref x1), (.int x2), (.int x3), .null] 6 = mkF m 0 #[vr x0, vr x1, vi x2, vi x3, vn, .unset] [] := by first | (simp [entryFrame, mkF, argsToLocals, Value.category]; done) | rfl
theorem d_jdk_42_m_149_27 : decode jdk_42_method_149_code 27 = .ok (.getstatic 38, 3) := by decide +kernel
theorem d_jdk_42_m_149_30 : decode jdk_42_method_149_code 30 = .ok (.ifCond .eq 28, 3) := by decide +kernel
theorem d_jdk_42_m_149_33 : decode jdk_42_method_149_code 33 = .ok (.aload_n 1, 1) := by decide +kernel
theorem d_jdk_42_m_149_34 : decode jdk_42_method_149_code 34 = .ok (.iload_n 2, 1) := by decide +kernel
theorem d_jdk_42_m_149_35 : decode jdk_42_method_149_code 35 = .ok (.iload_n 3, 1) := by decide +kernel
theorem d_jdk_42_m_149_36 : decode jdk_42_method_149_code 36 = .ok (.invokestatic 177, 3) := by decide +kernel
theorem d_jdk_42_m_149_39 : decode jdk_42_method_149_code 39 = .ok (.astore 5, 2) := by decide +kernel
theorem d_jdk_42_m_149_41 : decode jdk_42_method_149_code 41 = .ok (.aload_n 0, 1) := by decide +kernel
theorem d_jdk_42_m_149_42 : decode jdk_42_method_149_code 42 = .ok (.aload 5, 2) := by decide +kernel
theorem d_jdk_42_m_149_44 : decode jdk_42_method_149_code 44 = .ok (.iload_n 3, 1) := by decide +kernel
theorem d_jdk_42_m_149_45 : decode jdk_42_method_149_code 45 = .ok (.invokestatic 47, 3) := by decide +kernel
theorem pd_12 : parseMethodDescriptor "([BI)B" = some ⟨[(.array .byte), .int], some .byte⟩ := by decide +kernel
theorem d_jdk_42_m_149_48 : decode jdk_42_method_149_code 48 = .ok (.putfield 15, 3) := by decide +kernel
theorem d_jdk_42_m_149_51 : decode jdk_42_method_149_code 51 = .ok (.aload_n 0, 1) := by decide +kernel
theorem d_jdk_42_m_149_52 : decode jdk_42_method_149_code 52 = .ok (.aload 5, 2) := by decide +kernel
theorem d_jdk_42_m_149_54 : decode jdk_42_method_149_code 54 = .ok (.putfield 9, 3) := by decide +kernel
theorem d_jdk_42_m_149_57 : decode jdk_42_method_149_code 57 = .ok (.return_, 1) := by decide +kernel
set_option maxRecDepth 65536 in
set_option maxHeartbeats 40000000 in
theorem own_u_new4_1 (l : Launch) (Z : State) (a0 : Array Value) (hW : own_W Z a0) (x1 b1 : Nat) (v0 c0_ : Value) (k1 : ClassId) (c0 : Int32) (h0 : Heap) (n0 : Nat) (Z0 : n0 ≤ h0.size) (O0 : Old Z n0 h0) (E1 : Exa Z h0 x1 "java/lang/String") (Fv1 : Fld Z h0 x1 "java/lang/String" "value" "[B" v0) (Fc1 : Fld Z h0 x1 "java/lang/String" "coder" "B" c0_) (g1 : n0 ≤ x1) (V1 : Arv Z h0 b1 k1 .char (1 : Int32) [(.int c0)] (.int (0 : Int32))) (hb0 : ¬ c0 < 0 ∧ ¬ (65535 : Int32) < c0) :
    MetFree l (⟨"java/lang/String", "<init>", "([CIILjava/lang/Void;)V"⟩ : MethodName) (head1 (Jvm.Cond.code (⟨"java/lang/String", "<init>", "([CIILjava/lang/Void;)V"⟩ : MethodName) jdk_42_method_149_code 6 none :: []) ({ frames := 4, cells := 2, slots := 3, locals := 57 } : Room)) (fun a U => a = #[(.ref x1), (.ref b1), (.int (0 : Int32)), (.int (1 : Int32)), .null] ∧ Z.Warmed39 U.vm ∧ U.heap = h0) (fun _ _ _ _ _ => True) (fun _ U o U' => ∃ v L, o = .returned v ∧ own_u_new4_1_Q Z x1 b1 v0 c0_ k1 c0 h0 n0 v U'.heap L ∧ FrameEnd U o U' L ({ frames := 4, cells := 2, slots := 3, locals := 57 } : Room).cells ({ frames := 4, cells := 2, slots := 3, locals := 57 } : Room).slots) := by
  refine MetFree.of_bodySF (plainFor_of_name pn_java_lang_String) hisR ?_
  intro p e s m args below meth c s₁ Bd hml0 hP hK
  obtain ⟨rfl, hZ, hh⟩ := hP
  obtain ⟨hw, ⟨G1, O2, P5⟩, ⟨G3, O4, rG3⟩, Oa, Oh, Ol⟩ := id hW
  have hx := Bd.exec
  have hby := Bd.bytes
  have hml : c.maxLocals = 6 := hml0
  have hown : s.vm.findClass "java/lang/String" = some m.cls := findClass_of_methodNamed Bd.named
  have hnm := (name_of_methodNamed Bd.named Bd.method).1
  have X0 : Stand p l e ({ frames := 4, cells := 2, slots := 3, locals := 57 } : Room) s m #[(.ref x1), (.ref b1), (.int (0 : Int32)), (.int (1 : Int32)), .null] below meth c s₁ [] 0 0 := Stand.of_body Bd
  have e0 : s₁.heap = h0 := by rw [← hh, Bd.state]; rfl
  have N0 := Fr.nil n0
  have K0 := Keep.refl h0 [x1]
  have lt1 := own_lt E1.lt
  have lt1 := own_lt V1.lt
  have hbd : ∀ c ∈ ([c0] : List Int32), ¬ c < 0 ∧ ¬ (65535 : Int32) < c := by
    intro c hc
    simp only [List.mem_cons, List.not_mem_nil, or_false] at hc
    rcases hc with rfl
    · exact hb0
  show own_Fin p e below (s₁.setTop (entryFrame m #[(.ref x1), (.ref b1), (.int (0 : Int32)), (.int (1 : Int32)), .null] 6)) _
  refine own_gs (castTop (ef_own_u_new4_1 m x1 b1 (0 : Int32) (1 : Int32)) (Steps.refl _)) ?_
  show own_Fin p e below (s₁.setTop (mkF m 0 #[vr x1, vr b1, vi (0 : Int32), vi (1 : Int32), vn, uu] [])) _
  refine own_gs (cur' := s₁.setTop (mkF m 1 #[vr x1, vr b1, vi (0 : Int32), vi (1 : Int32), vn, uu] [(.ref x1)])) ?_ ?_
  · refine XS.aloadN X0.here hx rfl (hb hby d_jdk_42_m_149_0) rfl rfl ?_
    exact Steps.refl _
  obtain ⟨T11, X11, e11, st11⟩ := initO X0 hx hZ hown (hw _ (List.mem_of_getElem? (i := 12) rfl)) (hw _ (List.mem_of_getElem? (i := 13) rfl)) (hw _ (List.mem_of_getElem? (i := 14) rfl)) e0 (g := (mkF m 1 #[vr x1, vr b1, vi (0 : Int32), vi (1 : Int32), vn, uu] [(.ref x1)])) rfl (by rw [hml]; rfl) rfl (hb hby d_jdk_42_m_149_1) (by decide) (W := 0) (by show 2 * 0 + _ ≤ _; exact Nat.le_of_eq rfl) (by decide)
  refine own_go st11 ?_
  show own_Fin p e below (T11.setTop (mkF m 4 #[vr x1, vr b1, vi (0 : Int32), vi (1 : Int32), vn, uu] [])) _
  refine own_gs (cur' := T11.setTop (mkF m 27 #[vr x1, vr b1, vi (0 : Int32), vi (1 : Int32), vn, uu] [])) ?_ ?_
  · refine XS.iloadN X11.here hx rfl (hb hby d_jdk_42_m_149_4) rfl ?_
    refine XS.ifYes X11.here hx rfl (pc0 := 5) (pc' := 27) rfl (hb hby d_jdk_42_m_149_5) rfl ((if0 _ _).trans (feq ((by decide) : ¬ ((1 : Int32) = (0 : Int32)))).2) (by decide) (by decide) ?_
    exact Steps.refl _
  obtain ⟨T12, X12, e12, st12⟩ := getS2 X11 hx hZ hown (host := "") (Or.inl (hw _ (List.mem_of_getElem? (i := 23) rfl))) Via.refl e11 (O2.ext O0.2) (g := (mkF m 27 #[vr x1, vr b1, vi (0 : Int32), vi (1 : Int32), vn, uu] [])) rfl (hb hby d_jdk_42_m_149_27)
  refine own_go st12 ?_
  show own_Fin p e below (T12.setTop (mkF m 30 #[vr x1, vr b1, vi (0 : Int32), vi (1 : Int32), vn, uu] [(.int G1)])) _
  refine own_gs (cur' := T12.setTop (mkF m 36 #[vr x1, vr b1, vi (0 : Int32), vi (1 : Int32), vn, uu] [(.int (1 : Int32)), (.int (0 : Int32)), (.ref b1)])) ?_ ?_
  · refine XS.ifNo X12.here hx rfl (hb hby d_jdk_42_m_149_30) rfl ((if0 _ _).trans (feq (P5 : ¬ (G1 = (0 : Int32)))).1) ?_
    refine XS.aloadN X12.here hx rfl (hb hby d_jdk_42_m_149_33) rfl rfl ?_
    refine XS.iloadN X12.here hx rfl (hb hby d_jdk_42_m_149_34) rfl ?_
    show Steps p.tables e below (T12.setTop (mkF m 35 #[vr x1, vr b1, vi (0 : Int32), vi (1 : Int32), vn, uu] [(.int (0 : Int32)), (.ref b1)])) _
    refine XS.iloadN X12.here hx rfl (hb hby d_jdk_42_m_149_35) rfl ?_
    exact Steps.refl _
  obtain ⟨_, _, ⟨T13, L13, k13, n13⟩, -, X13, ⟨Lc13, hQ13, l13, y13, z13⟩, st13⟩ := Jvm.LawKit.callS X12 hx (y := (⟨"java/lang/StringUTF16", "compress", "([CII)[B"⟩ : MethodName)) hown (mvT hZ (hw _ (List.mem_of_getElem? (i := 24) rfl))) (mvT hZ (hw _ (List.mem_of_getElem? (i := 25) rfl))) (mvT hZ (hw _ (List.mem_of_getElem? (i := 26) rfl))) (mvT hZ (hw _ (List.mem_of_getElem? (i := 27) rfl))) (by decide) (backOf (W := 0) (own_u_cmpr1 l Z a0 hW b1 k1 c0 h0 n0 (by omega) O0 V1 hb0) hZ (hw _ (List.mem_of_getElem? (i := 27) rfl)) (hw _ (List.mem_of_getElem? (i := 26) rfl)) (by decide) (by decide)) (g := (mkF m 36 #[vr x1, vr b1, vi (0 : Int32), vi (1 : Int32), vn, uu] [(.int (1 : Int32)), (.int (0 : Int32)), (.ref b1)])) rfl (by rw [hml]; rfl) (argsL := [(.ref b1), (.int (0 : Int32)), (.int (1 : Int32))]) (rest := []) (lenOf pd_11 rfl) rfl (by show 2 * 0 + _ ≤ _; exact Nat.le_of_eq rfl) (hb hby d_jdk_42_m_149_36) (fun _ _ => ⟨rfl, e12, (by decide : 0 + 2 ≤ 2), (by decide : 0 + 3 ≤ 3)⟩)
  dsimp only [Pt.U, Pt.locs, Pt.cells, Pt.slots] at X13 l13 y13 z13 st13 hQ13
  subst l13 y13 z13
  obtain ⟨t13, kb13, rfl, Nq13, Kq13, ge13, hor⟩ := hQ13
  have N13 := Fr.app N0 Nq13
  have z14 := Kq13.1
  have K14 := K0.trans Kq13 all0
  have O14 := O0.keep Kq13 all0
  rcases hor with ⟨hal, Vt⟩ | ⟨hbig, Vt⟩
  · have ltt := own_lt Vt.lt
    refine own_go st13 ?_
    show own_Fin p e below (T13.setTop (mkF m 39 #[vr x1, vr b1, vi (0 : Int32), vi (1 : Int32), vn, uu] [(.ref t13)])) _
    refine own_gs (cur' := T13.setTop (mkF m 45 #[vr x1, vr b1, vi (0 : Int32), vi (1 : Int32), vn, vr t13] [(.int (1 : Int32)), (.ref t13), (.ref x1)])) ?_ ?_
    · refine XS.astore X13.here hx rfl (hb hby d_jdk_42_m_149_39) rfl rfl (l' := #[vr x1, vr b1, vi (0 : Int32), vi (1 : Int32), vn, vr t13]) rfl ?_
      refine XS.aloadN X13.here hx rfl (hb hby d_jdk_42_m_149_41) rfl rfl ?_
      refine XS.aload X13.here hx rfl (hb hby d_jdk_42_m_149_42) rfl rfl ?_
      show Steps p.tables e below (T13.setTop (mkF m 44 #[vr x1, vr b1, vi (0 : Int32), vi (1 : Int32), vn, vr t13] [(.ref t13), (.ref x1)])) _
      refine XS.iloadN X13.here hx rfl (hb hby d_jdk_42_m_149_44) rfl ?_
      exact Steps.refl _
    obtain ⟨_, _, ⟨T15, L15, k15, n15⟩, -, X15, ⟨Lc15, hQ15, l15, y15, z15⟩, st15⟩ := Jvm.LawKit.callS X13 hx (y := (⟨"java/lang/StringUTF16", "coderFromArrayLen", "([BI)B"⟩ : MethodName)) hown (mvT hZ (hw _ (List.mem_of_getElem? (i := 31) rfl))) (mvT hZ (hw _ (List.mem_of_getElem? (i := 32) rfl))) (mvT hZ (hw _ (List.mem_of_getElem? (i := 26) rfl))) (mvT hZ (hw _ (List.mem_of_getElem? (i := 33) rfl))) (by decide) (backOf (W := 1) (own_u_cfa1_0 l Z a0 hW t13 kb13 _ T13.heap n0 (by omega) O14 Vt) hZ (hw _ (List.mem_of_getElem? (i := 33) rfl)) (hw _ (List.mem_of_getElem? (i := 26) rfl)) (by decide) (by decide)) (g := (mkF m 45 #[vr x1, vr b1, vi (0 : Int32), vi (1 : Int32), vn, vr t13] [(.int (1 : Int32)), (.ref t13), (.ref x1)])) rfl (by rw [hml]; rfl) (argsL := [(.ref t13), (.int (1 : Int32))]) (rest := [(.ref x1)]) (lenOf pd_12 rfl) rfl (by show 2 * 0 + _ ≤ _; exact Nat.le_of_eq rfl) (hb hby d_jdk_42_m_149_45) (fun _ _ => ⟨rfl, rfl, (by decide : 2 + 0 ≤ 2), (by decide : 3 + 0 ≤ 3)⟩)
    dsimp only [Pt.U, Pt.locs, Pt.cells, Pt.slots] at X15 l15 y15 z15 st15 hQ15
    subst l15 y15 z15
    obtain ⟨rfl, Nq15, eh15⟩ := hQ15
    have N15 := Fr.app N13 Nq15
    refine own_go st15 ?_
    show own_Fin p e below (T15.setTop (mkF m 48 #[vr x1, vr b1, vi (0 : Int32), vi (1 : Int32), vn, vr t13] [(.int (0 : Int32)), (.ref x1)])) _
    have f17 := (Fc1.keep Kq13 nin0)
    have f18 := (E1.keep Kq13)
    obtain ⟨T16, h16, X16, e16, W16, st16⟩ := putF X15 hx hZ hown (host := "") (Or.inl (hw _ (List.mem_of_getElem? (i := 22) rfl))) Via.refl eh15 f17 f18 (Or.inr ⟨(hw _ (List.mem_of_getElem? (i := 18) rfl)), rfl, hnm⟩) (hw _ (List.mem_of_getElem? (i := 2) rfl)) (ty := .byte) (by decide) rfl rfl (g := (mkF m 48 #[vr x1, vr b1, vi (0 : Int32), vi (1 : Int32), vn, vr t13] [(.int (0 : Int32)), (.ref x1)])) rfl rfl (hb hby d_jdk_42_m_149_48)
    have F16 := f17.same W16
    refine own_go st16 ?_
    show own_Fin p e below (T16.setTop (mkF m 51 #[vr x1, vr b1, vi (0 : Int32), vi (1 : Int32), vn, vr t13] [])) _
    have z19 := W16.size
    have K19 := K14.wr W16 (Or.inl (List.mem_of_getElem? (i := 0) rfl))
    have O19 := O14.wr W16 (by omega)
    have N19 := Fr.snoc X16 N15 (by omega)
    refine own_gs (cur' := T16.setTop (mkF m 54 #[vr x1, vr b1, vi (0 : Int32), vi (1 : Int32), vn, vr t13] [(.ref t13), (.ref x1)])) ?_ ?_
    · refine XS.aloadN X16.here hx rfl (hb hby d_jdk_42_m_149_51) rfl rfl ?_
      refine XS.aload X16.here hx rfl (hb hby d_jdk_42_m_149_52) rfl rfl ?_
      exact Steps.refl _
    have f21 := ((Fv1.keep Kq13 nin0).other W16 (Or.inr (slot_ne (Or.inr (hw _ (List.mem_of_getElem? (i := 17) rfl))) (Or.inr (hw _ (List.mem_of_getElem? (i := 18) rfl))) (by decide) (t := (.array .byte)) (t' := .byte) (by decide) (by decide))))
    have f22 := (f18.wr W16)
    obtain ⟨T20, h20, X20, e20, W20, st20⟩ := putF X16 hx hZ hown (host := "") (Or.inl (hw _ (List.mem_of_getElem? (i := 21) rfl))) Via.refl e16 f21 f22 (Or.inr ⟨(hw _ (List.mem_of_getElem? (i := 17) rfl)), rfl, hnm⟩) (hw _ (List.mem_of_getElem? (i := 2) rfl)) (ty := (.array .byte)) (by decide) rfl rfl (g := (mkF m 54 #[vr x1, vr b1, vi (0 : Int32), vi (1 : Int32), vn, vr t13] [(.ref t13), (.ref x1)])) rfl rfl (hb hby d_jdk_42_m_149_54)
    have F20 := f21.same W20
    refine own_go st20 ?_
    show own_Fin p e below (T20.setTop (mkF m 57 #[vr x1, vr b1, vi (0 : Int32), vi (1 : Int32), vn, vr t13] [])) _
    have z23 := W20.size
    have K23 := K19.wr W20 (Or.inl (List.mem_of_getElem? (i := 0) rfl))
    have O23 := O19.wr W20 (by omega)
    have N23 := Fr.snoc X20 N19 (by omega)
    have f24 := (f22.wr W20)
    have f25 := (F16.other W20 (Or.inr (slot_ne (Or.inr (hw _ (List.mem_of_getElem? (i := 18) rfl))) (Or.inr (hw _ (List.mem_of_getElem? (i := 17) rfl))) (by decide) (t := .byte) (t' := (.array .byte)) (by decide) (by decide))))
    have f26 := ((Vt.other W16 (own_ne (a := t13) (b := x1) (by omega))).other W20 (own_ne (a := t13) (b := x1) (by omega)))
    obtain ⟨fs, hr, hrun, hended, hW1, hsame⟩ := X20.leave (v := none) (fun _ => rfl)
    refine ⟨_, _, X20.returnOut hx Bd.returns (hb hby d_jdk_42_m_149_57) hr, hrun, hended, _, _, rfl, ?_, ⟨_, rfl⟩, hW1, hsame.mono (by decide) (by decide)⟩
    show own_u_new4_1_Q Z x1 b1 v0 c0_ k1 c0 h0 n0 none T20.heap _
    rw [e20]
    exact ⟨rfl, N23, K23, t13, (by omega), ⟨_, _, _, _, f24, F20, f25, f26, Or.inl ⟨rfl, rfl, rfl, hal⟩, hbd, Nat.le_of_ble_eq_true rfl⟩⟩
  · have ltt := own_lt Vt.lt
    refine own_go st13 ?_
    show own_Fin p e below (T13.setTop (mkF m 39 #[vr x1, vr b1, vi (0 : Int32), vi (1 : Int32), vn, uu] [(.ref t13)])) _
    refine own_gs (cur' := T13.setTop (mkF m 45 #[vr x1, vr b1, vi (0 : Int32), vi (1 : Int32), vn, vr t13] [(.int (1 : Int32)), (.ref t13), (.ref x1)])) ?_ ?_
    · refine XS.astore X13.here hx rfl (hb hby d_jdk_42_m_149_39) rfl rfl (l' := #[vr x1, vr b1, vi (0 : Int32), vi (1 : Int32), vn, vr t13]) rfl ?_
      refine XS.aloadN X13.here hx rfl (hb hby d_jdk_42_m_149_41) rfl rfl ?_
      refine XS.aload X13.here hx rfl (hb hby d_jdk_42_m_149_42) rfl rfl ?_
      show Steps p.tables e below (T13.setTop (mkF m 44 #[vr x1, vr b1, vi (0 : Int32), vi (1 : Int32), vn, vr t13] [(.ref t13), (.ref x1)])) _
      refine XS.iloadN X13.here hx rfl (hb hby d_jdk_42_m_149_44) rfl ?_
      exact Steps.refl _
    obtain ⟨_, _, ⟨T27, L27, k27, n27⟩, -, X27, ⟨Lc27, hQ27, l27, y27, z27⟩, st27⟩ := Jvm.LawKit.callS X13 hx (y := (⟨"java/lang/StringUTF16", "coderFromArrayLen", "([BI)B"⟩ : MethodName)) hown (mvT hZ (hw _ (List.mem_of_getElem? (i := 31) rfl))) (mvT hZ (hw _ (List.mem_of_getElem? (i := 32) rfl))) (mvT hZ (hw _ (List.mem_of_getElem? (i := 26) rfl))) (mvT hZ (hw _ (List.mem_of_getElem? (i := 33) rfl))) (by decide) (backOf (W := 1) (own_u_cfa1_1 l Z a0 hW t13 kb13 _ T13.heap n0 (by omega) O14 Vt) hZ (hw _ (List.mem_of_getElem? (i := 33) rfl)) (hw _ (List.mem_of_getElem? (i := 26) rfl)) (by decide) (by decide)) (g := (mkF m 45 #[vr x1, vr b1, vi (0 : Int32), vi (1 : Int32), vn, vr t13] [(.int (1 : Int32)), (.ref t13), (.ref x1)])) rfl (by rw [hml]; rfl) (argsL := [(.ref t13), (.int (1 : Int32))]) (rest := [(.ref x1)]) (lenOf pd_12 rfl) rfl (by show 2 * 0 + _ ≤ _; exact Nat.le_of_eq rfl) (hb hby d_jdk_42_m_149_45) (fun _ _ => ⟨rfl, rfl, (by decide : 2 + 0 ≤ 2), (by decide : 3 + 0 ≤ 3)⟩)
    dsimp only [Pt.U, Pt.locs, Pt.cells, Pt.slots] at X27 l27 y27 z27 st27 hQ27
    subst l27 y27 z27
    obtain ⟨rfl, Nq27, eh27⟩ := hQ27
    have N27 := Fr.app N13 Nq27
    refine own_go st27 ?_
    show own_Fin p e below (T27.setTop (mkF m 48 #[vr x1, vr b1, vi (0 : Int32), vi (1 : Int32), vn, vr t13] [(.int (1 : Int32)), (.ref x1)])) _
    have f29 := (Fc1.keep Kq13 nin0)
    have f30 := (E1.keep Kq13)
    obtain ⟨T28, h28, X28, e28, W28, st28⟩ := putF X27 hx hZ hown (host := "") (Or.inl (hw _ (List.mem_of_getElem? (i := 22) rfl))) Via.refl eh27 f29 f30 (Or.inr ⟨(hw _ (List.mem_of_getElem? (i := 18) rfl)), rfl, hnm⟩) (hw _ (List.mem_of_getElem? (i := 2) rfl)) (ty := .byte) (by decide) rfl rfl (g := (mkF m 48 #[vr x1, vr b1, vi (0 : Int32), vi (1 : Int32), vn, vr t13] [(.int (1 : Int32)), (.ref x1)])) rfl rfl (hb hby d_jdk_42_m_149_48)
    have F28 := f29.same W28
    refine own_go st28 ?_
    show own_Fin p e below (T28.setTop (mkF m 51 #[vr x1, vr b1, vi (0 : Int32), vi (1 : Int32), vn, vr t13] [])) _
    have z31 := W28.size
    have K31 := K14.wr W28 (Or.inl (List.mem_of_getElem? (i := 0) rfl))
    have O31 := O14.wr W28 (by omega)
    have N31 := Fr.snoc X28 N27 (by omega)
    refine own_gs (cur' := T28.setTop (mkF m 54 #[vr x1, vr b1, vi (0 : Int32), vi (1 : Int32), vn, vr t13] [(.ref t13), (.ref x1)])) ?_ ?_
    · refine XS.aloadN X28.here hx rfl (hb hby d_jdk_42_m_149_51) rfl rfl ?_
      refine XS.aload X28.here hx rfl (hb hby d_jdk_42_m_149_52) rfl rfl ?_
      exact Steps.refl _
    have f33 := ((Fv1.keep Kq13 nin0).other W28 (Or.inr (slot_ne (Or.inr (hw _ (List.mem_of_getElem? (i := 17) rfl))) (Or.inr (hw _ (List.mem_of_getElem? (i := 18) rfl))) (by decide) (t := (.array .byte)) (t' := .byte) (by decide) (by decide))))
    have f34 := (f30.wr W28)
    obtain ⟨T32, h32, X32, e32, W32, st32⟩ := putF X28 hx hZ hown (host := "") (Or.inl (hw _ (List.mem_of_getElem? (i := 21) rfl))) Via.refl e28 f33 f34 (Or.inr ⟨(hw _ (List.mem_of_getElem? (i := 17) rfl)), rfl, hnm⟩) (hw _ (List.mem_of_getElem? (i := 2) rfl)) (ty := (.array .byte)) (by decide) rfl rfl (g := (mkF m 54 #[vr x1, vr b1, vi (0 : Int32), vi (1 : Int32), vn, vr t13] [(.ref t13), (.ref x1)])) rfl rfl (hb hby d_jdk_42_m_149_54)
    have F32 := f33.same W32
    refine own_go st32 ?_
    show own_Fin p e below (T32.setTop (mkF m 57 #[vr x1, vr b1, vi (0 : Int32), vi (1 : Int32), vn, vr t13] [])) _
    have z35 := W32.size
    have K35 := K31.wr W32 (Or.inl (List.mem_of_getElem? (i := 0) rfl))
    have O35 := O31.wr W32 (by omega)
    have N35 := Fr.snoc X32 N31 (by omega)
    have f36 := (f34.wr W32)
    have f37 := (F28.other W32 (Or.inr (slot_ne (Or.inr (hw _ (List.mem_of_getElem? (i := 18) rfl))) (Or.inr (hw _ (List.mem_of_getElem? (i := 17) rfl))) (by decide) (t := .byte) (t' := (.array .byte)) (by decide) (by decide))))
    have f38 := ((Vt.other W28 (own_ne (a := t13) (b := x1) (by omega))).other W32 (own_ne (a := t13) (b := x1) (by omega)))
    obtain ⟨fs, hr, hrun, hended, hW1, hsame⟩ := X32.leave (v := none) (fun _ => rfl)
    refine ⟨_, _, X32.returnOut hx Bd.returns (hb hby d_jdk_42_m_149_57) hr, hrun, hended, _, _, rfl, ?_, ⟨_, rfl⟩, hW1, hsame.mono (by decide) (by decide)⟩
    show own_u_new4_1_Q Z x1 b1 v0 c0_ k1 c0 h0 n0 none T32.heap _
    rw [e32]
    exact ⟨rfl, N35, K35, t13, (by omega), ⟨_, _, _, _, f36, F32, f37, f38, Or.inr ⟨rfl, rfl, rfl, hbig⟩, hbd, Nat.le_of_ble_eq_true rfl⟩⟩
def own_u_new1_1_Q (Z : State) (x1 b1 : Nat) (v0 c0_ : Value) (k1 : ClassId) (c0 : Int32) (h0 : Heap) (n0 : Nat) (v : Option Value) (h : Heap) (L : List Loc) : Prop := v = none ∧ Fr n0 L ∧ Keep h0 h [x1] ∧ ∃ t : Nat, x1 ≠ t ∧ own_Str Z h x1 t [c0]
theorem ef_own_u_new1_1 (m : MethodId) (x0 : Nat) (x1 : Nat) : entryFrame m #[(.ref x0), (.ref x1)] 2 = mkF m 0 #[vr x0, vr x1] [] := by first | (simp [entryFrame, mkF, argsToLocals, Value.category]; done) | rfl
set_option maxRecDepth 65536 in
set_option maxHeartbeats 40000000 in
theorem own_u_new1_1 (l : Launch) (Z : State) (a0 : Array Value) (hW : own_W Z a0) (x1 b1 : Nat) (v0 c0_ : Value) (k1 : ClassId) (c0 : Int32) (h0 : Heap) (n0 : Nat) (Z0 : n0 ≤ h0.size) (O0 : Old Z n0 h0) (E1 : Exa Z h0 x1 "java/lang/String") (Fv1 : Fld Z h0 x1 "java/lang/String" "value" "[B" v0) (Fc1 : Fld Z h0 x1 "java/lang/String" "coder" "B" c0_) (g1 : n0 ≤ x1) (V1 : Arv Z h0 b1 k1 .char (1 : Int32) [(.int c0)] (.int (0 : Int32))) (hb0 : ¬ c0 < 0 ∧ ¬ (65535 : Int32) < c0) :
    MetFree l (⟨"java/lang/String", "<init>", "([C)V"⟩ : MethodName) (head1 (Jvm.Cond.code (⟨"java/lang/String", "<init>", "([C)V"⟩ : MethodName) jdk_42_method_3_code 2 none :: []) ({ frames := 5, cells := 2, slots := 3, locals := 74 } : Room)) (fun a U => a = #[(.ref x1), (.ref b1)] ∧ Z.Warmed39 U.vm ∧ U.heap = h0) (fun _ _ _ _ _ => True) (fun _ U o U' => ∃ v L, o = .returned v ∧ own_u_new1_1_Q Z x1 b1 v0 c0_ k1 c0 h0 n0 v U'.heap L ∧ FrameEnd U o U' L ({ frames := 5, cells := 2, slots := 3, locals := 74 } : Room).cells ({ frames := 5, cells := 2, slots := 3, locals := 74 } : Room).slots) := by
  refine MetFree.of_bodySF (plainFor_of_name pn_java_lang_String) hisR ?_
  intro p e s m args below meth c s₁ Bd hml0 hP hK
  obtain ⟨rfl, hZ, hh⟩ := hP
  obtain ⟨hw, ⟨G1, O2, P5⟩, ⟨G3, O4, rG3⟩, Oa, Oh, Ol⟩ := id hW
  have hx := Bd.exec
  have hby := Bd.bytes
  have hml : c.maxLocals = 2 := hml0
  have hown : s.vm.findClass "java/lang/String" = some m.cls := findClass_of_methodNamed Bd.named
  have hnm := (name_of_methodNamed Bd.named Bd.method).1
  have X0 : Stand p l e ({ frames := 5, cells := 2, slots := 3, locals := 74 } : Room) s m #[(.ref x1), (.ref b1)] below meth c s₁ [] 0 0 := Stand.of_body Bd
  have e0 : s₁.heap = h0 := by rw [← hh, Bd.state]; rfl
  have N0 := Fr.nil n0
  have K0 := Keep.refl h0 [x1]
  have lt1 := own_lt E1.lt
  have lt1 := own_lt V1.lt
  show own_Fin p e below (s₁.setTop (entryFrame m #[(.ref x1), (.ref b1)] 2)) _
  refine own_gs (castTop (ef_own_u_new1_1 m x1 b1) (Steps.refl _)) ?_
  show own_Fin p e below (s₁.setTop (mkF m 0 #[vr x1, vr b1] [])) _
  refine own_gs (cur' := s₁.setTop (mkF m 4 #[vr x1, vr b1] [(.ref b1), (.int (0 : Int32)), (.ref b1), (.ref x1)])) ?_ ?_
  · refine XS.aloadN X0.here hx rfl (hb hby d_jdk_42_m_3_0) rfl rfl ?_
    refine XS.aloadN X0.here hx rfl (hb hby d_jdk_42_m_3_1) rfl rfl ?_
    refine XS.iconst X0.here hx rfl (hb hby d_jdk_42_m_3_2) ?_
    show Steps p.tables e below (s₁.setTop (mkF m 3 #[vr x1, vr b1] [(.int (0 : Int32)), (.ref b1), (.ref x1)])) _
    refine XS.aloadN X0.here hx rfl (hb hby d_jdk_42_m_3_3) rfl rfl ?_
    exact Steps.refl _
  obtain ⟨cl11, Ar11, q11, S11, M11, Hs11, G11⟩ := id V1
  refine own_go (X0.arraylength hx (by rw [e0]; exact Ar11.1) (State.isArrayOf_alike hZ.alike Ar11.2.1) (g := (mkF m 4 #[vr x1, vr b1] [(.ref b1), (.int (0 : Int32)), (.ref b1), (.ref x1)])) rfl rfl (hb hby d_jdk_42_m_3_4)) ?_
  rw [len_of S11 M11]
  show own_Fin p e below (s₁.setTop (mkF m 5 #[vr x1, vr b1] [(.int (1 : Int32)), (.int (0 : Int32)), (.ref b1), (.ref x1)])) _
  refine own_gs (cur' := s₁.setTop (mkF m 6 #[vr x1, vr b1] [.null, (.int (1 : Int32)), (.int (0 : Int32)), (.ref b1), (.ref x1)])) ?_ ?_
  · refine XS.aconstNull X0.here hx rfl (hb hby d_jdk_42_m_3_5) ?_
    exact Steps.refl _
  obtain ⟨_, _, ⟨T12, L12, k12, n12⟩, -, X12, ⟨Lc12, hQ12, l12, y12, z12⟩, st12⟩ := X0.specialBack hx (y := (⟨"java/lang/String", "<init>", "([CIILjava/lang/Void;)V"⟩ : MethodName)) rfl hown (mvT hZ (hw _ (List.mem_of_getElem? (i := 8) rfl))) (mvT hZ (hw _ (List.mem_of_getElem? (i := 9) rfl))) (mvT hZ (hw _ (List.mem_of_getElem? (i := 11) rfl))) (by decide) (backOf (W := 0) (own_u_new4_1 l Z a0 hW x1 b1 v0 c0_ k1 c0 h0 n0 (by omega) O0 E1 Fv1 Fc1 g1 V1 hb0) hZ (hw _ (List.mem_of_getElem? (i := 11) rfl)) (hw _ (List.mem_of_getElem? (i := 3) rfl)) (by decide) (by decide)) (g := (mkF m 6 #[vr x1, vr b1] [.null, (.int (1 : Int32)), (.int (0 : Int32)), (.ref b1), (.ref x1)])) rfl (by rw [hml]; rfl) (Steps.refl _) (a := x1) (argsL := [(.ref b1), (.int (0 : Int32)), (.int (1 : Int32)), .null]) (rest := []) (lenOf pd_0 rfl) rfl (by show 2 * 0 + _ ≤ _; exact Nat.le_of_eq rfl) (hb hby d_jdk_42_m_3_6) (fun _ _ => ⟨rfl, e0, (by decide : 0 + 2 ≤ 2), (by decide : 0 + 3 ≤ 3)⟩)
  dsimp only [Pt.U, Pt.locs, Pt.cells, Pt.slots] at X12 l12 y12 z12 st12 hQ12
  subst l12 y12 z12
  obtain ⟨rfl, Nq12, Kq12, tq, hne, F12⟩ := hQ12
  have N12 := Fr.app N0 Nq12
  have z13 := Kq12.1
  have K13 := K0.trans Kq12 (allS (Or.inl (List.mem_of_getElem? (i := 0) rfl)) all0)
  have O13 := O0.keep Kq12 (allS (by omega) all0)
  refine own_gs st12 ?_
  show own_Fin p e below (T12.setTop (mkF m 9 #[vr x1, vr b1] [])) _
  obtain ⟨fs, hr, hrun, hended, hW1, hsame⟩ := X12.leave (v := none) (fun _ => rfl)
  refine ⟨_, _, X12.returnOut hx Bd.returns (hb hby d_jdk_42_m_3_9) hr, hrun, hended, _, _, rfl, ?_, ⟨_, rfl⟩, hW1, hsame.mono (by decide) (by decide)⟩
  show own_u_new1_1_Q Z x1 b1 v0 c0_ k1 c0 h0 n0 none T12.heap _
  exact ⟨rfl, N12, K13, tq, hne, F12⟩
def own_u_nbl2_Q (Z : State)  (h0 : Heap) (n0 : Nat) (v : Option Value) (h : Heap) (L : List Loc) : Prop := v = (some (.int (4 : Int32))) ∧ Fr n0 L ∧ h = h0
theorem ef_own_u_nbl2 (m : MethodId) (x0 : Int32) : entryFrame m #[(.int x0)] 1 = mkF m 0 #[vi x0] [] := by first | (simp [entryFrame, mkF, argsToLocals, Value.category]; done) | rfl
set_option maxRecDepth 65536 in
set_option maxHeartbeats 40000000 in
theorem own_u_nbl2 (l : Launch) (Z : State) (a0 : Array Value) (hW : own_W Z a0)  (h0 : Heap) (n0 : Nat) (Z0 : n0 ≤ h0.size) (O0 : Old Z n0 h0)  :
    MetFree l (⟨"java/lang/StringUTF16", "newBytesLength", "(I)I"⟩ : MethodName) (head1 (Jvm.Cond.code (⟨"java/lang/StringUTF16", "newBytesLength", "(I)I"⟩ : MethodName) jdk_52_method_3_code 1 (some .int) :: []) ({ frames := 0, cells := 0, slots := 0, locals := 0 } : Room)) (fun a U => a = #[(.int (2 : Int32))] ∧ Z.Warmed39 U.vm ∧ U.heap = h0) (fun _ _ _ _ _ => True) (fun _ U o U' => ∃ v L, o = .returned v ∧ own_u_nbl2_Q Z  h0 n0 v U'.heap L ∧ FrameEnd U o U' L ({ frames := 0, cells := 0, slots := 0, locals := 0 } : Room).cells ({ frames := 0, cells := 0, slots := 0, locals := 0 } : Room).slots) := by
  refine MetFree.of_bodySF (plainFor_of_name pn_java_lang_StringUTF16) hisR ?_
  intro p e s m args below meth c s₁ Bd hml0 hP hK
  obtain ⟨rfl, hZ, hh⟩ := hP
  obtain ⟨hw, ⟨G1, O2, P5⟩, ⟨G3, O4, rG3⟩, Oa, Oh, Ol⟩ := id hW
  have hx := Bd.exec
  have hby := Bd.bytes
  have hml : c.maxLocals = 1 := hml0
  have hown : s.vm.findClass "java/lang/StringUTF16" = some m.cls := findClass_of_methodNamed Bd.named
  have hnm := (name_of_methodNamed Bd.named Bd.method).1
  have X0 : Stand p l e ({ frames := 0, cells := 0, slots := 0, locals := 0 } : Room) s m #[(.int (2 : Int32))] below meth c s₁ [] 0 0 := Stand.of_body Bd
  have e0 : s₁.heap = h0 := by rw [← hh, Bd.state]; rfl
  have N0 := Fr.nil n0
  have K0 := Keep.refl h0 []
  show own_Fin p e below (s₁.setTop (entryFrame m #[(.int (2 : Int32))] 1)) _
  refine own_gs (castTop (ef_own_u_nbl2 m (2 : Int32)) (Steps.refl _)) ?_
  show own_Fin p e below (s₁.setTop (mkF m 0 #[vi (2 : Int32)] [])) _
  refine own_gs (cur' := s₁.setTop (mkF m 58 #[vi (2 : Int32)] [(.int (4 : Int32))])) ?_ ?_
  · refine XS.iloadN X0.here hx rfl (hb hby d_jdk_52_m_3_0) rfl ?_
    refine XS.ifYes X0.here hx rfl (pc0 := 1) (pc' := 12) rfl (hb hby d_jdk_52_m_3_1) rfl ((if0 _ _).trans (flt ((by decide) : ¬ ((2 : Int32) < (0 : Int32)))).2.1) (by decide) (by decide) ?_
    refine XS.iloadN X0.here hx rfl (hb hby d_jdk_52_m_3_12) rfl ?_
    show Steps p.tables e below (s₁.setTop (mkF m 13 #[vi (2 : Int32)] [(.int (2 : Int32))])) _
    refine X0.ldcInt hx hown (mvT hZ (hw _ (List.mem_of_getElem? (i := 83) rfl))) (g := (mkF m 13 #[vi (2 : Int32)] [(.int (2 : Int32))])) rfl (hb hby d_jdk_52_m_3_13) _ ?_
    refine XS.icmpYes X0.here hx rfl (pc0 := 15) (pc' := 55) rfl (hb hby d_jdk_52_m_3_15) rfl (tlt ((by decide) : (2 : Int32) < (1073741823 : Int32))).1 (by decide) (by decide) ?_
    refine XS.iloadN X0.here hx rfl (hb hby d_jdk_52_m_3_55) rfl ?_
    show Steps p.tables e below (s₁.setTop (mkF m 56 #[vi (2 : Int32)] [(.int (2 : Int32))])) _
    refine XS.iconst X0.here hx rfl (hb hby d_jdk_52_m_3_56) ?_
    refine XS.ishl X0.here hx rfl (hb hby d_jdk_52_m_3_57) rfl ?_
    exact Steps.refl _
  obtain ⟨fs, hr, hrun, hended, hW1, hsame⟩ := X0.leave (v := (some (.int (4 : Int32)))) (fun h => by rw [Bd.returns] at h; cases h)
  refine ⟨_, _, retI X0 hx Bd.returns (hb hby d_jdk_52_m_3_58) hr, hrun, hended, _, _, rfl, ?_, ⟨_, rfl⟩, hW1, hsame.mono (by decide) (by decide)⟩
  show own_u_nbl2_Q Z  h0 n0 (some (.int (4 : Int32))) s₁.heap _
  rw [e0]
  exact ⟨rfl, N0, rfl⟩
def own_u_nbf2_Q (Z : State)  (h0 : Heap) (n0 : Nat) (v : Option Value) (h : Heap) (L : List Loc) : Prop := ∃ (t : Nat) (kb : ClassId), v = some (.ref t) ∧ Fr n0 L ∧ Keep h0 h [] ∧ Arv Z h t kb .byte (4 : Int32) [(.int (0 : Int32)), (.int (0 : Int32)), (.int (0 : Int32)), (.int (0 : Int32))] (.int (0 : Int32)) ∧ h0.size ≤ t
theorem ef_own_u_nbf2 (m : MethodId) (x0 : Int32) : entryFrame m #[(.int x0)] 1 = mkF m 0 #[vi x0] [] := by first | (simp [entryFrame, mkF, argsToLocals, Value.category]; done) | rfl
set_option maxRecDepth 65536 in
set_option maxHeartbeats 40000000 in
theorem own_u_nbf2 (l : Launch) (Z : State) (a0 : Array Value) (hW : own_W Z a0)  (h0 : Heap) (n0 : Nat) (Z0 : n0 ≤ h0.size) (O0 : Old Z n0 h0)  :
    MetFree l (⟨"java/lang/StringUTF16", "newBytesFor", "(I)[B"⟩ : MethodName) (head1 (Jvm.Cond.code (⟨"java/lang/StringUTF16", "newBytesFor", "(I)[B"⟩ : MethodName) jdk_52_method_2_code 1 (some (.array .byte)) :: []) ({ frames := 1, cells := 1, slots := 4, locals := 12 } : Room)) (fun a U => a = #[(.int (2 : Int32))] ∧ Z.Warmed39 U.vm ∧ U.heap = h0) (fun _ _ _ _ _ => True) (fun _ U o U' => ∃ v L, o = .returned v ∧ own_u_nbf2_Q Z  h0 n0 v U'.heap L ∧ FrameEnd U o U' L ({ frames := 1, cells := 1, slots := 4, locals := 12 } : Room).cells ({ frames := 1, cells := 1, slots := 4, locals := 12 } : Room).slots) := by
  refine MetFree.of_bodySF (plainFor_of_name pn_java_lang_StringUTF16) hisR ?_
  intro p e s m args below meth c s₁ Bd hml0 hP hK
  obtain ⟨rfl, hZ, hh⟩ := hP
  obtain ⟨hw, ⟨G1, O2, P5⟩, ⟨G3, O4, rG3⟩, Oa, Oh, Ol⟩ := id hW
  have hx := Bd.exec
  have hby := Bd.bytes
  have hml : c.maxLocals = 1 := hml0
  have hown : s.vm.findClass "java/lang/StringUTF16" = some m.cls := findClass_of_methodNamed Bd.named
  have hnm := (name_of_methodNamed Bd.named Bd.method).1
  have X0 : Stand p l e ({ frames := 1, cells := 1, slots := 4, locals := 12 } : Room) s m #[(.int (2 : Int32))] below meth c s₁ [] 0 0 := Stand.of_body Bd
  have e0 : s₁.heap = h0 := by rw [← hh, Bd.state]; rfl
  have N0 := Fr.nil n0
  have K0 := Keep.refl h0 []
  show own_Fin p e below (s₁.setTop (entryFrame m #[(.int (2 : Int32))] 1)) _
  refine own_gs (castTop (ef_own_u_nbf2 m (2 : Int32)) (Steps.refl _)) ?_
  show own_Fin p e below (s₁.setTop (mkF m 0 #[vi (2 : Int32)] [])) _
  refine own_gs (cur' := s₁.setTop (mkF m 1 #[vi (2 : Int32)] [(.int (2 : Int32))])) ?_ ?_
  · refine XS.iloadN X0.here hx rfl (hb hby d_jdk_52_m_2_0) rfl ?_
    exact Steps.refl _
  obtain ⟨_, _, ⟨T11, L11, k11, n11⟩, -, X11, ⟨Lc11, hQ11, l11, y11, z11⟩, st11⟩ := Jvm.LawKit.callS X0 hx (y := (⟨"java/lang/StringUTF16", "newBytesLength", "(I)I"⟩ : MethodName)) hown (mvT hZ (hw _ (List.mem_of_getElem? (i := 80) rfl))) (mvT hZ (hw _ (List.mem_of_getElem? (i := 81) rfl))) (mvT hZ (hw _ (List.mem_of_getElem? (i := 26) rfl))) (mvT hZ (hw _ (List.mem_of_getElem? (i := 82) rfl))) (by decide) (backOf (W := 0) (own_u_nbl2 l Z a0 hW h0 n0 (by omega) O0) hZ (hw _ (List.mem_of_getElem? (i := 82) rfl)) (hw _ (List.mem_of_getElem? (i := 26) rfl)) (by decide) (by decide)) (g := (mkF m 1 #[vi (2 : Int32)] [(.int (2 : Int32))])) rfl (by rw [hml]; rfl) (argsL := [(.int (2 : Int32))]) (rest := []) (lenOf pd_7 rfl) rfl (by show 2 * 0 + _ ≤ _; exact Nat.le_of_eq rfl) (hb hby d_jdk_52_m_2_1) (fun _ _ => ⟨rfl, e0, (by decide : 0 + 0 ≤ 1), (by decide : 0 + 0 ≤ 4)⟩)
  dsimp only [Pt.U, Pt.locs, Pt.cells, Pt.slots] at X11 l11 y11 z11 st11 hQ11
  subst l11 y11 z11
  obtain ⟨rfl, Nq11, eh11⟩ := hQ11
  have N11 := Fr.app N0 Nq11
  refine own_go st11 ?_
  show own_Fin p e below (T11.setTop (mkF m 4 #[vi (2 : Int32)] [(.int (4 : Int32))])) _
  obtain ⟨T12, h12, k12, X12, e12, E12, A12, st12⟩ := newP X11 hx hZ (hw _ (List.mem_of_getElem? (i := 16) rfl)) eh11 (g := (mkF m 4 #[vi (2 : Int32)] [(.int (4 : Int32))])) rfl (hb hby d_jdk_52_m_2_4) rfl (by decide) (cap := 4) (by decide) (by decide) (by decide) (by decide)
  obtain ⟨b12, g12⟩ : ∃ z, z = h0.size := ⟨_, rfl⟩
  rw [← g12] at A12 st12
  have lt12 := own_lt A12.lt
  refine own_go st12 ?_
  show own_Fin p e below (T12.setTop (mkF m 6 #[vi (2 : Int32)] [(.ref b12)])) _
  have z13 := E12.1
  have K13 := K0.ext E12
  have O13 := O0.ext E12
  have V12 : Arv Z h12 b12 k12 .byte (4 : Int32) [(.int (0 : Int32)), (.int (0 : Int32)), (.int (0 : Int32)), (.int (0 : Int32))] (.int (0 : Int32)) := (Arv.new A12 (by decide)).pad (pad_rep [] (.int (0 : Int32)) 4)
  obtain ⟨fs, hr, hrun, hended, hW1, hsame⟩ := X12.leave (v := (some (.ref b12))) (fun h => by rw [Bd.returns] at h; cases h)
  refine ⟨_, _, X12.areturnOut hx rfl Bd.returns rfl (hb hby d_jdk_52_m_2_6) hr, hrun, hended, _, _, rfl, ?_, ⟨_, rfl⟩, hW1, hsame.mono (by decide) (by decide)⟩
  show own_u_nbf2_Q Z  h0 n0 (some (.ref b12)) T12.heap _
  rw [e12]
  exact ⟨_, _, rfl, N11, K13, V12, (by omega)⟩
def own_u_tob2_Q (Z : State) (b1 : Nat) (k1 : ClassId) (c0 c1 : Int32) (h0 : Heap) (n0 : Nat) (v : Option Value) (h : Heap) (L : List Loc) : Prop := ∃ (t : Nat) (kb : ClassId), v = some (.ref t) ∧ Fr n0 L ∧ Keep h0 h [] ∧ Arv Z h t kb .byte (4 : Int32) (StrChars.Road.wideBytes [c0, c1]) (.int (0 : Int32)) ∧ h0.size ≤ t
theorem ef_own_u_tob2 (m : MethodId) (x0 : Nat) (x1 : Int32) (x2 : Int32) : entryFrame m #[(.ref x0), (.int x1), (.int x2)] 5 = mkF m 0 #[vr x0, vi x1, vi x2, .unset, .unset] [] := by first | (simp [entryFrame, mkF, argsToLocals, Value.category]; done) | rfl
set_option maxRecDepth 65536 in
set_option maxHeartbeats 40000000 in
theorem own_u_tob2 (l : Launch) (Z : State) (a0 : Array Value) (hW : own_W Z a0) (b1 : Nat) (k1 : ClassId) (c0 c1 : Int32) (h0 : Heap) (n0 : Nat) (Z0 : n0 ≤ h0.size) (O0 : Old Z n0 h0) (V1 : Arv Z h0 b1 k1 .char (2 : Int32) [(.int c0), (.int c1)] (.int (0 : Int32))) :
    MetFree l (⟨"java/lang/StringUTF16", "toBytes", "([CII)[B"⟩ : MethodName) (head1 (Jvm.Cond.code (⟨"java/lang/StringUTF16", "toBytes", "([CII)[B"⟩ : MethodName) jdk_52_method_14_code 5 (some (.array .byte)) :: []) ({ frames := 2, cells := 1, slots := 4, locals := 24 } : Room)) (fun a U => a = #[(.ref b1), (.int (0 : Int32)), (.int (2 : Int32))] ∧ Z.Warmed39 U.vm ∧ U.heap = h0) (fun _ _ _ _ _ => True) (fun _ U o U' => ∃ v L, o = .returned v ∧ own_u_tob2_Q Z b1 k1 c0 c1 h0 n0 v U'.heap L ∧ FrameEnd U o U' L ({ frames := 2, cells := 1, slots := 4, locals := 24 } : Room).cells ({ frames := 2, cells := 1, slots := 4, locals := 24 } : Room).slots) := by
  refine MetFree.of_bodySF (plainFor_of_name pn_java_lang_StringUTF16) hisR ?_
  intro p e s m args below meth c s₁ Bd hml0 hP hK
  obtain ⟨rfl, hZ, hh⟩ := hP
  obtain ⟨hw, ⟨G1, O2, P5⟩, ⟨G3, O4, rG3⟩, Oa, Oh, Ol⟩ := id hW
  have hx := Bd.exec
  have hby := Bd.bytes
  have hml : c.maxLocals = 5 := hml0
  have hown : s.vm.findClass "java/lang/StringUTF16" = some m.cls := findClass_of_methodNamed Bd.named
  have hnm := (name_of_methodNamed Bd.named Bd.method).1
  have X0 : Stand p l e ({ frames := 2, cells := 1, slots := 4, locals := 24 } : Room) s m #[(.ref b1), (.int (0 : Int32)), (.int (2 : Int32))] below meth c s₁ [] 0 0 := Stand.of_body Bd
  have e0 : s₁.heap = h0 := by rw [← hh, Bd.state]; rfl
  have N0 := Fr.nil n0
  have K0 := Keep.refl h0 []
  have lt1 := own_lt V1.lt
  show own_Fin p e below (s₁.setTop (entryFrame m #[(.ref b1), (.int (0 : Int32)), (.int (2 : Int32))] 5)) _
  refine own_gs (castTop (ef_own_u_tob2 m b1 (0 : Int32) (2 : Int32)) (Steps.refl _)) ?_
  show own_Fin p e below (s₁.setTop (mkF m 0 #[vr b1, vi (0 : Int32), vi (2 : Int32), uu, uu] [])) _
  refine own_gs (cur' := s₁.setTop (mkF m 1 #[vr b1, vi (0 : Int32), vi (2 : Int32), uu, uu] [(.int (2 : Int32))])) ?_ ?_
  · refine XS.iloadN X0.here hx rfl (hb hby d_jdk_52_m_14_0) rfl ?_
    exact Steps.refl _
  obtain ⟨_, _, ⟨T11, L11, k11, n11⟩, -, X11, ⟨Lc11, hQ11, l11, y11, z11⟩, st11⟩ := Jvm.LawKit.callS X0 hx (y := (⟨"java/lang/StringUTF16", "newBytesFor", "(I)[B"⟩ : MethodName)) hown (mvT hZ (hw _ (List.mem_of_getElem? (i := 77) rfl))) (mvT hZ (hw _ (List.mem_of_getElem? (i := 78) rfl))) (mvT hZ (hw _ (List.mem_of_getElem? (i := 26) rfl))) (mvT hZ (hw _ (List.mem_of_getElem? (i := 79) rfl))) (by decide) (backOf (W := 0) (own_u_nbf2 l Z a0 hW h0 n0 (by omega) O0) hZ (hw _ (List.mem_of_getElem? (i := 79) rfl)) (hw _ (List.mem_of_getElem? (i := 26) rfl)) (by decide) (by decide)) (g := (mkF m 1 #[vr b1, vi (0 : Int32), vi (2 : Int32), uu, uu] [(.int (2 : Int32))])) rfl (by rw [hml]; rfl) (argsL := [(.int (2 : Int32))]) (rest := []) (lenOf pd_8 rfl) rfl (by show 2 * 0 + _ ≤ _; exact Nat.le_of_eq rfl) (hb hby d_jdk_52_m_14_1) (fun _ _ => ⟨rfl, e0, (by decide : 0 + 1 ≤ 1), (by decide : 0 + 4 ≤ 4)⟩)
  dsimp only [Pt.U, Pt.locs, Pt.cells, Pt.slots] at X11 l11 y11 z11 st11 hQ11
  subst l11 y11 z11
  obtain ⟨t11, kb11, rfl, Nq11, Kq11, Vt11, ge11⟩ := hQ11
  have N11 := Fr.app N0 Nq11
  have z12 := Kq11.1
  have K12 := K0.trans Kq11 all0
  have O12 := O0.keep Kq11 all0
  have lt11 := own_lt Vt11.lt
  refine own_go st11 ?_
  show own_Fin p e below (T11.setTop (mkF m 4 #[vr b1, vi (0 : Int32), vi (2 : Int32), uu, uu] [(.ref t11)])) _
  refine own_gs (cur' := T11.setTop (mkF m 19 #[vr b1, vi (0 : Int32), vi (2 : Int32), vr t11, vi (0 : Int32)] [(.int (0 : Int32)), (.ref b1), (.int (0 : Int32)), (.ref t11)])) ?_ ?_
  · refine XS.astoreN X11.here hx rfl (hb hby d_jdk_52_m_14_4) rfl rfl (l' := #[vr b1, vi (0 : Int32), vi (2 : Int32), vr t11, uu]) rfl ?_
    refine XS.iconst X11.here hx rfl (hb hby d_jdk_52_m_14_5) ?_
    refine XS.istore X11.here hx rfl (hb hby d_jdk_52_m_14_6) rfl (l' := #[vr b1, vi (0 : Int32), vi (2 : Int32), vr t11, vi (0 : Int32)]) rfl ?_
    show Steps p.tables e below (T11.setTop (mkF m 8 #[vr b1, vi (0 : Int32), vi (2 : Int32), vr t11, vi (0 : Int32)] [])) _
    refine XS.iload X11.here hx rfl (hb hby d_jdk_52_m_14_8) rfl ?_
    refine XS.iloadN X11.here hx rfl (hb hby d_jdk_52_m_14_10) rfl ?_
    refine XS.icmpNo X11.here hx rfl (hb hby d_jdk_52_m_14_11) rfl (tlt ((by decide) : (0 : Int32) < (2 : Int32))).2.1 ?_
    show Steps p.tables e below (T11.setTop (mkF m 14 #[vr b1, vi (0 : Int32), vi (2 : Int32), vr t11, vi (0 : Int32)] [])) _
    refine XS.aloadN X11.here hx rfl (hb hby d_jdk_52_m_14_14) rfl rfl ?_
    refine XS.iload X11.here hx rfl (hb hby d_jdk_52_m_14_15) rfl ?_
    refine XS.aloadN X11.here hx rfl (hb hby d_jdk_52_m_14_17) rfl rfl ?_
    show Steps p.tables e below (T11.setTop (mkF m 18 #[vr b1, vi (0 : Int32), vi (2 : Int32), vr t11, vi (0 : Int32)] [(.ref b1), (.int (0 : Int32)), (.ref t11)])) _
    refine XS.iloadN X11.here hx rfl (hb hby d_jdk_52_m_14_18) rfl ?_
    exact Steps.refl _
  have f14 := (V1.keep Kq11 nin0)
  obtain ⟨cl13, Ar13, q13, S13, M13, Hs13, G13⟩ := id f14
  have hin13 : ¬ ((0 : Int32) < 0 ∨ cl13.slots.size ≤ ((0 : Int32)).toNatClampNeg) := inb_of S13 ⟨by decide, by decide⟩
  have hat13 : cl13.slots[((0 : Int32)).toNatClampNeg]? = some (.int c0) := Has.at Hs13 hin13 rfl
  refine own_go (X11.caload hx (j := (0 : Int32)) (v := (.int c0)) (by exact Ar13.1) (State.isArrayOf_alike hZ.alike Ar13.2.1) Ar13.2.2 hin13 hat13 (g := (mkF m 19 #[vr b1, vi (0 : Int32), vi (2 : Int32), vr t11, vi (0 : Int32)] [(.int (0 : Int32)), (.ref b1), (.int (0 : Int32)), (.ref t11)])) rfl rfl (hb hby d_jdk_52_m_14_19)) ?_
  show own_Fin p e below (T11.setTop (mkF m 20 #[vr b1, vi (0 : Int32), vi (2 : Int32), vr t11, vi (0 : Int32)] [(.int c0), (.int (0 : Int32)), (.ref t11)])) _
  obtain ⟨_, _, ⟨T15, L15, k15, n15⟩, -, X15, ⟨Lc15, hQ15, l15, y15, z15⟩, st15⟩ := Jvm.LawKit.callS X11 hx (y := (⟨"java/lang/StringUTF16", "putChar", "([BII)V"⟩ : MethodName)) hown (mvT hZ (hw _ (List.mem_of_getElem? (i := 84) rfl))) (mvT hZ (hw _ (List.mem_of_getElem? (i := 85) rfl))) (mvT hZ (hw _ (List.mem_of_getElem? (i := 26) rfl))) (mvT hZ (hw _ (List.mem_of_getElem? (i := 86) rfl))) (by decide) (backOf (W := 0) (own_u_putc l Z a0 hW t11 kb11 2 0 [(.int (0 : Int32)), (.int (0 : Int32)), (.int (0 : Int32)), (.int (0 : Int32))] c0 T11.heap n0 (by omega) O12 (by decide) (by decide) rfl (by omega) Vt11) hZ (hw _ (List.mem_of_getElem? (i := 86) rfl)) (hw _ (List.mem_of_getElem? (i := 26) rfl)) (by decide) (by decide)) (g := (mkF m 20 #[vr b1, vi (0 : Int32), vi (2 : Int32), vr t11, vi (0 : Int32)] [(.int c0), (.int (0 : Int32)), (.ref t11)])) rfl (by rw [hml]; rfl) (argsL := [(.ref t11), (.int (0 : Int32)), (.int c0)]) (rest := []) (lenOf pd_9 rfl) rfl (by show 2 * 0 + _ ≤ _; exact Nat.le_of_eq rfl) (hb hby d_jdk_52_m_14_20) (fun _ _ => ⟨rfl, rfl, (by decide : 1 + 0 ≤ 1), (by decide : 4 + 0 ≤ 4)⟩)
  dsimp only [Pt.U, Pt.locs, Pt.cells, Pt.slots] at X15 l15 y15 z15 st15 hQ15
  subst l15 y15 z15
  obtain ⟨rfl, Nq15, Kq15, Vt15⟩ := hQ15
  have N15 := Fr.app N11 Nq15
  have z16 := Kq15.1
  have K16 := K12.trans Kq15 (allS (Or.inr (by omega)) all0)
  have O16 := O12.keep Kq15 (allS (by omega) all0)
  have Vu15 : Arv Z T15.heap t11 kb11 .byte (4 : Int32) [(.int (StrChars.lo8 c0)), (.int (StrChars.hi8 c0)), (.int (0 : Int32)), (.int (0 : Int32))] (.int (0 : Int32)) := Vt15
  refine own_go st15 ?_
  show own_Fin p e below (T15.setTop (mkF m 23 #[vr b1, vi (0 : Int32), vi (2 : Int32), vr t11, vi (0 : Int32)] [])) _
  refine own_gs (cur' := T15.setTop (mkF m 19 #[vr b1, vi (1 : Int32), vi (2 : Int32), vr t11, vi (1 : Int32)] [(.int (1 : Int32)), (.ref b1), (.int (1 : Int32)), (.ref t11)])) ?_ ?_
  · refine XS.iinc X15.here hx rfl (hb hby d_jdk_52_m_14_23) rfl (l' := #[vr b1, vi (1 : Int32), vi (2 : Int32), vr t11, vi (0 : Int32)]) rfl ?_
    refine XS.iinc X15.here hx rfl (hb hby d_jdk_52_m_14_26) rfl (l' := #[vr b1, vi (1 : Int32), vi (2 : Int32), vr t11, vi (1 : Int32)]) rfl ?_
    refine XS.goto X15.here hx rfl (pc0 := 29) (pc' := 8) rfl (hb hby d_jdk_52_m_14_29) (by decide) (by decide) ?_
    show Steps p.tables e below (T15.setTop (mkF m 8 #[vr b1, vi (1 : Int32), vi (2 : Int32), vr t11, vi (1 : Int32)] [])) _
    refine XS.iload X15.here hx rfl (hb hby d_jdk_52_m_14_8) rfl ?_
    refine XS.iloadN X15.here hx rfl (hb hby d_jdk_52_m_14_10) rfl ?_
    refine XS.icmpNo X15.here hx rfl (hb hby d_jdk_52_m_14_11) rfl (tlt ((by decide) : (1 : Int32) < (2 : Int32))).2.1 ?_
    show Steps p.tables e below (T15.setTop (mkF m 14 #[vr b1, vi (1 : Int32), vi (2 : Int32), vr t11, vi (1 : Int32)] [])) _
    refine XS.aloadN X15.here hx rfl (hb hby d_jdk_52_m_14_14) rfl rfl ?_
    refine XS.iload X15.here hx rfl (hb hby d_jdk_52_m_14_15) rfl ?_
    refine XS.aloadN X15.here hx rfl (hb hby d_jdk_52_m_14_17) rfl rfl ?_
    show Steps p.tables e below (T15.setTop (mkF m 18 #[vr b1, vi (1 : Int32), vi (2 : Int32), vr t11, vi (1 : Int32)] [(.ref b1), (.int (1 : Int32)), (.ref t11)])) _
    refine XS.iloadN X15.here hx rfl (hb hby d_jdk_52_m_14_18) rfl ?_
    exact Steps.refl _
  have f18 := (f14.keep Kq15 (ninS (own_ne (a := b1) (b := t11) (by omega)) nin0))
  obtain ⟨cl17, Ar17, q17, S17, M17, Hs17, G17⟩ := id f18
  have hin17 : ¬ ((1 : Int32) < 0 ∨ cl17.slots.size ≤ ((1 : Int32)).toNatClampNeg) := inb_of S17 ⟨by decide, by decide⟩
  have hat17 : cl17.slots[((1 : Int32)).toNatClampNeg]? = some (.int c1) := Has.at Hs17 hin17 rfl
  refine own_go (X15.caload hx (j := (1 : Int32)) (v := (.int c1)) (by exact Ar17.1) (State.isArrayOf_alike hZ.alike Ar17.2.1) Ar17.2.2 hin17 hat17 (g := (mkF m 19 #[vr b1, vi (1 : Int32), vi (2 : Int32), vr t11, vi (1 : Int32)] [(.int (1 : Int32)), (.ref b1), (.int (1 : Int32)), (.ref t11)])) rfl rfl (hb hby d_jdk_52_m_14_19)) ?_
  show own_Fin p e below (T15.setTop (mkF m 20 #[vr b1, vi (1 : Int32), vi (2 : Int32), vr t11, vi (1 : Int32)] [(.int c1), (.int (1 : Int32)), (.ref t11)])) _
  obtain ⟨_, _, ⟨T19, L19, k19, n19⟩, -, X19, ⟨Lc19, hQ19, l19, y19, z19⟩, st19⟩ := Jvm.LawKit.callS X15 hx (y := (⟨"java/lang/StringUTF16", "putChar", "([BII)V"⟩ : MethodName)) hown (mvT hZ (hw _ (List.mem_of_getElem? (i := 84) rfl))) (mvT hZ (hw _ (List.mem_of_getElem? (i := 85) rfl))) (mvT hZ (hw _ (List.mem_of_getElem? (i := 26) rfl))) (mvT hZ (hw _ (List.mem_of_getElem? (i := 86) rfl))) (by decide) (backOf (W := 0) (own_u_putc l Z a0 hW t11 kb11 2 1 [(.int (StrChars.lo8 c0)), (.int (StrChars.hi8 c0)), (.int (0 : Int32)), (.int (0 : Int32))] c1 T15.heap n0 (by omega) O16 (by decide) (by decide) rfl (by omega) Vu15) hZ (hw _ (List.mem_of_getElem? (i := 86) rfl)) (hw _ (List.mem_of_getElem? (i := 26) rfl)) (by decide) (by decide)) (g := (mkF m 20 #[vr b1, vi (1 : Int32), vi (2 : Int32), vr t11, vi (1 : Int32)] [(.int c1), (.int (1 : Int32)), (.ref t11)])) rfl (by rw [hml]; rfl) (argsL := [(.ref t11), (.int (1 : Int32)), (.int c1)]) (rest := []) (lenOf pd_9 rfl) rfl (by show 2 * 0 + _ ≤ _; exact Nat.le_of_eq rfl) (hb hby d_jdk_52_m_14_20) (fun _ _ => ⟨rfl, rfl, (by decide : 1 + 0 ≤ 1), (by decide : 4 + 0 ≤ 4)⟩)
  dsimp only [Pt.U, Pt.locs, Pt.cells, Pt.slots] at X19 l19 y19 z19 st19 hQ19
  subst l19 y19 z19
  obtain ⟨rfl, Nq19, Kq19, Vt19⟩ := hQ19
  have N19 := Fr.app N15 Nq19
  have z20 := Kq19.1
  have K20 := K16.trans Kq19 (allS (Or.inr (by omega)) all0)
  have O20 := O16.keep Kq19 (allS (by omega) all0)
  have Vu19 : Arv Z T19.heap t11 kb11 .byte (4 : Int32) [(.int (StrChars.lo8 c0)), (.int (StrChars.hi8 c0)), (.int (StrChars.lo8 c1)), (.int (StrChars.hi8 c1))] (.int (0 : Int32)) := Vt19
  refine own_go st19 ?_
  show own_Fin p e below (T19.setTop (mkF m 23 #[vr b1, vi (1 : Int32), vi (2 : Int32), vr t11, vi (1 : Int32)] [])) _
  refine own_gs (cur' := T19.setTop (mkF m 33 #[vr b1, vi (2 : Int32), vi (2 : Int32), vr t11, vi (2 : Int32)] [(.ref t11)])) ?_ ?_
  · refine XS.iinc X19.here hx rfl (hb hby d_jdk_52_m_14_23) rfl (l' := #[vr b1, vi (2 : Int32), vi (2 : Int32), vr t11, vi (1 : Int32)]) rfl ?_
    refine XS.iinc X19.here hx rfl (hb hby d_jdk_52_m_14_26) rfl (l' := #[vr b1, vi (2 : Int32), vi (2 : Int32), vr t11, vi (2 : Int32)]) rfl ?_
    refine XS.goto X19.here hx rfl (pc0 := 29) (pc' := 8) rfl (hb hby d_jdk_52_m_14_29) (by decide) (by decide) ?_
    show Steps p.tables e below (T19.setTop (mkF m 8 #[vr b1, vi (2 : Int32), vi (2 : Int32), vr t11, vi (2 : Int32)] [])) _
    refine XS.iload X19.here hx rfl (hb hby d_jdk_52_m_14_8) rfl ?_
    refine XS.iloadN X19.here hx rfl (hb hby d_jdk_52_m_14_10) rfl ?_
    refine XS.icmpYes X19.here hx rfl (pc0 := 11) (pc' := 32) rfl (hb hby d_jdk_52_m_14_11) rfl (flt ((by decide) : ¬ ((2 : Int32) < (2 : Int32)))).2.1 (by decide) (by decide) ?_
    show Steps p.tables e below (T19.setTop (mkF m 32 #[vr b1, vi (2 : Int32), vi (2 : Int32), vr t11, vi (2 : Int32)] [])) _
    refine XS.aloadN X19.here hx rfl (hb hby d_jdk_52_m_14_32) rfl rfl ?_
    exact Steps.refl _
  obtain ⟨fs, hr, hrun, hended, hW1, hsame⟩ := X19.leave (v := (some (.ref t11))) (fun h => by rw [Bd.returns] at h; cases h)
  refine ⟨_, _, X19.areturnOut hx rfl Bd.returns rfl (hb hby d_jdk_52_m_14_33) hr, hrun, hended, _, _, rfl, ?_, ⟨_, rfl⟩, hW1, hsame.mono (by decide) (by decide)⟩
  show own_u_tob2_Q Z b1 k1 c0 c1 h0 n0 (some (.ref t11)) T19.heap _
  exact ⟨_, _, rfl, N19, K20, Vu19, (by omega)⟩
def own_u_cmp2_Q (Z : State) (b1 d1 : Nat) (k1 k2 : ClassId) (c0 c1 : Int32) (h0 : Heap) (n0 : Nat) (v : Option Value) (h : Heap) (L : List Loc) : Prop := Fr n0 L ∧ Keep h0 h [d1] ∧ ((v = some (.int (2 : Int32)) ∧ (∀ c ∈ ([c0, c1] : List Int32), ¬ (255 : Int32) < c) ∧ Arv Z h d1 k2 .byte (2 : Int32) [(.int (StrChars.lo8 c0)), (.int (StrChars.lo8 c1))] (.int (0 : Int32))) ∨ (v = some (.int (0 : Int32)) ∧ (255 : Int32) < c0) ∨ (v = some (.int (1 : Int32)) ∧ (255 : Int32) < c1))
theorem ef_own_u_cmp2 (m : MethodId) (x0 : Nat) (x1 : Int32) (x2 : Nat) (x3 : Int32) (x4 : Int32) : entryFrame m #[(.ref x0), (.int x1), (.ref x2), (.int x3), (.int x4)] 7 = mkF m 0 #[vr x0, vi x1, vr x2, vi x3, vi x4, .unset, .unset] [] := by first | (simp [entryFrame, mkF, argsToLocals, Value.category]; done) | rfl
set_option maxRecDepth 65536 in
set_option maxHeartbeats 40000000 in
theorem own_u_cmp2 (l : Launch) (Z : State) (a0 : Array Value) (hW : own_W Z a0) (b1 d1 : Nat) (k1 k2 : ClassId) (c0 c1 : Int32) (h0 : Heap) (n0 : Nat) (Z0 : n0 ≤ h0.size) (O0 : Old Z n0 h0) (V1 : Arv Z h0 b1 k1 .char (2 : Int32) [(.int c0), (.int c1)] (.int (0 : Int32))) (V2 : Arv Z h0 d1 k2 .byte (2 : Int32) [(.int (0 : Int32)), (.int (0 : Int32))] (.int (0 : Int32))) (g2 : n0 ≤ d1) (hbd : b1 ≠ d1) :
    MetFree l (⟨"java/lang/StringUTF16", "compress", "([CI[BII)I"⟩ : MethodName) (head1 (Jvm.Cond.code (⟨"java/lang/StringUTF16", "compress", "([CI[BII)I"⟩ : MethodName) jdk_52_method_21_code 7 (some .int) :: []) ({ frames := 0, cells := 0, slots := 0, locals := 0 } : Room)) (fun a U => a = #[(.ref b1), (.int (0 : Int32)), (.ref d1), (.int (0 : Int32)), (.int (2 : Int32))] ∧ Z.Warmed39 U.vm ∧ U.heap = h0) (fun _ _ _ _ _ => True) (fun _ U o U' => ∃ v L, o = .returned v ∧ own_u_cmp2_Q Z b1 d1 k1 k2 c0 c1 h0 n0 v U'.heap L ∧ FrameEnd U o U' L ({ frames := 0, cells := 0, slots := 0, locals := 0 } : Room).cells ({ frames := 0, cells := 0, slots := 0, locals := 0 } : Room).slots) := by
  refine MetFree.of_bodySF (plainFor_of_name pn_java_lang_StringUTF16) hisR ?_
  intro p e s m args below meth c s₁ Bd hml0 hP hK
  obtain ⟨rfl, hZ, hh⟩ := hP
  obtain ⟨hw, ⟨G1, O2, P5⟩, ⟨G3, O4, rG3⟩, Oa, Oh, Ol⟩ := id hW
  have hx := Bd.exec
  have hby := Bd.bytes
  have hml : c.maxLocals = 7 := hml0
  have hown : s.vm.findClass "java/lang/StringUTF16" = some m.cls := findClass_of_methodNamed Bd.named
  have hnm := (name_of_methodNamed Bd.named Bd.method).1
  have X0 : Stand p l e ({ frames := 0, cells := 0, slots := 0, locals := 0 } : Room) s m #[(.ref b1), (.int (0 : Int32)), (.ref d1), (.int (0 : Int32)), (.int (2 : Int32))] below meth c s₁ [] 0 0 := Stand.of_body Bd
  have e0 : s₁.heap = h0 := by rw [← hh, Bd.state]; rfl
  have N0 := Fr.nil n0
  have K0 := Keep.refl h0 [d1]
  have lt1 := own_lt V1.lt
  have lt2 := own_lt V2.lt
  show own_Fin p e below (s₁.setTop (entryFrame m #[(.ref b1), (.int (0 : Int32)), (.ref d1), (.int (0 : Int32)), (.int (2 : Int32))] 7)) _
  refine own_gs (castTop (ef_own_u_cmp2 m b1 (0 : Int32) d1 (0 : Int32) (2 : Int32)) (Steps.refl _)) ?_
  show own_Fin p e below (s₁.setTop (mkF m 0 #[vr b1, vi (0 : Int32), vr d1, vi (0 : Int32), vi (2 : Int32), uu, uu] [])) _
  refine own_gs (cur' := s₁.setTop (mkF m 12 #[vr b1, vi (0 : Int32), vr d1, vi (0 : Int32), vi (2 : Int32), vi (0 : Int32), uu] [(.int (0 : Int32)), (.ref b1)])) ?_ ?_
  · refine XS.iconst X0.here hx rfl (hb hby d_jdk_52_m_21_0) ?_
    refine XS.istore X0.here hx rfl (hb hby d_jdk_52_m_21_1) rfl (l' := #[vr b1, vi (0 : Int32), vr d1, vi (0 : Int32), vi (2 : Int32), vi (0 : Int32), uu]) rfl ?_
    refine XS.iload X0.here hx rfl (hb hby d_jdk_52_m_21_3) rfl ?_
    show Steps p.tables e below (s₁.setTop (mkF m 5 #[vr b1, vi (0 : Int32), vr d1, vi (0 : Int32), vi (2 : Int32), vi (0 : Int32), uu] [(.int (0 : Int32))])) _
    refine XS.iload X0.here hx rfl (hb hby d_jdk_52_m_21_5) rfl ?_
    refine XS.icmpNo X0.here hx rfl (hb hby d_jdk_52_m_21_7) rfl (tlt ((by decide) : (0 : Int32) < (2 : Int32))).2.1 ?_
    refine XS.aloadN X0.here hx rfl (hb hby d_jdk_52_m_21_10) rfl rfl ?_
    show Steps p.tables e below (s₁.setTop (mkF m 11 #[vr b1, vi (0 : Int32), vr d1, vi (0 : Int32), vi (2 : Int32), vi (0 : Int32), uu] [(.ref b1)])) _
    refine XS.iloadN X0.here hx rfl (hb hby d_jdk_52_m_21_11) rfl ?_
    exact Steps.refl _
  obtain ⟨cl11, Ar11, q11, S11, M11, Hs11, G11⟩ := id V1
  have hin11 : ¬ ((0 : Int32) < 0 ∨ cl11.slots.size ≤ ((0 : Int32)).toNatClampNeg) := inb_of S11 ⟨by decide, by decide⟩
  have hat11 : cl11.slots[((0 : Int32)).toNatClampNeg]? = some (.int c0) := Has.at Hs11 hin11 rfl
  refine own_go (X0.caload hx (j := (0 : Int32)) (v := (.int c0)) (by rw [e0]; exact Ar11.1) (State.isArrayOf_alike hZ.alike Ar11.2.1) Ar11.2.2 hin11 hat11 (g := (mkF m 12 #[vr b1, vi (0 : Int32), vr d1, vi (0 : Int32), vi (2 : Int32), vi (0 : Int32), uu] [(.int (0 : Int32)), (.ref b1)])) rfl rfl (hb hby d_jdk_52_m_21_12)) ?_
  show own_Fin p e below (s₁.setTop (mkF m 13 #[vr b1, vi (0 : Int32), vr d1, vi (0 : Int32), vi (2 : Int32), vi (0 : Int32), uu] [(.int c0)])) _
  refine own_gs (cur' := s₁.setTop (mkF m 20 #[vr b1, vi (0 : Int32), vr d1, vi (0 : Int32), vi (2 : Int32), vi (0 : Int32), vi c0] [(.int (255 : Int32)), (.int c0)])) ?_ ?_
  · refine XS.istore X0.here hx rfl (hb hby d_jdk_52_m_21_13) rfl (l' := #[vr b1, vi (0 : Int32), vr d1, vi (0 : Int32), vi (2 : Int32), vi (0 : Int32), vi c0]) rfl ?_
    refine XS.iload X0.here hx rfl (hb hby d_jdk_52_m_21_15) rfl ?_
    refine XS.sipush X0.here hx rfl (hb hby d_jdk_52_m_21_17) ?_
    exact Steps.refl _
  by_cases hc20_12 : (255 : Int32) < c0
  · refine own_gs (cur' := s₁.setTop (mkF m 25 #[vr b1, vi (0 : Int32), vr d1, vi (0 : Int32), vi (2 : Int32), vi (0 : Int32), vi c0] [(.int (0 : Int32))])) ?_ ?_
    · refine XS.icmpNo X0.here hx rfl (hb hby d_jdk_52_m_21_20) rfl (tlt (hc20_12 : (255 : Int32) < c0)).2.2.2 ?_
      refine XS.iload X0.here hx rfl (hb hby d_jdk_52_m_21_23) rfl ?_
      exact Steps.refl _
    obtain ⟨fs, hr, hrun, hended, hW1, hsame⟩ := X0.leave (v := (some (.int (0 : Int32)))) (fun h => by rw [Bd.returns] at h; cases h)
    refine ⟨_, _, retI X0 hx Bd.returns (hb hby d_jdk_52_m_21_25) hr, hrun, hended, _, _, rfl, ?_, ⟨_, rfl⟩, hW1, hsame.mono (by decide) (by decide)⟩
    show own_u_cmp2_Q Z b1 d1 k1 k2 c0 c1 h0 n0 (some (.int (0 : Int32))) s₁.heap _
    rw [e0]
    exact ⟨N0, K0, Or.inr (Or.inl ⟨rfl, hc20_12⟩)⟩
  · refine own_gs (cur' := s₁.setTop (mkF m 31 #[vr b1, vi (0 : Int32), vr d1, vi (0 : Int32), vi (2 : Int32), vi (0 : Int32), vi c0] [(.int (c0.toInt8.toInt32)), (.int (0 : Int32)), (.ref d1)])) ?_ ?_
    · refine XS.icmpYes X0.here hx rfl (pc0 := 20) (pc' := 26) rfl (hb hby d_jdk_52_m_21_20) rfl (flt (hc20_12 : ¬ ((255 : Int32) < c0))).2.2.2 (by decide) (by decide) ?_
      refine XS.aloadN X0.here hx rfl (hb hby d_jdk_52_m_21_26) rfl rfl ?_
      refine XS.iloadN X0.here hx rfl (hb hby d_jdk_52_m_21_27) rfl ?_
      show Steps p.tables e below (s₁.setTop (mkF m 28 #[vr b1, vi (0 : Int32), vr d1, vi (0 : Int32), vi (2 : Int32), vi (0 : Int32), vi c0] [(.int (0 : Int32)), (.ref d1)])) _
      refine XS.iload X0.here hx rfl (hb hby d_jdk_52_m_21_28) rfl ?_
      refine XS.i2b X0.here hx rfl (hb hby d_jdk_52_m_21_30) rfl ?_
      exact Steps.refl _
    obtain ⟨cl13, Ar13, q13, S13, M13, Hs13, G13⟩ := id V2
    have hin13 : ¬ ((0 : Int32) < 0 ∨ cl13.slots.size ≤ ((0 : Int32)).toNatClampNeg) := inb_of S13 ⟨by decide, by decide⟩
    obtain ⟨T13, h13, X13, e13, W13, st13⟩ := stB X0 hx hZ e0 Ar13 (j := (0 : Int32)) hin13 (g := (mkF m 31 #[vr b1, vi (0 : Int32), vr d1, vi (0 : Int32), vi (2 : Int32), vi (0 : Int32), vi c0] [(.int (c0.toInt8.toInt32)), (.int (0 : Int32)), (.ref d1)])) rfl rfl (hb hby d_jdk_52_m_21_31)
    have V13 := Arv.set Ar13 q13 S13 M13 Hs13 G13 (fits_nar_byte _) W13 0 rfl (Nat.le_of_ble_eq_true rfl)
    refine own_go st13 ?_
    show own_Fin p e below (T13.setTop (mkF m 32 #[vr b1, vi (0 : Int32), vr d1, vi (0 : Int32), vi (2 : Int32), vi (0 : Int32), vi c0] [])) _
    have z14 := W13.size
    have K14 := K0.wr W13 (Or.inl (List.mem_of_getElem? (i := 0) rfl))
    have O14 := O0.wr W13 (by omega)
    have N14 := Fr.snoc X13 N0 (by omega)
    refine own_gs (cur' := T13.setTop (mkF m 12 #[vr b1, vi (1 : Int32), vr d1, vi (1 : Int32), vi (2 : Int32), vi (1 : Int32), vi c0] [(.int (1 : Int32)), (.ref b1)])) ?_ ?_
    · refine XS.iinc X13.here hx rfl (hb hby d_jdk_52_m_21_32) rfl (l' := #[vr b1, vi (1 : Int32), vr d1, vi (0 : Int32), vi (2 : Int32), vi (0 : Int32), vi c0]) rfl ?_
      refine XS.iinc X13.here hx rfl (hb hby d_jdk_52_m_21_35) rfl (l' := #[vr b1, vi (1 : Int32), vr d1, vi (1 : Int32), vi (2 : Int32), vi (0 : Int32), vi c0]) rfl ?_
      refine XS.iinc X13.here hx rfl (hb hby d_jdk_52_m_21_38) rfl (l' := #[vr b1, vi (1 : Int32), vr d1, vi (1 : Int32), vi (2 : Int32), vi (1 : Int32), vi c0]) rfl ?_
      show Steps p.tables e below (T13.setTop (mkF m 41 #[vr b1, vi (1 : Int32), vr d1, vi (1 : Int32), vi (2 : Int32), vi (1 : Int32), vi c0] [])) _
      refine XS.goto X13.here hx rfl (pc0 := 41) (pc' := 3) rfl (hb hby d_jdk_52_m_21_41) (by decide) (by decide) ?_
      refine XS.iload X13.here hx rfl (hb hby d_jdk_52_m_21_3) rfl ?_
      refine XS.iload X13.here hx rfl (hb hby d_jdk_52_m_21_5) rfl ?_
      show Steps p.tables e below (T13.setTop (mkF m 7 #[vr b1, vi (1 : Int32), vr d1, vi (1 : Int32), vi (2 : Int32), vi (1 : Int32), vi c0] [(.int (2 : Int32)), (.int (1 : Int32))])) _
      refine XS.icmpNo X13.here hx rfl (hb hby d_jdk_52_m_21_7) rfl (tlt ((by decide) : (1 : Int32) < (2 : Int32))).2.1 ?_
      refine XS.aloadN X13.here hx rfl (hb hby d_jdk_52_m_21_10) rfl rfl ?_
      refine XS.iloadN X13.here hx rfl (hb hby d_jdk_52_m_21_11) rfl ?_
      exact Steps.refl _
    have f16 := (V1.other W13 (own_ne (a := b1) (b := d1) (by omega)))
    obtain ⟨cl15, Ar15, q15, S15, M15, Hs15, G15⟩ := id f16
    have hin15 : ¬ ((1 : Int32) < 0 ∨ cl15.slots.size ≤ ((1 : Int32)).toNatClampNeg) := inb_of S15 ⟨by decide, by decide⟩
    have hat15 : cl15.slots[((1 : Int32)).toNatClampNeg]? = some (.int c1) := Has.at Hs15 hin15 rfl
    refine own_go (X13.caload hx (j := (1 : Int32)) (v := (.int c1)) (by rw [e13]; exact Ar15.1) (State.isArrayOf_alike hZ.alike Ar15.2.1) Ar15.2.2 hin15 hat15 (g := (mkF m 12 #[vr b1, vi (1 : Int32), vr d1, vi (1 : Int32), vi (2 : Int32), vi (1 : Int32), vi c0] [(.int (1 : Int32)), (.ref b1)])) rfl rfl (hb hby d_jdk_52_m_21_12)) ?_
    show own_Fin p e below (T13.setTop (mkF m 13 #[vr b1, vi (1 : Int32), vr d1, vi (1 : Int32), vi (2 : Int32), vi (1 : Int32), vi c0] [(.int c1)])) _
    refine own_gs (cur' := T13.setTop (mkF m 20 #[vr b1, vi (1 : Int32), vr d1, vi (1 : Int32), vi (2 : Int32), vi (1 : Int32), vi c1] [(.int (255 : Int32)), (.int c1)])) ?_ ?_
    · refine XS.istore X13.here hx rfl (hb hby d_jdk_52_m_21_13) rfl (l' := #[vr b1, vi (1 : Int32), vr d1, vi (1 : Int32), vi (2 : Int32), vi (1 : Int32), vi c1]) rfl ?_
      refine XS.iload X13.here hx rfl (hb hby d_jdk_52_m_21_15) rfl ?_
      refine XS.sipush X13.here hx rfl (hb hby d_jdk_52_m_21_17) ?_
      exact Steps.refl _
    by_cases hc20_17 : (255 : Int32) < c1
    · refine own_gs (cur' := T13.setTop (mkF m 25 #[vr b1, vi (1 : Int32), vr d1, vi (1 : Int32), vi (2 : Int32), vi (1 : Int32), vi c1] [(.int (1 : Int32))])) ?_ ?_
      · refine XS.icmpNo X13.here hx rfl (hb hby d_jdk_52_m_21_20) rfl (tlt (hc20_17 : (255 : Int32) < c1)).2.2.2 ?_
        refine XS.iload X13.here hx rfl (hb hby d_jdk_52_m_21_23) rfl ?_
        exact Steps.refl _
      obtain ⟨fs, hr, hrun, hended, hW1, hsame⟩ := X13.leave (v := (some (.int (1 : Int32)))) (fun h => by rw [Bd.returns] at h; cases h)
      refine ⟨_, _, retI X13 hx Bd.returns (hb hby d_jdk_52_m_21_25) hr, hrun, hended, _, _, rfl, ?_, ⟨_, rfl⟩, hW1, hsame.mono (by decide) (by decide)⟩
      show own_u_cmp2_Q Z b1 d1 k1 k2 c0 c1 h0 n0 (some (.int (1 : Int32))) T13.heap _
      rw [e13]
      exact ⟨N14, K14, Or.inr (Or.inr ⟨rfl, hc20_17⟩)⟩
    · refine own_gs (cur' := T13.setTop (mkF m 31 #[vr b1, vi (1 : Int32), vr d1, vi (1 : Int32), vi (2 : Int32), vi (1 : Int32), vi c1] [(.int (c1.toInt8.toInt32)), (.int (1 : Int32)), (.ref d1)])) ?_ ?_
      · refine XS.icmpYes X13.here hx rfl (pc0 := 20) (pc' := 26) rfl (hb hby d_jdk_52_m_21_20) rfl (flt (hc20_17 : ¬ ((255 : Int32) < c1))).2.2.2 (by decide) (by decide) ?_
        refine XS.aloadN X13.here hx rfl (hb hby d_jdk_52_m_21_26) rfl rfl ?_
        refine XS.iloadN X13.here hx rfl (hb hby d_jdk_52_m_21_27) rfl ?_
        show Steps p.tables e below (T13.setTop (mkF m 28 #[vr b1, vi (1 : Int32), vr d1, vi (1 : Int32), vi (2 : Int32), vi (1 : Int32), vi c1] [(.int (1 : Int32)), (.ref d1)])) _
        refine XS.iload X13.here hx rfl (hb hby d_jdk_52_m_21_28) rfl ?_
        refine XS.i2b X13.here hx rfl (hb hby d_jdk_52_m_21_30) rfl ?_
        exact Steps.refl _
      obtain ⟨cl18, Ar18, q18, S18, M18, Hs18, G18⟩ := id V13
      have hin18 : ¬ ((1 : Int32) < 0 ∨ cl18.slots.size ≤ ((1 : Int32)).toNatClampNeg) := inb_of S18 ⟨by decide, by decide⟩
      obtain ⟨T18, h18, X18, e18, W18, st18⟩ := stB X13 hx hZ e13 Ar18 (j := (1 : Int32)) hin18 (g := (mkF m 31 #[vr b1, vi (1 : Int32), vr d1, vi (1 : Int32), vi (2 : Int32), vi (1 : Int32), vi c1] [(.int (c1.toInt8.toInt32)), (.int (1 : Int32)), (.ref d1)])) rfl rfl (hb hby d_jdk_52_m_21_31)
      have V18 := Arv.set Ar18 q18 S18 M18 Hs18 G18 (fits_nar_byte _) W18 1 rfl (Nat.le_of_ble_eq_true rfl)
      refine own_go st18 ?_
      show own_Fin p e below (T18.setTop (mkF m 32 #[vr b1, vi (1 : Int32), vr d1, vi (1 : Int32), vi (2 : Int32), vi (1 : Int32), vi c1] [])) _
      have z19 := W18.size
      have K19 := K14.wr W18 (Or.inl (List.mem_of_getElem? (i := 0) rfl))
      have O19 := O14.wr W18 (by omega)
      have N19 := Fr.snoc X18 N14 (by omega)
      have Vf := V18
      simp only [own_b2] at Vf
      have hal : ∀ c ∈ ([c0, c1] : List Int32), ¬ (255 : Int32) < c := by
        intro c hc
        simp only [List.mem_cons, List.not_mem_nil, or_false] at hc
        rcases hc with rfl | rfl
        · exact hc20_12
        · exact hc20_17
      refine own_gs (cur' := T18.setTop (mkF m 46 #[vr b1, vi (2 : Int32), vr d1, vi (2 : Int32), vi (2 : Int32), vi (2 : Int32), vi c1] [(.int (2 : Int32))])) ?_ ?_
      · refine XS.iinc X18.here hx rfl (hb hby d_jdk_52_m_21_32) rfl (l' := #[vr b1, vi (2 : Int32), vr d1, vi (1 : Int32), vi (2 : Int32), vi (1 : Int32), vi c1]) rfl ?_
        refine XS.iinc X18.here hx rfl (hb hby d_jdk_52_m_21_35) rfl (l' := #[vr b1, vi (2 : Int32), vr d1, vi (2 : Int32), vi (2 : Int32), vi (1 : Int32), vi c1]) rfl ?_
        refine XS.iinc X18.here hx rfl (hb hby d_jdk_52_m_21_38) rfl (l' := #[vr b1, vi (2 : Int32), vr d1, vi (2 : Int32), vi (2 : Int32), vi (2 : Int32), vi c1]) rfl ?_
        show Steps p.tables e below (T18.setTop (mkF m 41 #[vr b1, vi (2 : Int32), vr d1, vi (2 : Int32), vi (2 : Int32), vi (2 : Int32), vi c1] [])) _
        refine XS.goto X18.here hx rfl (pc0 := 41) (pc' := 3) rfl (hb hby d_jdk_52_m_21_41) (by decide) (by decide) ?_
        refine XS.iload X18.here hx rfl (hb hby d_jdk_52_m_21_3) rfl ?_
        refine XS.iload X18.here hx rfl (hb hby d_jdk_52_m_21_5) rfl ?_
        show Steps p.tables e below (T18.setTop (mkF m 7 #[vr b1, vi (2 : Int32), vr d1, vi (2 : Int32), vi (2 : Int32), vi (2 : Int32), vi c1] [(.int (2 : Int32)), (.int (2 : Int32))])) _
        refine XS.icmpYes X18.here hx rfl (pc0 := 7) (pc' := 44) rfl (hb hby d_jdk_52_m_21_7) rfl (flt ((by decide) : ¬ ((2 : Int32) < (2 : Int32)))).2.1 (by decide) (by decide) ?_
        refine XS.iload X18.here hx rfl (hb hby d_jdk_52_m_21_44) rfl ?_
        exact Steps.refl _
      obtain ⟨fs, hr, hrun, hended, hW1, hsame⟩ := X18.leave (v := (some (.int (2 : Int32)))) (fun h => by rw [Bd.returns] at h; cases h)
      refine ⟨_, _, retI X18 hx Bd.returns (hb hby d_jdk_52_m_21_46) hr, hrun, hended, _, _, rfl, ?_, ⟨_, rfl⟩, hW1, hsame.mono (by decide) (by decide)⟩
      show own_u_cmp2_Q Z b1 d1 k1 k2 c0 c1 h0 n0 (some (.int (2 : Int32))) T18.heap _
      rw [e18]
      exact ⟨N19, K19, Or.inl ⟨rfl, hal, Vf⟩⟩
def own_u_cmpr2_Q (Z : State) (b1 : Nat) (k1 : ClassId) (c0 c1 : Int32) (h0 : Heap) (n0 : Nat) (v : Option Value) (h : Heap) (L : List Loc) : Prop := ∃ (t : Nat) (kb : ClassId), v = some (.ref t) ∧ Fr n0 L ∧ Keep h0 h [] ∧ h0.size ≤ t ∧ (((∀ c ∈ ([c0, c1] : List Int32), ¬ (255 : Int32) < c) ∧ Arv Z h t kb .byte (2 : Int32) [(.int (StrChars.lo8 c0)), (.int (StrChars.lo8 c1))] (.int (0 : Int32))) ∨ ((∃ c ∈ ([c0, c1] : List Int32), (255 : Int32) < c) ∧ Arv Z h t kb .byte (4 : Int32) (StrChars.Road.wideBytes [c0, c1]) (.int (0 : Int32))))
theorem ef_own_u_cmpr2 (m : MethodId) (x0 : Nat) (x1 : Int32) (x2 : Int32) : entryFrame m #[(.ref x0), (.int x1), (.int x2)] 6 = mkF m 0 #[vr x0, vi x1, vi x2, .unset, .unset, .unset] [] := by first | (simp [entryFrame, mkF, argsToLocals, Value.category]; done) | rfl
set_option maxRecDepth 65536 in
set_option maxHeartbeats 40000000 in
theorem own_u_cmpr2 (l : Launch) (Z : State) (a0 : Array Value) (hW : own_W Z a0) (b1 : Nat) (k1 : ClassId) (c0 c1 : Int32) (h0 : Heap) (n0 : Nat) (Z0 : n0 ≤ h0.size) (O0 : Old Z n0 h0) (V1 : Arv Z h0 b1 k1 .char (2 : Int32) [(.int c0), (.int c1)] (.int (0 : Int32))) (hb0 : ¬ c0 < 0 ∧ ¬ (65535 : Int32) < c0) (hb1 : ¬ c1 < 0 ∧ ¬ (65535 : Int32) < c1) :
    MetFree l (⟨"java/lang/StringUTF16", "compress", "([CII)[B"⟩ : MethodName) (head1 (Jvm.Cond.code (⟨"java/lang/StringUTF16", "compress", "([CII)[B"⟩ : MethodName) jdk_52_method_16_code 6 (some (.array .byte)) :: []) ({ frames := 3, cells := 2, slots := 6, locals := 40 } : Room)) (fun a U => a = #[(.ref b1), (.int (0 : Int32)), (.int (2 : Int32))] ∧ Z.Warmed39 U.vm ∧ U.heap = h0) (fun _ _ _ _ _ => True) (fun _ U o U' => ∃ v L, o = .returned v ∧ own_u_cmpr2_Q Z b1 k1 c0 c1 h0 n0 v U'.heap L ∧ FrameEnd U o U' L ({ frames := 3, cells := 2, slots := 6, locals := 40 } : Room).cells ({ frames := 3, cells := 2, slots := 6, locals := 40 } : Room).slots) := by
  refine MetFree.of_bodySF (plainFor_of_name pn_java_lang_StringUTF16) hisR ?_
  intro p e s m args below meth c s₁ Bd hml0 hP hK
  obtain ⟨rfl, hZ, hh⟩ := hP
  obtain ⟨hw, ⟨G1, O2, P5⟩, ⟨G3, O4, rG3⟩, Oa, Oh, Ol⟩ := id hW
  have hx := Bd.exec
  have hby := Bd.bytes
  have hml : c.maxLocals = 6 := hml0
  have hown : s.vm.findClass "java/lang/StringUTF16" = some m.cls := findClass_of_methodNamed Bd.named
  have hnm := (name_of_methodNamed Bd.named Bd.method).1
  have X0 : Stand p l e ({ frames := 3, cells := 2, slots := 6, locals := 40 } : Room) s m #[(.ref b1), (.int (0 : Int32)), (.int (2 : Int32))] below meth c s₁ [] 0 0 := Stand.of_body Bd
  have e0 : s₁.heap = h0 := by rw [← hh, Bd.state]; rfl
  have N0 := Fr.nil n0
  have K0 := Keep.refl h0 []
  have lt1 := own_lt V1.lt
  show own_Fin p e below (s₁.setTop (entryFrame m #[(.ref b1), (.int (0 : Int32)), (.int (2 : Int32))] 6)) _
  refine own_gs (castTop (ef_own_u_cmpr2 m b1 (0 : Int32) (2 : Int32)) (Steps.refl _)) ?_
  show own_Fin p e below (s₁.setTop (mkF m 0 #[vr b1, vi (0 : Int32), vi (2 : Int32), uu, uu, uu] [])) _
  refine own_gs (cur' := s₁.setTop (mkF m 1 #[vr b1, vi (0 : Int32), vi (2 : Int32), uu, uu, uu] [(.int (2 : Int32))])) ?_ ?_
  · refine XS.iloadN X0.here hx rfl (hb hby d_jdk_52_m_16_0) rfl ?_
    exact Steps.refl _
  obtain ⟨T11, h11, k11, X11, e11, E11, A11, st11⟩ := newP X0 hx hZ (hw _ (List.mem_of_getElem? (i := 16) rfl)) e0 (g := (mkF m 1 #[vr b1, vi (0 : Int32), vi (2 : Int32), uu, uu, uu] [(.int (2 : Int32))])) rfl (hb hby d_jdk_52_m_16_1) rfl (by decide) (cap := 2) (by decide) (by decide) (by decide) (by decide)
  obtain ⟨b11, g11⟩ : ∃ z, z = h0.size := ⟨_, rfl⟩
  rw [← g11] at A11 st11
  have lt11 := own_lt A11.lt
  refine own_go st11 ?_
  show own_Fin p e below (T11.setTop (mkF m 3 #[vr b1, vi (0 : Int32), vi (2 : Int32), uu, uu, uu] [(.ref b11)])) _
  have z12 := E11.1
  have K12 := K0.ext E11
  have O12 := O0.ext E11
  have V11 : Arv Z h11 b11 k11 .byte (2 : Int32) [(.int (0 : Int32)), (.int (0 : Int32))] (.int (0 : Int32)) := (Arv.new A11 (by decide)).pad (pad_rep [] (.int (0 : Int32)) 2)
  have f13 := (V1.ext E11)
  refine own_gs (cur' := T11.setTop (mkF m 9 #[vr b1, vi (0 : Int32), vi (2 : Int32), vr b11, uu, uu] [(.int (2 : Int32)), (.int (0 : Int32)), (.ref b11), (.int (0 : Int32)), (.ref b1)])) ?_ ?_
  · refine XS.astoreN X11.here hx rfl (hb hby d_jdk_52_m_16_3) rfl rfl (l' := #[vr b1, vi (0 : Int32), vi (2 : Int32), vr b11, uu, uu]) rfl ?_
    refine XS.aloadN X11.here hx rfl (hb hby d_jdk_52_m_16_4) rfl rfl ?_
    refine XS.iloadN X11.here hx rfl (hb hby d_jdk_52_m_16_5) rfl ?_
    show Steps p.tables e below (T11.setTop (mkF m 6 #[vr b1, vi (0 : Int32), vi (2 : Int32), vr b11, uu, uu] [(.int (0 : Int32)), (.ref b1)])) _
    refine XS.aloadN X11.here hx rfl (hb hby d_jdk_52_m_16_6) rfl rfl ?_
    refine XS.iconst X11.here hx rfl (hb hby d_jdk_52_m_16_7) ?_
    refine XS.iloadN X11.here hx rfl (hb hby d_jdk_52_m_16_8) rfl ?_
    exact Steps.refl _
  obtain ⟨_, _, ⟨T14, L14, k14, n14⟩, -, X14, ⟨Lc14, hQ14, l14, y14, z14⟩, st14⟩ := Jvm.LawKit.callS X11 hx (y := (⟨"java/lang/StringUTF16", "compress", "([CI[BII)I"⟩ : MethodName)) hown (mvT hZ (hw _ (List.mem_of_getElem? (i := 28) rfl))) (mvT hZ (hw _ (List.mem_of_getElem? (i := 29) rfl))) (mvT hZ (hw _ (List.mem_of_getElem? (i := 26) rfl))) (mvT hZ (hw _ (List.mem_of_getElem? (i := 30) rfl))) (by decide) (backOf (W := 0) (own_u_cmp2 l Z a0 hW b1 b11 k1 k11 c0 c1 h11 n0 (by omega) O12 f13 V11 (by omega) (by omega)) hZ (hw _ (List.mem_of_getElem? (i := 30) rfl)) (hw _ (List.mem_of_getElem? (i := 26) rfl)) (by decide) (by decide)) (g := (mkF m 9 #[vr b1, vi (0 : Int32), vi (2 : Int32), vr b11, uu, uu] [(.int (2 : Int32)), (.int (0 : Int32)), (.ref b11), (.int (0 : Int32)), (.ref b1)])) rfl (by rw [hml]; rfl) (argsL := [(.ref b1), (.int (0 : Int32)), (.ref b11), (.int (0 : Int32)), (.int (2 : Int32))]) (rest := []) (lenOf pd_10 rfl) rfl (by show 2 * 0 + _ ≤ _; exact Nat.le_of_eq rfl) (hb hby d_jdk_52_m_16_9) (fun _ _ => ⟨rfl, e11, (by decide : 1 + 0 ≤ 2), (by decide : 2 + 0 ≤ 6)⟩)
  dsimp only [Pt.U, Pt.locs, Pt.cells, Pt.slots] at X14 l14 y14 z14 st14 hQ14
  subst l14 y14 z14
  obtain ⟨Nq14, Kq14, hor⟩ := hQ14
  have N14 := Fr.app N0 Nq14
  have z15 := Kq14.1
  have K15 := K12.trans Kq14 (allS (Or.inr (by omega)) all0)
  have O15 := O12.keep Kq14 (allS (by omega) all0)
  rcases hor with ⟨rfl, hal, Vl⟩ | ⟨rfl, hbig⟩ | ⟨rfl, hbig⟩
  · refine own_go st14 ?_
    show own_Fin p e below (T14.setTop (mkF m 12 #[vr b1, vi (0 : Int32), vi (2 : Int32), vr b11, uu, uu] [(.int (2 : Int32))])) _
    refine own_gs (cur' := T14.setTop (mkF m 58 #[vr b1, vi (0 : Int32), vi (2 : Int32), vr b11, vi (2 : Int32), uu] [(.ref b11)])) ?_ ?_
    · refine XS.istore X14.here hx rfl (hb hby d_jdk_52_m_16_12) rfl (l' := #[vr b1, vi (0 : Int32), vi (2 : Int32), vr b11, vi (2 : Int32), uu]) rfl ?_
      refine XS.iload X14.here hx rfl (hb hby d_jdk_52_m_16_14) rfl ?_
      refine XS.iloadN X14.here hx rfl (hb hby d_jdk_52_m_16_16) rfl ?_
      show Steps p.tables e below (T14.setTop (mkF m 17 #[vr b1, vi (0 : Int32), vi (2 : Int32), vr b11, vi (2 : Int32), uu] [(.int (2 : Int32)), (.int (2 : Int32))])) _
      refine XS.icmpYes X14.here hx rfl (pc0 := 17) (pc' := 57) rfl (hb hby d_jdk_52_m_16_17) rfl (teq ((by decide) : (2 : Int32) = (2 : Int32))).1 (by decide) (by decide) ?_
      refine XS.aloadN X14.here hx rfl (hb hby d_jdk_52_m_16_57) rfl rfl ?_
      exact Steps.refl _
    obtain ⟨fs, hr, hrun, hended, hW1, hsame⟩ := X14.leave (v := (some (.ref b11))) (fun h => by rw [Bd.returns] at h; cases h)
    refine ⟨_, _, X14.areturnOut hx rfl Bd.returns rfl (hb hby d_jdk_52_m_16_58) hr, hrun, hended, _, _, rfl, ?_, ⟨_, rfl⟩, hW1, hsame.mono (by decide) (by decide)⟩
    show own_u_cmpr2_Q Z b1 k1 c0 c1 h0 n0 (some (.ref b11)) T14.heap _
    exact ⟨_, _, rfl, N14, K15, (by omega), Or.inl ⟨hal, Vl⟩⟩
  · refine own_go st14 ?_
    show own_Fin p e below (T14.setTop (mkF m 12 #[vr b1, vi (0 : Int32), vi (2 : Int32), vr b11, uu, uu] [(.int (0 : Int32))])) _
    have f16 := (f13.keep Kq14 (ninS (own_ne (a := b1) (b := b11) (by omega)) nin0))
    refine own_gs (cur' := T14.setTop (mkF m 23 #[vr b1, vi (0 : Int32), vi (2 : Int32), vr b11, vi (0 : Int32), uu] [(.int (2 : Int32)), (.int (0 : Int32)), (.ref b1)])) ?_ ?_
    · refine XS.istore X14.here hx rfl (hb hby d_jdk_52_m_16_12) rfl (l' := #[vr b1, vi (0 : Int32), vi (2 : Int32), vr b11, vi (0 : Int32), uu]) rfl ?_
      refine XS.iload X14.here hx rfl (hb hby d_jdk_52_m_16_14) rfl ?_
      refine XS.iloadN X14.here hx rfl (hb hby d_jdk_52_m_16_16) rfl ?_
      show Steps p.tables e below (T14.setTop (mkF m 17 #[vr b1, vi (0 : Int32), vi (2 : Int32), vr b11, vi (0 : Int32), uu] [(.int (2 : Int32)), (.int (0 : Int32))])) _
      refine XS.icmpNo X14.here hx rfl (hb hby d_jdk_52_m_16_17) rfl (feq ((by decide) : ¬ ((0 : Int32) = (2 : Int32)))).1 ?_
      refine XS.aloadN X14.here hx rfl (hb hby d_jdk_52_m_16_20) rfl rfl ?_
      refine XS.iloadN X14.here hx rfl (hb hby d_jdk_52_m_16_21) rfl ?_
      show Steps p.tables e below (T14.setTop (mkF m 22 #[vr b1, vi (0 : Int32), vi (2 : Int32), vr b11, vi (0 : Int32), uu] [(.int (0 : Int32)), (.ref b1)])) _
      refine XS.iloadN X14.here hx rfl (hb hby d_jdk_52_m_16_22) rfl ?_
      exact Steps.refl _
    obtain ⟨_, _, ⟨T17, L17, k17, n17⟩, -, X17, ⟨Lc17, hQ17, l17, y17, z17⟩, st17⟩ := Jvm.LawKit.callS X14 hx (y := (⟨"java/lang/StringUTF16", "toBytes", "([CII)[B"⟩ : MethodName)) hown (mvT hZ (hw _ (List.mem_of_getElem? (i := 74) rfl))) (mvT hZ (hw _ (List.mem_of_getElem? (i := 75) rfl))) (mvT hZ (hw _ (List.mem_of_getElem? (i := 26) rfl))) (mvT hZ (hw _ (List.mem_of_getElem? (i := 76) rfl))) (by decide) (backOf (W := 0) (own_u_tob2 l Z a0 hW b1 k1 c0 c1 T14.heap n0 (by omega) O15 f16) hZ (hw _ (List.mem_of_getElem? (i := 76) rfl)) (hw _ (List.mem_of_getElem? (i := 26) rfl)) (by decide) (by decide)) (g := (mkF m 23 #[vr b1, vi (0 : Int32), vi (2 : Int32), vr b11, vi (0 : Int32), uu] [(.int (2 : Int32)), (.int (0 : Int32)), (.ref b1)])) rfl (by rw [hml]; rfl) (argsL := [(.ref b1), (.int (0 : Int32)), (.int (2 : Int32))]) (rest := []) (lenOf pd_11 rfl) rfl (by show 2 * 0 + _ ≤ _; exact Nat.le_of_eq rfl) (hb hby d_jdk_52_m_16_23) (fun _ _ => ⟨rfl, rfl, (by decide : 1 + 1 ≤ 2), (by decide : 2 + 4 ≤ 6)⟩)
    dsimp only [Pt.U, Pt.locs, Pt.cells, Pt.slots] at X17 l17 y17 z17 st17 hQ17
    subst l17 y17 z17
    obtain ⟨t17, kb17, rfl, Nq17, Kq17, Vt17, ge17⟩ := hQ17
    have N17 := Fr.app N14 Nq17
    have z18 := Kq17.1
    have K18 := K15.trans Kq17 all0
    have O18 := O15.keep Kq17 all0
    have lt17 := own_lt Vt17.lt
    refine own_go st17 ?_
    show own_Fin p e below (T17.setTop (mkF m 26 #[vr b1, vi (0 : Int32), vi (2 : Int32), vr b11, vi (0 : Int32), uu] [(.ref t17)])) _
    refine own_gs (cur' := T17.setTop (mkF m 32 #[vr b1, vi (0 : Int32), vi (2 : Int32), vr b11, vi (0 : Int32), vr t17] [(.int (0 : Int32)), (.ref t17)])) ?_ ?_
    · refine XS.astore X17.here hx rfl (hb hby d_jdk_52_m_16_26) rfl rfl (l' := #[vr b1, vi (0 : Int32), vi (2 : Int32), vr b11, vi (0 : Int32), vr t17]) rfl ?_
      refine XS.aload X17.here hx rfl (hb hby d_jdk_52_m_16_28) rfl rfl ?_
      refine XS.iload X17.here hx rfl (hb hby d_jdk_52_m_16_30) rfl ?_
      exact Steps.refl _
    obtain ⟨_, _, ⟨T19, L19, k19, n19⟩, -, X19, ⟨Lc19, hQ19, l19, y19, z19⟩, st19⟩ := Jvm.LawKit.callS X17 hx (y := (⟨"java/lang/StringUTF16", "getChar", "([BI)C"⟩ : MethodName)) hown (mvT hZ (hw _ (List.mem_of_getElem? (i := 90) rfl))) (mvT hZ (hw _ (List.mem_of_getElem? (i := 91) rfl))) (mvT hZ (hw _ (List.mem_of_getElem? (i := 26) rfl))) (mvT hZ (hw _ (List.mem_of_getElem? (i := 92) rfl))) (by decide) (backOf (W := 0) (own_u_getc l Z a0 hW t17 kb17 2 0 (StrChars.Road.wideBytes [c0, c1]) (StrChars.lo8 c0) (StrChars.hi8 c0) T17.heap n0 (by omega) O18 (by decide) (by decide) Vt17 rfl rfl) hZ (hw _ (List.mem_of_getElem? (i := 92) rfl)) (hw _ (List.mem_of_getElem? (i := 26) rfl)) (by decide) (by decide)) (g := (mkF m 32 #[vr b1, vi (0 : Int32), vi (2 : Int32), vr b11, vi (0 : Int32), vr t17] [(.int (0 : Int32)), (.ref t17)])) rfl (by rw [hml]; rfl) (argsL := [(.ref t17), (.int (0 : Int32))]) (rest := []) (lenOf pd_5 rfl) rfl (by show 2 * 0 + _ ≤ _; exact Nat.le_of_eq rfl) (hb hby d_jdk_52_m_16_32) (fun _ _ => ⟨rfl, rfl, (by decide : 2 + 0 ≤ 2), (by decide : 6 + 0 ≤ 6)⟩)
    dsimp only [Pt.U, Pt.locs, Pt.cells, Pt.slots] at X19 l19 y19 z19 st19 hQ19
    subst l19 y19 z19
    obtain ⟨rfl, Nq19, eh19⟩ := hQ19
    have N19 := Fr.app N17 Nq19
    rw [StrChars.pair_says hb0.1 hb0.2] at st19
    refine own_go st19 ?_
    show own_Fin p e below (T19.setTop (mkF m 35 #[vr b1, vi (0 : Int32), vi (2 : Int32), vr b11, vi (0 : Int32), vr t17] [(.int c0)])) _
    refine own_gs (cur' := T19.setTop (mkF m 56 #[vr b1, vi (0 : Int32), vi (2 : Int32), vr b11, vi (0 : Int32), vr t17] [(.ref t17)])) ?_ ?_
    · refine XS.sipush X19.here hx rfl (hb hby d_jdk_52_m_16_35) ?_
      refine XS.icmpYes X19.here hx rfl (pc0 := 38) (pc' := 54) rfl (hb hby d_jdk_52_m_16_38) rfl (tlt (hbig : (255 : Int32) < c0)).2.2.1 (by decide) (by decide) ?_
      refine XS.aload X19.here hx rfl (hb hby d_jdk_52_m_16_54) rfl rfl ?_
      exact Steps.refl _
    obtain ⟨fs, hr, hrun, hended, hW1, hsame⟩ := X19.leave (v := (some (.ref t17))) (fun h => by rw [Bd.returns] at h; cases h)
    refine ⟨_, _, X19.areturnOut hx rfl Bd.returns rfl (hb hby d_jdk_52_m_16_56) hr, hrun, hended, _, _, rfl, ?_, ⟨_, rfl⟩, hW1, hsame.mono (by decide) (by decide)⟩
    show own_u_cmpr2_Q Z b1 k1 c0 c1 h0 n0 (some (.ref t17)) T19.heap _
    rw [eh19]
    exact ⟨_, _, rfl, N19, K18, (by omega), Or.inr ⟨⟨_, List.mem_of_getElem? (i := 0) rfl, hbig⟩, Vt17⟩⟩
  · refine own_go st14 ?_
    show own_Fin p e below (T14.setTop (mkF m 12 #[vr b1, vi (0 : Int32), vi (2 : Int32), vr b11, uu, uu] [(.int (1 : Int32))])) _
    have f20 := (f13.keep Kq14 (ninS (own_ne (a := b1) (b := b11) (by omega)) nin0))
    refine own_gs (cur' := T14.setTop (mkF m 23 #[vr b1, vi (0 : Int32), vi (2 : Int32), vr b11, vi (1 : Int32), uu] [(.int (2 : Int32)), (.int (0 : Int32)), (.ref b1)])) ?_ ?_
    · refine XS.istore X14.here hx rfl (hb hby d_jdk_52_m_16_12) rfl (l' := #[vr b1, vi (0 : Int32), vi (2 : Int32), vr b11, vi (1 : Int32), uu]) rfl ?_
      refine XS.iload X14.here hx rfl (hb hby d_jdk_52_m_16_14) rfl ?_
      refine XS.iloadN X14.here hx rfl (hb hby d_jdk_52_m_16_16) rfl ?_
      show Steps p.tables e below (T14.setTop (mkF m 17 #[vr b1, vi (0 : Int32), vi (2 : Int32), vr b11, vi (1 : Int32), uu] [(.int (2 : Int32)), (.int (1 : Int32))])) _
      refine XS.icmpNo X14.here hx rfl (hb hby d_jdk_52_m_16_17) rfl (feq ((by decide) : ¬ ((1 : Int32) = (2 : Int32)))).1 ?_
      refine XS.aloadN X14.here hx rfl (hb hby d_jdk_52_m_16_20) rfl rfl ?_
      refine XS.iloadN X14.here hx rfl (hb hby d_jdk_52_m_16_21) rfl ?_
      show Steps p.tables e below (T14.setTop (mkF m 22 #[vr b1, vi (0 : Int32), vi (2 : Int32), vr b11, vi (1 : Int32), uu] [(.int (0 : Int32)), (.ref b1)])) _
      refine XS.iloadN X14.here hx rfl (hb hby d_jdk_52_m_16_22) rfl ?_
      exact Steps.refl _
    obtain ⟨_, _, ⟨T21, L21, k21, n21⟩, -, X21, ⟨Lc21, hQ21, l21, y21, z21⟩, st21⟩ := Jvm.LawKit.callS X14 hx (y := (⟨"java/lang/StringUTF16", "toBytes", "([CII)[B"⟩ : MethodName)) hown (mvT hZ (hw _ (List.mem_of_getElem? (i := 74) rfl))) (mvT hZ (hw _ (List.mem_of_getElem? (i := 75) rfl))) (mvT hZ (hw _ (List.mem_of_getElem? (i := 26) rfl))) (mvT hZ (hw _ (List.mem_of_getElem? (i := 76) rfl))) (by decide) (backOf (W := 0) (own_u_tob2 l Z a0 hW b1 k1 c0 c1 T14.heap n0 (by omega) O15 f20) hZ (hw _ (List.mem_of_getElem? (i := 76) rfl)) (hw _ (List.mem_of_getElem? (i := 26) rfl)) (by decide) (by decide)) (g := (mkF m 23 #[vr b1, vi (0 : Int32), vi (2 : Int32), vr b11, vi (1 : Int32), uu] [(.int (2 : Int32)), (.int (0 : Int32)), (.ref b1)])) rfl (by rw [hml]; rfl) (argsL := [(.ref b1), (.int (0 : Int32)), (.int (2 : Int32))]) (rest := []) (lenOf pd_11 rfl) rfl (by show 2 * 0 + _ ≤ _; exact Nat.le_of_eq rfl) (hb hby d_jdk_52_m_16_23) (fun _ _ => ⟨rfl, rfl, (by decide : 1 + 1 ≤ 2), (by decide : 2 + 4 ≤ 6)⟩)
    dsimp only [Pt.U, Pt.locs, Pt.cells, Pt.slots] at X21 l21 y21 z21 st21 hQ21
    subst l21 y21 z21
    obtain ⟨t21, kb21, rfl, Nq21, Kq21, Vt21, ge21⟩ := hQ21
    have N21 := Fr.app N14 Nq21
    have z22 := Kq21.1
    have K22 := K15.trans Kq21 all0
    have O22 := O15.keep Kq21 all0
    have lt21 := own_lt Vt21.lt
    refine own_go st21 ?_
    show own_Fin p e below (T21.setTop (mkF m 26 #[vr b1, vi (0 : Int32), vi (2 : Int32), vr b11, vi (1 : Int32), uu] [(.ref t21)])) _
    refine own_gs (cur' := T21.setTop (mkF m 32 #[vr b1, vi (0 : Int32), vi (2 : Int32), vr b11, vi (1 : Int32), vr t21] [(.int (1 : Int32)), (.ref t21)])) ?_ ?_
    · refine XS.astore X21.here hx rfl (hb hby d_jdk_52_m_16_26) rfl rfl (l' := #[vr b1, vi (0 : Int32), vi (2 : Int32), vr b11, vi (1 : Int32), vr t21]) rfl ?_
      refine XS.aload X21.here hx rfl (hb hby d_jdk_52_m_16_28) rfl rfl ?_
      refine XS.iload X21.here hx rfl (hb hby d_jdk_52_m_16_30) rfl ?_
      exact Steps.refl _
    obtain ⟨_, _, ⟨T23, L23, k23, n23⟩, -, X23, ⟨Lc23, hQ23, l23, y23, z23⟩, st23⟩ := Jvm.LawKit.callS X21 hx (y := (⟨"java/lang/StringUTF16", "getChar", "([BI)C"⟩ : MethodName)) hown (mvT hZ (hw _ (List.mem_of_getElem? (i := 90) rfl))) (mvT hZ (hw _ (List.mem_of_getElem? (i := 91) rfl))) (mvT hZ (hw _ (List.mem_of_getElem? (i := 26) rfl))) (mvT hZ (hw _ (List.mem_of_getElem? (i := 92) rfl))) (by decide) (backOf (W := 0) (own_u_getc l Z a0 hW t21 kb21 2 1 (StrChars.Road.wideBytes [c0, c1]) (StrChars.lo8 c1) (StrChars.hi8 c1) T21.heap n0 (by omega) O22 (by decide) (by decide) Vt21 rfl rfl) hZ (hw _ (List.mem_of_getElem? (i := 92) rfl)) (hw _ (List.mem_of_getElem? (i := 26) rfl)) (by decide) (by decide)) (g := (mkF m 32 #[vr b1, vi (0 : Int32), vi (2 : Int32), vr b11, vi (1 : Int32), vr t21] [(.int (1 : Int32)), (.ref t21)])) rfl (by rw [hml]; rfl) (argsL := [(.ref t21), (.int (1 : Int32))]) (rest := []) (lenOf pd_5 rfl) rfl (by show 2 * 0 + _ ≤ _; exact Nat.le_of_eq rfl) (hb hby d_jdk_52_m_16_32) (fun _ _ => ⟨rfl, rfl, (by decide : 2 + 0 ≤ 2), (by decide : 6 + 0 ≤ 6)⟩)
    dsimp only [Pt.U, Pt.locs, Pt.cells, Pt.slots] at X23 l23 y23 z23 st23 hQ23
    subst l23 y23 z23
    obtain ⟨rfl, Nq23, eh23⟩ := hQ23
    have N23 := Fr.app N21 Nq23
    rw [StrChars.pair_says hb1.1 hb1.2] at st23
    refine own_go st23 ?_
    show own_Fin p e below (T23.setTop (mkF m 35 #[vr b1, vi (0 : Int32), vi (2 : Int32), vr b11, vi (1 : Int32), vr t21] [(.int c1)])) _
    refine own_gs (cur' := T23.setTop (mkF m 56 #[vr b1, vi (0 : Int32), vi (2 : Int32), vr b11, vi (1 : Int32), vr t21] [(.ref t21)])) ?_ ?_
    · refine XS.sipush X23.here hx rfl (hb hby d_jdk_52_m_16_35) ?_
      refine XS.icmpYes X23.here hx rfl (pc0 := 38) (pc' := 54) rfl (hb hby d_jdk_52_m_16_38) rfl (tlt (hbig : (255 : Int32) < c1)).2.2.1 (by decide) (by decide) ?_
      refine XS.aload X23.here hx rfl (hb hby d_jdk_52_m_16_54) rfl rfl ?_
      exact Steps.refl _
    obtain ⟨fs, hr, hrun, hended, hW1, hsame⟩ := X23.leave (v := (some (.ref t21))) (fun h => by rw [Bd.returns] at h; cases h)
    refine ⟨_, _, X23.areturnOut hx rfl Bd.returns rfl (hb hby d_jdk_52_m_16_56) hr, hrun, hended, _, _, rfl, ?_, ⟨_, rfl⟩, hW1, hsame.mono (by decide) (by decide)⟩
    show own_u_cmpr2_Q Z b1 k1 c0 c1 h0 n0 (some (.ref t21)) T23.heap _
    rw [eh23]
    exact ⟨_, _, rfl, N23, K22, (by omega), Or.inr ⟨⟨_, List.mem_of_getElem? (i := 1) rfl, hbig⟩, Vt21⟩⟩
def own_u_cfa2_0_Q (Z : State) (t1 : Nat) (k1 : ClassId) (vs : List Value) (h0 : Heap) (n0 : Nat) (v : Option Value) (h : Heap) (L : List Loc) : Prop := v = (some (.int (0 : Int32))) ∧ Fr n0 L ∧ h = h0
theorem ef_own_u_cfa2_0 (m : MethodId) (x0 : Nat) (x1 : Int32) : entryFrame m #[(.ref x0), (.int x1)] 2 = mkF m 0 #[vr x0, vi x1] [] := by first | (simp [entryFrame, mkF, argsToLocals, Value.category]; done) | rfl
set_option maxRecDepth 65536 in
set_option maxHeartbeats 40000000 in
theorem own_u_cfa2_0 (l : Launch) (Z : State) (a0 : Array Value) (hW : own_W Z a0) (t1 : Nat) (k1 : ClassId) (vs : List Value) (h0 : Heap) (n0 : Nat) (Z0 : n0 ≤ h0.size) (O0 : Old Z n0 h0) (V1 : Arv Z h0 t1 k1 .byte (2 : Int32) vs (.int (0 : Int32))) :
    MetFree l (⟨"java/lang/StringUTF16", "coderFromArrayLen", "([BI)B"⟩ : MethodName) (head1 (Jvm.Cond.code (⟨"java/lang/StringUTF16", "coderFromArrayLen", "([BI)B"⟩ : MethodName) jdk_52_method_15_code 2 (some .byte) :: []) ({ frames := 0, cells := 0, slots := 0, locals := 0 } : Room)) (fun a U => a = #[(.ref t1), (.int (2 : Int32))] ∧ Z.Warmed39 U.vm ∧ U.heap = h0) (fun _ _ _ _ _ => True) (fun _ U o U' => ∃ v L, o = .returned v ∧ own_u_cfa2_0_Q Z t1 k1 vs h0 n0 v U'.heap L ∧ FrameEnd U o U' L ({ frames := 0, cells := 0, slots := 0, locals := 0 } : Room).cells ({ frames := 0, cells := 0, slots := 0, locals := 0 } : Room).slots) := by
  refine MetFree.of_bodySF (plainFor_of_name pn_java_lang_StringUTF16) hisR ?_
  intro p e s m args below meth c s₁ Bd hml0 hP hK
  obtain ⟨rfl, hZ, hh⟩ := hP
  obtain ⟨hw, ⟨G1, O2, P5⟩, ⟨G3, O4, rG3⟩, Oa, Oh, Ol⟩ := id hW
  have hx := Bd.exec
  have hby := Bd.bytes
  have hml : c.maxLocals = 2 := hml0
  have hown : s.vm.findClass "java/lang/StringUTF16" = some m.cls := findClass_of_methodNamed Bd.named
  have hnm := (name_of_methodNamed Bd.named Bd.method).1
  have X0 : Stand p l e ({ frames := 0, cells := 0, slots := 0, locals := 0 } : Room) s m #[(.ref t1), (.int (2 : Int32))] below meth c s₁ [] 0 0 := Stand.of_body Bd
  have e0 : s₁.heap = h0 := by rw [← hh, Bd.state]; rfl
  have N0 := Fr.nil n0
  have K0 := Keep.refl h0 []
  show own_Fin p e below (s₁.setTop (entryFrame m #[(.ref t1), (.int (2 : Int32))] 2)) _
  refine own_gs (castTop (ef_own_u_cfa2_0 m t1 (2 : Int32)) (Steps.refl _)) ?_
  show own_Fin p e below (s₁.setTop (mkF m 0 #[vr t1, vi (2 : Int32)] [])) _
  refine own_gs (cur' := s₁.setTop (mkF m 2 #[vr t1, vi (2 : Int32)] [(.ref t1), (.int (2 : Int32))])) ?_ ?_
  · refine XS.iloadN X0.here hx rfl (hb hby d_jdk_52_m_15_0) rfl ?_
    refine XS.aloadN X0.here hx rfl (hb hby d_jdk_52_m_15_1) rfl rfl ?_
    exact Steps.refl _
  obtain ⟨cl11, Ar11, q11, S11, M11, Hs11, G11⟩ := id V1
  refine own_go (X0.arraylength hx (by rw [e0]; exact Ar11.1) (State.isArrayOf_alike hZ.alike Ar11.2.1) (g := (mkF m 2 #[vr t1, vi (2 : Int32)] [(.ref t1), (.int (2 : Int32))])) rfl rfl (hb hby d_jdk_52_m_15_2)) ?_
  rw [len_of S11 M11]
  show own_Fin p e below (s₁.setTop (mkF m 3 #[vr t1, vi (2 : Int32)] [(.int (2 : Int32)), (.int (2 : Int32))])) _
  refine own_gs (cur' := s₁.setTop (mkF m 8 #[vr t1, vi (2 : Int32)] [(.int (0 : Int32))])) ?_ ?_
  · refine XS.isub X0.here hx rfl (hb hby d_jdk_52_m_15_3) rfl ?_
    refine XS.bipush X0.here hx rfl (hb hby d_jdk_52_m_15_4) ?_
    refine XS.iushr X0.here hx rfl (hb hby d_jdk_52_m_15_6) rfl ?_
    show Steps p.tables e below (s₁.setTop (mkF m 7 #[vr t1, vi (2 : Int32)] [(.int (0 : Int32))])) _
    refine XS.i2b X0.here hx rfl (hb hby d_jdk_52_m_15_7) rfl ?_
    exact Steps.refl _
  obtain ⟨fs, hr, hrun, hended, hW1, hsame⟩ := X0.leave (v := (some (.int (0 : Int32)))) (fun h => by rw [Bd.returns] at h; cases h)
  refine ⟨_, _, retN X0 hx (t := .byte) Bd.returns (by simp) (hb hby d_jdk_52_m_15_8) hr, hrun, hended, _, _, rfl, ?_, ⟨_, rfl⟩, hW1, hsame.mono (by decide) (by decide)⟩
  show own_u_cfa2_0_Q Z t1 k1 vs h0 n0 (some (.int (0 : Int32))) s₁.heap _
  rw [e0]
  exact ⟨rfl, N0, rfl⟩
def own_u_cfa2_1_Q (Z : State) (t1 : Nat) (k1 : ClassId) (vs : List Value) (h0 : Heap) (n0 : Nat) (v : Option Value) (h : Heap) (L : List Loc) : Prop := v = (some (.int (1 : Int32))) ∧ Fr n0 L ∧ h = h0
theorem ef_own_u_cfa2_1 (m : MethodId) (x0 : Nat) (x1 : Int32) : entryFrame m #[(.ref x0), (.int x1)] 2 = mkF m 0 #[vr x0, vi x1] [] := by first | (simp [entryFrame, mkF, argsToLocals, Value.category]; done) | rfl
set_option maxRecDepth 65536 in
set_option maxHeartbeats 40000000 in
theorem own_u_cfa2_1 (l : Launch) (Z : State) (a0 : Array Value) (hW : own_W Z a0) (t1 : Nat) (k1 : ClassId) (vs : List Value) (h0 : Heap) (n0 : Nat) (Z0 : n0 ≤ h0.size) (O0 : Old Z n0 h0) (V1 : Arv Z h0 t1 k1 .byte (4 : Int32) vs (.int (0 : Int32))) :
    MetFree l (⟨"java/lang/StringUTF16", "coderFromArrayLen", "([BI)B"⟩ : MethodName) (head1 (Jvm.Cond.code (⟨"java/lang/StringUTF16", "coderFromArrayLen", "([BI)B"⟩ : MethodName) jdk_52_method_15_code 2 (some .byte) :: []) ({ frames := 0, cells := 0, slots := 0, locals := 0 } : Room)) (fun a U => a = #[(.ref t1), (.int (2 : Int32))] ∧ Z.Warmed39 U.vm ∧ U.heap = h0) (fun _ _ _ _ _ => True) (fun _ U o U' => ∃ v L, o = .returned v ∧ own_u_cfa2_1_Q Z t1 k1 vs h0 n0 v U'.heap L ∧ FrameEnd U o U' L ({ frames := 0, cells := 0, slots := 0, locals := 0 } : Room).cells ({ frames := 0, cells := 0, slots := 0, locals := 0 } : Room).slots) := by
  refine MetFree.of_bodySF (plainFor_of_name pn_java_lang_StringUTF16) hisR ?_
  intro p e s m args below meth c s₁ Bd hml0 hP hK
  obtain ⟨rfl, hZ, hh⟩ := hP
  obtain ⟨hw, ⟨G1, O2, P5⟩, ⟨G3, O4, rG3⟩, Oa, Oh, Ol⟩ := id hW
  have hx := Bd.exec
  have hby := Bd.bytes
  have hml : c.maxLocals = 2 := hml0
  have hown : s.vm.findClass "java/lang/StringUTF16" = some m.cls := findClass_of_methodNamed Bd.named
  have hnm := (name_of_methodNamed Bd.named Bd.method).1
  have X0 : Stand p l e ({ frames := 0, cells := 0, slots := 0, locals := 0 } : Room) s m #[(.ref t1), (.int (2 : Int32))] below meth c s₁ [] 0 0 := Stand.of_body Bd
  have e0 : s₁.heap = h0 := by rw [← hh, Bd.state]; rfl
  have N0 := Fr.nil n0
  have K0 := Keep.refl h0 []
  show own_Fin p e below (s₁.setTop (entryFrame m #[(.ref t1), (.int (2 : Int32))] 2)) _
  refine own_gs (castTop (ef_own_u_cfa2_1 m t1 (2 : Int32)) (Steps.refl _)) ?_
  show own_Fin p e below (s₁.setTop (mkF m 0 #[vr t1, vi (2 : Int32)] [])) _
  refine own_gs (cur' := s₁.setTop (mkF m 2 #[vr t1, vi (2 : Int32)] [(.ref t1), (.int (2 : Int32))])) ?_ ?_
  · refine XS.iloadN X0.here hx rfl (hb hby d_jdk_52_m_15_0) rfl ?_
    refine XS.aloadN X0.here hx rfl (hb hby d_jdk_52_m_15_1) rfl rfl ?_
    exact Steps.refl _
  obtain ⟨cl11, Ar11, q11, S11, M11, Hs11, G11⟩ := id V1
  refine own_go (X0.arraylength hx (by rw [e0]; exact Ar11.1) (State.isArrayOf_alike hZ.alike Ar11.2.1) (g := (mkF m 2 #[vr t1, vi (2 : Int32)] [(.ref t1), (.int (2 : Int32))])) rfl rfl (hb hby d_jdk_52_m_15_2)) ?_
  rw [len_of S11 M11]
  show own_Fin p e below (s₁.setTop (mkF m 3 #[vr t1, vi (2 : Int32)] [(.int (4 : Int32)), (.int (2 : Int32))])) _
  refine own_gs (cur' := s₁.setTop (mkF m 8 #[vr t1, vi (2 : Int32)] [(.int (1 : Int32))])) ?_ ?_
  · refine XS.isub X0.here hx rfl (hb hby d_jdk_52_m_15_3) rfl ?_
    refine XS.bipush X0.here hx rfl (hb hby d_jdk_52_m_15_4) ?_
    refine XS.iushr X0.here hx rfl (hb hby d_jdk_52_m_15_6) rfl ?_
    show Steps p.tables e below (s₁.setTop (mkF m 7 #[vr t1, vi (2 : Int32)] [(.int (1 : Int32))])) _
    refine XS.i2b X0.here hx rfl (hb hby d_jdk_52_m_15_7) rfl ?_
    exact Steps.refl _
  obtain ⟨fs, hr, hrun, hended, hW1, hsame⟩ := X0.leave (v := (some (.int (1 : Int32)))) (fun h => by rw [Bd.returns] at h; cases h)
  refine ⟨_, _, retN X0 hx (t := .byte) Bd.returns (by simp) (hb hby d_jdk_52_m_15_8) hr, hrun, hended, _, _, rfl, ?_, ⟨_, rfl⟩, hW1, hsame.mono (by decide) (by decide)⟩
  show own_u_cfa2_1_Q Z t1 k1 vs h0 n0 (some (.int (1 : Int32))) s₁.heap _
  rw [e0]
  exact ⟨rfl, N0, rfl⟩
def own_u_new4_2_Q (Z : State) (x1 b1 : Nat) (v0 c0_ : Value) (k1 : ClassId) (c0 c1 : Int32) (h0 : Heap) (n0 : Nat) (v : Option Value) (h : Heap) (L : List Loc) : Prop := v = none ∧ Fr n0 L ∧ Keep h0 h [x1] ∧ ∃ t : Nat, x1 ≠ t ∧ own_Str Z h x1 t [c0, c1]
theorem ef_own_u_new4_2 (m : MethodId) (x0 : Nat) (x1 : Nat) (x2 : Int32) (x3 : Int32) : entryFrame m #[(.ref x0), (.ref x1), (.int x2), (.int x3), .null] 6 = mkF m 0 #[vr x0, vr x1, vi x2, vi x3, vn, .unset] [] := by first | (simp [entryFrame, mkF, argsToLocals, Value.category]; done) | rfl
set_option maxRecDepth 65536 in
set_option maxHeartbeats 40000000 in
theorem own_u_new4_2 (l : Launch) (Z : State) (a0 : Array Value) (hW : own_W Z a0) (x1 b1 : Nat) (v0 c0_ : Value) (k1 : ClassId) (c0 c1 : Int32) (h0 : Heap) (n0 : Nat) (Z0 : n0 ≤ h0.size) (O0 : Old Z n0 h0) (E1 : Exa Z h0 x1 "java/lang/String") (Fv1 : Fld Z h0 x1 "java/lang/String" "value" "[B" v0) (Fc1 : Fld Z h0 x1 "java/lang/String" "coder" "B" c0_) (g1 : n0 ≤ x1) (V1 : Arv Z h0 b1 k1 .char (2 : Int32) [(.int c0), (.int c1)] (.int (0 : Int32))) (hb0 : ¬ c0 < 0 ∧ ¬ (65535 : Int32) < c0) (hb1 : ¬ c1 < 0 ∧ ¬ (65535 : Int32) < c1) :
    MetFree l (⟨"java/lang/String", "<init>", "([CIILjava/lang/Void;)V"⟩ : MethodName) (head1 (Jvm.Cond.code (⟨"java/lang/String", "<init>", "([CIILjava/lang/Void;)V"⟩ : MethodName) jdk_42_method_149_code 6 none :: []) ({ frames := 4, cells := 2, slots := 6, locals := 57 } : Room)) (fun a U => a = #[(.ref x1), (.ref b1), (.int (0 : Int32)), (.int (2 : Int32)), .null] ∧ Z.Warmed39 U.vm ∧ U.heap = h0) (fun _ _ _ _ _ => True) (fun _ U o U' => ∃ v L, o = .returned v ∧ own_u_new4_2_Q Z x1 b1 v0 c0_ k1 c0 c1 h0 n0 v U'.heap L ∧ FrameEnd U o U' L ({ frames := 4, cells := 2, slots := 6, locals := 57 } : Room).cells ({ frames := 4, cells := 2, slots := 6, locals := 57 } : Room).slots) := by
  refine MetFree.of_bodySF (plainFor_of_name pn_java_lang_String) hisR ?_
  intro p e s m args below meth c s₁ Bd hml0 hP hK
  obtain ⟨rfl, hZ, hh⟩ := hP
  obtain ⟨hw, ⟨G1, O2, P5⟩, ⟨G3, O4, rG3⟩, Oa, Oh, Ol⟩ := id hW
  have hx := Bd.exec
  have hby := Bd.bytes
  have hml : c.maxLocals = 6 := hml0
  have hown : s.vm.findClass "java/lang/String" = some m.cls := findClass_of_methodNamed Bd.named
  have hnm := (name_of_methodNamed Bd.named Bd.method).1
  have X0 : Stand p l e ({ frames := 4, cells := 2, slots := 6, locals := 57 } : Room) s m #[(.ref x1), (.ref b1), (.int (0 : Int32)), (.int (2 : Int32)), .null] below meth c s₁ [] 0 0 := Stand.of_body Bd
  have e0 : s₁.heap = h0 := by rw [← hh, Bd.state]; rfl
  have N0 := Fr.nil n0
  have K0 := Keep.refl h0 [x1]
  have lt1 := own_lt E1.lt
  have lt1 := own_lt V1.lt
  have hbd : ∀ c ∈ ([c0, c1] : List Int32), ¬ c < 0 ∧ ¬ (65535 : Int32) < c := by
    intro c hc
    simp only [List.mem_cons, List.not_mem_nil, or_false] at hc
    rcases hc with rfl | rfl
    · exact hb0
    · exact hb1
  show own_Fin p e below (s₁.setTop (entryFrame m #[(.ref x1), (.ref b1), (.int (0 : Int32)), (.int (2 : Int32)), .null] 6)) _
  refine own_gs (castTop (ef_own_u_new4_2 m x1 b1 (0 : Int32) (2 : Int32)) (Steps.refl _)) ?_
  show own_Fin p e below (s₁.setTop (mkF m 0 #[vr x1, vr b1, vi (0 : Int32), vi (2 : Int32), vn, uu] [])) _
  refine own_gs (cur' := s₁.setTop (mkF m 1 #[vr x1, vr b1, vi (0 : Int32), vi (2 : Int32), vn, uu] [(.ref x1)])) ?_ ?_
  · refine XS.aloadN X0.here hx rfl (hb hby d_jdk_42_m_149_0) rfl rfl ?_
    exact Steps.refl _
  obtain ⟨T11, X11, e11, st11⟩ := initO X0 hx hZ hown (hw _ (List.mem_of_getElem? (i := 12) rfl)) (hw _ (List.mem_of_getElem? (i := 13) rfl)) (hw _ (List.mem_of_getElem? (i := 14) rfl)) e0 (g := (mkF m 1 #[vr x1, vr b1, vi (0 : Int32), vi (2 : Int32), vn, uu] [(.ref x1)])) rfl (by rw [hml]; rfl) rfl (hb hby d_jdk_42_m_149_1) (by decide) (W := 0) (by show 2 * 0 + _ ≤ _; exact Nat.le_of_eq rfl) (by decide)
  refine own_go st11 ?_
  show own_Fin p e below (T11.setTop (mkF m 4 #[vr x1, vr b1, vi (0 : Int32), vi (2 : Int32), vn, uu] [])) _
  refine own_gs (cur' := T11.setTop (mkF m 27 #[vr x1, vr b1, vi (0 : Int32), vi (2 : Int32), vn, uu] [])) ?_ ?_
  · refine XS.iloadN X11.here hx rfl (hb hby d_jdk_42_m_149_4) rfl ?_
    refine XS.ifYes X11.here hx rfl (pc0 := 5) (pc' := 27) rfl (hb hby d_jdk_42_m_149_5) rfl ((if0 _ _).trans (feq ((by decide) : ¬ ((2 : Int32) = (0 : Int32)))).2) (by decide) (by decide) ?_
    exact Steps.refl _
  obtain ⟨T12, X12, e12, st12⟩ := getS2 X11 hx hZ hown (host := "") (Or.inl (hw _ (List.mem_of_getElem? (i := 23) rfl))) Via.refl e11 (O2.ext O0.2) (g := (mkF m 27 #[vr x1, vr b1, vi (0 : Int32), vi (2 : Int32), vn, uu] [])) rfl (hb hby d_jdk_42_m_149_27)
  refine own_go st12 ?_
  show own_Fin p e below (T12.setTop (mkF m 30 #[vr x1, vr b1, vi (0 : Int32), vi (2 : Int32), vn, uu] [(.int G1)])) _
  refine own_gs (cur' := T12.setTop (mkF m 36 #[vr x1, vr b1, vi (0 : Int32), vi (2 : Int32), vn, uu] [(.int (2 : Int32)), (.int (0 : Int32)), (.ref b1)])) ?_ ?_
  · refine XS.ifNo X12.here hx rfl (hb hby d_jdk_42_m_149_30) rfl ((if0 _ _).trans (feq (P5 : ¬ (G1 = (0 : Int32)))).1) ?_
    refine XS.aloadN X12.here hx rfl (hb hby d_jdk_42_m_149_33) rfl rfl ?_
    refine XS.iloadN X12.here hx rfl (hb hby d_jdk_42_m_149_34) rfl ?_
    show Steps p.tables e below (T12.setTop (mkF m 35 #[vr x1, vr b1, vi (0 : Int32), vi (2 : Int32), vn, uu] [(.int (0 : Int32)), (.ref b1)])) _
    refine XS.iloadN X12.here hx rfl (hb hby d_jdk_42_m_149_35) rfl ?_
    exact Steps.refl _
  obtain ⟨_, _, ⟨T13, L13, k13, n13⟩, -, X13, ⟨Lc13, hQ13, l13, y13, z13⟩, st13⟩ := Jvm.LawKit.callS X12 hx (y := (⟨"java/lang/StringUTF16", "compress", "([CII)[B"⟩ : MethodName)) hown (mvT hZ (hw _ (List.mem_of_getElem? (i := 24) rfl))) (mvT hZ (hw _ (List.mem_of_getElem? (i := 25) rfl))) (mvT hZ (hw _ (List.mem_of_getElem? (i := 26) rfl))) (mvT hZ (hw _ (List.mem_of_getElem? (i := 27) rfl))) (by decide) (backOf (W := 0) (own_u_cmpr2 l Z a0 hW b1 k1 c0 c1 h0 n0 (by omega) O0 V1 hb0 hb1) hZ (hw _ (List.mem_of_getElem? (i := 27) rfl)) (hw _ (List.mem_of_getElem? (i := 26) rfl)) (by decide) (by decide)) (g := (mkF m 36 #[vr x1, vr b1, vi (0 : Int32), vi (2 : Int32), vn, uu] [(.int (2 : Int32)), (.int (0 : Int32)), (.ref b1)])) rfl (by rw [hml]; rfl) (argsL := [(.ref b1), (.int (0 : Int32)), (.int (2 : Int32))]) (rest := []) (lenOf pd_11 rfl) rfl (by show 2 * 0 + _ ≤ _; exact Nat.le_of_eq rfl) (hb hby d_jdk_42_m_149_36) (fun _ _ => ⟨rfl, e12, (by decide : 0 + 2 ≤ 2), (by decide : 0 + 6 ≤ 6)⟩)
  dsimp only [Pt.U, Pt.locs, Pt.cells, Pt.slots] at X13 l13 y13 z13 st13 hQ13
  subst l13 y13 z13
  obtain ⟨t13, kb13, rfl, Nq13, Kq13, ge13, hor⟩ := hQ13
  have N13 := Fr.app N0 Nq13
  have z14 := Kq13.1
  have K14 := K0.trans Kq13 all0
  have O14 := O0.keep Kq13 all0
  rcases hor with ⟨hal, Vt⟩ | ⟨hbig, Vt⟩
  · have ltt := own_lt Vt.lt
    refine own_go st13 ?_
    show own_Fin p e below (T13.setTop (mkF m 39 #[vr x1, vr b1, vi (0 : Int32), vi (2 : Int32), vn, uu] [(.ref t13)])) _
    refine own_gs (cur' := T13.setTop (mkF m 45 #[vr x1, vr b1, vi (0 : Int32), vi (2 : Int32), vn, vr t13] [(.int (2 : Int32)), (.ref t13), (.ref x1)])) ?_ ?_
    · refine XS.astore X13.here hx rfl (hb hby d_jdk_42_m_149_39) rfl rfl (l' := #[vr x1, vr b1, vi (0 : Int32), vi (2 : Int32), vn, vr t13]) rfl ?_
      refine XS.aloadN X13.here hx rfl (hb hby d_jdk_42_m_149_41) rfl rfl ?_
      refine XS.aload X13.here hx rfl (hb hby d_jdk_42_m_149_42) rfl rfl ?_
      show Steps p.tables e below (T13.setTop (mkF m 44 #[vr x1, vr b1, vi (0 : Int32), vi (2 : Int32), vn, vr t13] [(.ref t13), (.ref x1)])) _
      refine XS.iloadN X13.here hx rfl (hb hby d_jdk_42_m_149_44) rfl ?_
      exact Steps.refl _
    obtain ⟨_, _, ⟨T15, L15, k15, n15⟩, -, X15, ⟨Lc15, hQ15, l15, y15, z15⟩, st15⟩ := Jvm.LawKit.callS X13 hx (y := (⟨"java/lang/StringUTF16", "coderFromArrayLen", "([BI)B"⟩ : MethodName)) hown (mvT hZ (hw _ (List.mem_of_getElem? (i := 31) rfl))) (mvT hZ (hw _ (List.mem_of_getElem? (i := 32) rfl))) (mvT hZ (hw _ (List.mem_of_getElem? (i := 26) rfl))) (mvT hZ (hw _ (List.mem_of_getElem? (i := 33) rfl))) (by decide) (backOf (W := 1) (own_u_cfa2_0 l Z a0 hW t13 kb13 _ T13.heap n0 (by omega) O14 Vt) hZ (hw _ (List.mem_of_getElem? (i := 33) rfl)) (hw _ (List.mem_of_getElem? (i := 26) rfl)) (by decide) (by decide)) (g := (mkF m 45 #[vr x1, vr b1, vi (0 : Int32), vi (2 : Int32), vn, vr t13] [(.int (2 : Int32)), (.ref t13), (.ref x1)])) rfl (by rw [hml]; rfl) (argsL := [(.ref t13), (.int (2 : Int32))]) (rest := [(.ref x1)]) (lenOf pd_12 rfl) rfl (by show 2 * 0 + _ ≤ _; exact Nat.le_of_eq rfl) (hb hby d_jdk_42_m_149_45) (fun _ _ => ⟨rfl, rfl, (by decide : 2 + 0 ≤ 2), (by decide : 6 + 0 ≤ 6)⟩)
    dsimp only [Pt.U, Pt.locs, Pt.cells, Pt.slots] at X15 l15 y15 z15 st15 hQ15
    subst l15 y15 z15
    obtain ⟨rfl, Nq15, eh15⟩ := hQ15
    have N15 := Fr.app N13 Nq15
    refine own_go st15 ?_
    show own_Fin p e below (T15.setTop (mkF m 48 #[vr x1, vr b1, vi (0 : Int32), vi (2 : Int32), vn, vr t13] [(.int (0 : Int32)), (.ref x1)])) _
    have f17 := (Fc1.keep Kq13 nin0)
    have f18 := (E1.keep Kq13)
    obtain ⟨T16, h16, X16, e16, W16, st16⟩ := putF X15 hx hZ hown (host := "") (Or.inl (hw _ (List.mem_of_getElem? (i := 22) rfl))) Via.refl eh15 f17 f18 (Or.inr ⟨(hw _ (List.mem_of_getElem? (i := 18) rfl)), rfl, hnm⟩) (hw _ (List.mem_of_getElem? (i := 2) rfl)) (ty := .byte) (by decide) rfl rfl (g := (mkF m 48 #[vr x1, vr b1, vi (0 : Int32), vi (2 : Int32), vn, vr t13] [(.int (0 : Int32)), (.ref x1)])) rfl rfl (hb hby d_jdk_42_m_149_48)
    have F16 := f17.same W16
    refine own_go st16 ?_
    show own_Fin p e below (T16.setTop (mkF m 51 #[vr x1, vr b1, vi (0 : Int32), vi (2 : Int32), vn, vr t13] [])) _
    have z19 := W16.size
    have K19 := K14.wr W16 (Or.inl (List.mem_of_getElem? (i := 0) rfl))
    have O19 := O14.wr W16 (by omega)
    have N19 := Fr.snoc X16 N15 (by omega)
    refine own_gs (cur' := T16.setTop (mkF m 54 #[vr x1, vr b1, vi (0 : Int32), vi (2 : Int32), vn, vr t13] [(.ref t13), (.ref x1)])) ?_ ?_
    · refine XS.aloadN X16.here hx rfl (hb hby d_jdk_42_m_149_51) rfl rfl ?_
      refine XS.aload X16.here hx rfl (hb hby d_jdk_42_m_149_52) rfl rfl ?_
      exact Steps.refl _
    have f21 := ((Fv1.keep Kq13 nin0).other W16 (Or.inr (slot_ne (Or.inr (hw _ (List.mem_of_getElem? (i := 17) rfl))) (Or.inr (hw _ (List.mem_of_getElem? (i := 18) rfl))) (by decide) (t := (.array .byte)) (t' := .byte) (by decide) (by decide))))
    have f22 := (f18.wr W16)
    obtain ⟨T20, h20, X20, e20, W20, st20⟩ := putF X16 hx hZ hown (host := "") (Or.inl (hw _ (List.mem_of_getElem? (i := 21) rfl))) Via.refl e16 f21 f22 (Or.inr ⟨(hw _ (List.mem_of_getElem? (i := 17) rfl)), rfl, hnm⟩) (hw _ (List.mem_of_getElem? (i := 2) rfl)) (ty := (.array .byte)) (by decide) rfl rfl (g := (mkF m 54 #[vr x1, vr b1, vi (0 : Int32), vi (2 : Int32), vn, vr t13] [(.ref t13), (.ref x1)])) rfl rfl (hb hby d_jdk_42_m_149_54)
    have F20 := f21.same W20
    refine own_go st20 ?_
    show own_Fin p e below (T20.setTop (mkF m 57 #[vr x1, vr b1, vi (0 : Int32), vi (2 : Int32), vn, vr t13] [])) _
    have z23 := W20.size
    have K23 := K19.wr W20 (Or.inl (List.mem_of_getElem? (i := 0) rfl))
    have O23 := O19.wr W20 (by omega)
    have N23 := Fr.snoc X20 N19 (by omega)
    have f24 := (f22.wr W20)
    have f25 := (F16.other W20 (Or.inr (slot_ne (Or.inr (hw _ (List.mem_of_getElem? (i := 18) rfl))) (Or.inr (hw _ (List.mem_of_getElem? (i := 17) rfl))) (by decide) (t := .byte) (t' := (.array .byte)) (by decide) (by decide))))
    have f26 := ((Vt.other W16 (own_ne (a := t13) (b := x1) (by omega))).other W20 (own_ne (a := t13) (b := x1) (by omega)))
    obtain ⟨fs, hr, hrun, hended, hW1, hsame⟩ := X20.leave (v := none) (fun _ => rfl)
    refine ⟨_, _, X20.returnOut hx Bd.returns (hb hby d_jdk_42_m_149_57) hr, hrun, hended, _, _, rfl, ?_, ⟨_, rfl⟩, hW1, hsame.mono (by decide) (by decide)⟩
    show own_u_new4_2_Q Z x1 b1 v0 c0_ k1 c0 c1 h0 n0 none T20.heap _
    rw [e20]
    exact ⟨rfl, N23, K23, t13, (by omega), ⟨_, _, _, _, f24, F20, f25, f26, Or.inl ⟨rfl, rfl, rfl, hal⟩, hbd, Nat.le_of_ble_eq_true rfl⟩⟩
  · have ltt := own_lt Vt.lt
    refine own_go st13 ?_
    show own_Fin p e below (T13.setTop (mkF m 39 #[vr x1, vr b1, vi (0 : Int32), vi (2 : Int32), vn, uu] [(.ref t13)])) _
    refine own_gs (cur' := T13.setTop (mkF m 45 #[vr x1, vr b1, vi (0 : Int32), vi (2 : Int32), vn, vr t13] [(.int (2 : Int32)), (.ref t13), (.ref x1)])) ?_ ?_
    · refine XS.astore X13.here hx rfl (hb hby d_jdk_42_m_149_39) rfl rfl (l' := #[vr x1, vr b1, vi (0 : Int32), vi (2 : Int32), vn, vr t13]) rfl ?_
      refine XS.aloadN X13.here hx rfl (hb hby d_jdk_42_m_149_41) rfl rfl ?_
      refine XS.aload X13.here hx rfl (hb hby d_jdk_42_m_149_42) rfl rfl ?_
      show Steps p.tables e below (T13.setTop (mkF m 44 #[vr x1, vr b1, vi (0 : Int32), vi (2 : Int32), vn, vr t13] [(.ref t13), (.ref x1)])) _
      refine XS.iloadN X13.here hx rfl (hb hby d_jdk_42_m_149_44) rfl ?_
      exact Steps.refl _
    obtain ⟨_, _, ⟨T27, L27, k27, n27⟩, -, X27, ⟨Lc27, hQ27, l27, y27, z27⟩, st27⟩ := Jvm.LawKit.callS X13 hx (y := (⟨"java/lang/StringUTF16", "coderFromArrayLen", "([BI)B"⟩ : MethodName)) hown (mvT hZ (hw _ (List.mem_of_getElem? (i := 31) rfl))) (mvT hZ (hw _ (List.mem_of_getElem? (i := 32) rfl))) (mvT hZ (hw _ (List.mem_of_getElem? (i := 26) rfl))) (mvT hZ (hw _ (List.mem_of_getElem? (i := 33) rfl))) (by decide) (backOf (W := 1) (own_u_cfa2_1 l Z a0 hW t13 kb13 _ T13.heap n0 (by omega) O14 Vt) hZ (hw _ (List.mem_of_getElem? (i := 33) rfl)) (hw _ (List.mem_of_getElem? (i := 26) rfl)) (by decide) (by decide)) (g := (mkF m 45 #[vr x1, vr b1, vi (0 : Int32), vi (2 : Int32), vn, vr t13] [(.int (2 : Int32)), (.ref t13), (.ref x1)])) rfl (by rw [hml]; rfl) (argsL := [(.ref t13), (.int (2 : Int32))]) (rest := [(.ref x1)]) (lenOf pd_12 rfl) rfl (by show 2 * 0 + _ ≤ _; exact Nat.le_of_eq rfl) (hb hby d_jdk_42_m_149_45) (fun _ _ => ⟨rfl, rfl, (by decide : 2 + 0 ≤ 2), (by decide : 6 + 0 ≤ 6)⟩)
    dsimp only [Pt.U, Pt.locs, Pt.cells, Pt.slots] at X27 l27 y27 z27 st27 hQ27
    subst l27 y27 z27
    obtain ⟨rfl, Nq27, eh27⟩ := hQ27
    have N27 := Fr.app N13 Nq27
    refine own_go st27 ?_
    show own_Fin p e below (T27.setTop (mkF m 48 #[vr x1, vr b1, vi (0 : Int32), vi (2 : Int32), vn, vr t13] [(.int (1 : Int32)), (.ref x1)])) _
    have f29 := (Fc1.keep Kq13 nin0)
    have f30 := (E1.keep Kq13)
    obtain ⟨T28, h28, X28, e28, W28, st28⟩ := putF X27 hx hZ hown (host := "") (Or.inl (hw _ (List.mem_of_getElem? (i := 22) rfl))) Via.refl eh27 f29 f30 (Or.inr ⟨(hw _ (List.mem_of_getElem? (i := 18) rfl)), rfl, hnm⟩) (hw _ (List.mem_of_getElem? (i := 2) rfl)) (ty := .byte) (by decide) rfl rfl (g := (mkF m 48 #[vr x1, vr b1, vi (0 : Int32), vi (2 : Int32), vn, vr t13] [(.int (1 : Int32)), (.ref x1)])) rfl rfl (hb hby d_jdk_42_m_149_48)
    have F28 := f29.same W28
    refine own_go st28 ?_
    show own_Fin p e below (T28.setTop (mkF m 51 #[vr x1, vr b1, vi (0 : Int32), vi (2 : Int32), vn, vr t13] [])) _
    have z31 := W28.size
    have K31 := K14.wr W28 (Or.inl (List.mem_of_getElem? (i := 0) rfl))
    have O31 := O14.wr W28 (by omega)
    have N31 := Fr.snoc X28 N27 (by omega)
    refine own_gs (cur' := T28.setTop (mkF m 54 #[vr x1, vr b1, vi (0 : Int32), vi (2 : Int32), vn, vr t13] [(.ref t13), (.ref x1)])) ?_ ?_
    · refine XS.aloadN X28.here hx rfl (hb hby d_jdk_42_m_149_51) rfl rfl ?_
      refine XS.aload X28.here hx rfl (hb hby d_jdk_42_m_149_52) rfl rfl ?_
      exact Steps.refl _
    have f33 := ((Fv1.keep Kq13 nin0).other W28 (Or.inr (slot_ne (Or.inr (hw _ (List.mem_of_getElem? (i := 17) rfl))) (Or.inr (hw _ (List.mem_of_getElem? (i := 18) rfl))) (by decide) (t := (.array .byte)) (t' := .byte) (by decide) (by decide))))
    have f34 := (f30.wr W28)
    obtain ⟨T32, h32, X32, e32, W32, st32⟩ := putF X28 hx hZ hown (host := "") (Or.inl (hw _ (List.mem_of_getElem? (i := 21) rfl))) Via.refl e28 f33 f34 (Or.inr ⟨(hw _ (List.mem_of_getElem? (i := 17) rfl)), rfl, hnm⟩) (hw _ (List.mem_of_getElem? (i := 2) rfl)) (ty := (.array .byte)) (by decide) rfl rfl (g := (mkF m 54 #[vr x1, vr b1, vi (0 : Int32), vi (2 : Int32), vn, vr t13] [(.ref t13), (.ref x1)])) rfl rfl (hb hby d_jdk_42_m_149_54)
    have F32 := f33.same W32
    refine own_go st32 ?_
    show own_Fin p e below (T32.setTop (mkF m 57 #[vr x1, vr b1, vi (0 : Int32), vi (2 : Int32), vn, vr t13] [])) _
    have z35 := W32.size
    have K35 := K31.wr W32 (Or.inl (List.mem_of_getElem? (i := 0) rfl))
    have O35 := O31.wr W32 (by omega)
    have N35 := Fr.snoc X32 N31 (by omega)
    have f36 := (f34.wr W32)
    have f37 := (F28.other W32 (Or.inr (slot_ne (Or.inr (hw _ (List.mem_of_getElem? (i := 18) rfl))) (Or.inr (hw _ (List.mem_of_getElem? (i := 17) rfl))) (by decide) (t := .byte) (t' := (.array .byte)) (by decide) (by decide))))
    have f38 := ((Vt.other W28 (own_ne (a := t13) (b := x1) (by omega))).other W32 (own_ne (a := t13) (b := x1) (by omega)))
    obtain ⟨fs, hr, hrun, hended, hW1, hsame⟩ := X32.leave (v := none) (fun _ => rfl)
    refine ⟨_, _, X32.returnOut hx Bd.returns (hb hby d_jdk_42_m_149_57) hr, hrun, hended, _, _, rfl, ?_, ⟨_, rfl⟩, hW1, hsame.mono (by decide) (by decide)⟩
    show own_u_new4_2_Q Z x1 b1 v0 c0_ k1 c0 c1 h0 n0 none T32.heap _
    rw [e32]
    exact ⟨rfl, N35, K35, t13, (by omega), ⟨_, _, _, _, f36, F32, f37, f38, Or.inr ⟨rfl, rfl, rfl, hbig⟩, hbd, Nat.le_of_ble_eq_true rfl⟩⟩
def own_u_new1_2_Q (Z : State) (x1 b1 : Nat) (v0 c0_ : Value) (k1 : ClassId) (c0 c1 : Int32) (h0 : Heap) (n0 : Nat) (v : Option Value) (h : Heap) (L : List Loc) : Prop := v = none ∧ Fr n0 L ∧ Keep h0 h [x1] ∧ ∃ t : Nat, x1 ≠ t ∧ own_Str Z h x1 t [c0, c1]
theorem ef_own_u_new1_2 (m : MethodId) (x0 : Nat) (x1 : Nat) : entryFrame m #[(.ref x0), (.ref x1)] 2 = mkF m 0 #[vr x0, vr x1] [] := by first | (simp [entryFrame, mkF, argsToLocals, Value.category]; done) | rfl
set_option maxRecDepth 65536 in
set_option maxHeartbeats 40000000 in
theorem own_u_new1_2 (l : Launch) (Z : State) (a0 : Array Value) (hW : own_W Z a0) (x1 b1 : Nat) (v0 c0_ : Value) (k1 : ClassId) (c0 c1 : Int32) (h0 : Heap) (n0 : Nat) (Z0 : n0 ≤ h0.size) (O0 : Old Z n0 h0) (E1 : Exa Z h0 x1 "java/lang/String") (Fv1 : Fld Z h0 x1 "java/lang/String" "value" "[B" v0) (Fc1 : Fld Z h0 x1 "java/lang/String" "coder" "B" c0_) (g1 : n0 ≤ x1) (V1 : Arv Z h0 b1 k1 .char (2 : Int32) [(.int c0), (.int c1)] (.int (0 : Int32))) (hb0 : ¬ c0 < 0 ∧ ¬ (65535 : Int32) < c0) (hb1 : ¬ c1 < 0 ∧ ¬ (65535 : Int32) < c1) :
    MetFree l (⟨"java/lang/String", "<init>", "([C)V"⟩ : MethodName) (head1 (Jvm.Cond.code (⟨"java/lang/String", "<init>", "([C)V"⟩ : MethodName) jdk_42_method_3_code 2 none :: []) ({ frames := 5, cells := 2, slots := 6, locals := 74 } : Room)) (fun a U => a = #[(.ref x1), (.ref b1)] ∧ Z.Warmed39 U.vm ∧ U.heap = h0) (fun _ _ _ _ _ => True) (fun _ U o U' => ∃ v L, o = .returned v ∧ own_u_new1_2_Q Z x1 b1 v0 c0_ k1 c0 c1 h0 n0 v U'.heap L ∧ FrameEnd U o U' L ({ frames := 5, cells := 2, slots := 6, locals := 74 } : Room).cells ({ frames := 5, cells := 2, slots := 6, locals := 74 } : Room).slots) := by
  refine MetFree.of_bodySF (plainFor_of_name pn_java_lang_String) hisR ?_
  intro p e s m args below meth c s₁ Bd hml0 hP hK
  obtain ⟨rfl, hZ, hh⟩ := hP
  obtain ⟨hw, ⟨G1, O2, P5⟩, ⟨G3, O4, rG3⟩, Oa, Oh, Ol⟩ := id hW
  have hx := Bd.exec
  have hby := Bd.bytes
  have hml : c.maxLocals = 2 := hml0
  have hown : s.vm.findClass "java/lang/String" = some m.cls := findClass_of_methodNamed Bd.named
  have hnm := (name_of_methodNamed Bd.named Bd.method).1
  have X0 : Stand p l e ({ frames := 5, cells := 2, slots := 6, locals := 74 } : Room) s m #[(.ref x1), (.ref b1)] below meth c s₁ [] 0 0 := Stand.of_body Bd
  have e0 : s₁.heap = h0 := by rw [← hh, Bd.state]; rfl
  have N0 := Fr.nil n0
  have K0 := Keep.refl h0 [x1]
  have lt1 := own_lt E1.lt
  have lt1 := own_lt V1.lt
  show own_Fin p e below (s₁.setTop (entryFrame m #[(.ref x1), (.ref b1)] 2)) _
  refine own_gs (castTop (ef_own_u_new1_2 m x1 b1) (Steps.refl _)) ?_
  show own_Fin p e below (s₁.setTop (mkF m 0 #[vr x1, vr b1] [])) _
  refine own_gs (cur' := s₁.setTop (mkF m 4 #[vr x1, vr b1] [(.ref b1), (.int (0 : Int32)), (.ref b1), (.ref x1)])) ?_ ?_
  · refine XS.aloadN X0.here hx rfl (hb hby d_jdk_42_m_3_0) rfl rfl ?_
    refine XS.aloadN X0.here hx rfl (hb hby d_jdk_42_m_3_1) rfl rfl ?_
    refine XS.iconst X0.here hx rfl (hb hby d_jdk_42_m_3_2) ?_
    show Steps p.tables e below (s₁.setTop (mkF m 3 #[vr x1, vr b1] [(.int (0 : Int32)), (.ref b1), (.ref x1)])) _
    refine XS.aloadN X0.here hx rfl (hb hby d_jdk_42_m_3_3) rfl rfl ?_
    exact Steps.refl _
  obtain ⟨cl11, Ar11, q11, S11, M11, Hs11, G11⟩ := id V1
  refine own_go (X0.arraylength hx (by rw [e0]; exact Ar11.1) (State.isArrayOf_alike hZ.alike Ar11.2.1) (g := (mkF m 4 #[vr x1, vr b1] [(.ref b1), (.int (0 : Int32)), (.ref b1), (.ref x1)])) rfl rfl (hb hby d_jdk_42_m_3_4)) ?_
  rw [len_of S11 M11]
  show own_Fin p e below (s₁.setTop (mkF m 5 #[vr x1, vr b1] [(.int (2 : Int32)), (.int (0 : Int32)), (.ref b1), (.ref x1)])) _
  refine own_gs (cur' := s₁.setTop (mkF m 6 #[vr x1, vr b1] [.null, (.int (2 : Int32)), (.int (0 : Int32)), (.ref b1), (.ref x1)])) ?_ ?_
  · refine XS.aconstNull X0.here hx rfl (hb hby d_jdk_42_m_3_5) ?_
    exact Steps.refl _
  obtain ⟨_, _, ⟨T12, L12, k12, n12⟩, -, X12, ⟨Lc12, hQ12, l12, y12, z12⟩, st12⟩ := X0.specialBack hx (y := (⟨"java/lang/String", "<init>", "([CIILjava/lang/Void;)V"⟩ : MethodName)) rfl hown (mvT hZ (hw _ (List.mem_of_getElem? (i := 8) rfl))) (mvT hZ (hw _ (List.mem_of_getElem? (i := 9) rfl))) (mvT hZ (hw _ (List.mem_of_getElem? (i := 11) rfl))) (by decide) (backOf (W := 0) (own_u_new4_2 l Z a0 hW x1 b1 v0 c0_ k1 c0 c1 h0 n0 (by omega) O0 E1 Fv1 Fc1 g1 V1 hb0 hb1) hZ (hw _ (List.mem_of_getElem? (i := 11) rfl)) (hw _ (List.mem_of_getElem? (i := 3) rfl)) (by decide) (by decide)) (g := (mkF m 6 #[vr x1, vr b1] [.null, (.int (2 : Int32)), (.int (0 : Int32)), (.ref b1), (.ref x1)])) rfl (by rw [hml]; rfl) (Steps.refl _) (a := x1) (argsL := [(.ref b1), (.int (0 : Int32)), (.int (2 : Int32)), .null]) (rest := []) (lenOf pd_0 rfl) rfl (by show 2 * 0 + _ ≤ _; exact Nat.le_of_eq rfl) (hb hby d_jdk_42_m_3_6) (fun _ _ => ⟨rfl, e0, (by decide : 0 + 2 ≤ 2), (by decide : 0 + 6 ≤ 6)⟩)
  dsimp only [Pt.U, Pt.locs, Pt.cells, Pt.slots] at X12 l12 y12 z12 st12 hQ12
  subst l12 y12 z12
  obtain ⟨rfl, Nq12, Kq12, tq, hne, F12⟩ := hQ12
  have N12 := Fr.app N0 Nq12
  have z13 := Kq12.1
  have K13 := K0.trans Kq12 (allS (Or.inl (List.mem_of_getElem? (i := 0) rfl)) all0)
  have O13 := O0.keep Kq12 (allS (by omega) all0)
  refine own_gs st12 ?_
  show own_Fin p e below (T12.setTop (mkF m 9 #[vr x1, vr b1] [])) _
  obtain ⟨fs, hr, hrun, hended, hW1, hsame⟩ := X12.leave (v := none) (fun _ => rfl)
  refine ⟨_, _, X12.returnOut hx Bd.returns (hb hby d_jdk_42_m_3_9) hr, hrun, hended, _, _, rfl, ?_, ⟨_, rfl⟩, hW1, hsame.mono (by decide) (by decide)⟩
  show own_u_new1_2_Q Z x1 b1 v0 c0_ k1 c0 c1 h0 n0 none T12.heap _
  exact ⟨rfl, N12, K13, tq, hne, F12⟩
def own_u_nbl3_Q (Z : State)  (h0 : Heap) (n0 : Nat) (v : Option Value) (h : Heap) (L : List Loc) : Prop := v = (some (.int (6 : Int32))) ∧ Fr n0 L ∧ h = h0
theorem ef_own_u_nbl3 (m : MethodId) (x0 : Int32) : entryFrame m #[(.int x0)] 1 = mkF m 0 #[vi x0] [] := by first | (simp [entryFrame, mkF, argsToLocals, Value.category]; done) | rfl
set_option maxRecDepth 65536 in
set_option maxHeartbeats 40000000 in
theorem own_u_nbl3 (l : Launch) (Z : State) (a0 : Array Value) (hW : own_W Z a0)  (h0 : Heap) (n0 : Nat) (Z0 : n0 ≤ h0.size) (O0 : Old Z n0 h0)  :
    MetFree l (⟨"java/lang/StringUTF16", "newBytesLength", "(I)I"⟩ : MethodName) (head1 (Jvm.Cond.code (⟨"java/lang/StringUTF16", "newBytesLength", "(I)I"⟩ : MethodName) jdk_52_method_3_code 1 (some .int) :: []) ({ frames := 0, cells := 0, slots := 0, locals := 0 } : Room)) (fun a U => a = #[(.int (3 : Int32))] ∧ Z.Warmed39 U.vm ∧ U.heap = h0) (fun _ _ _ _ _ => True) (fun _ U o U' => ∃ v L, o = .returned v ∧ own_u_nbl3_Q Z  h0 n0 v U'.heap L ∧ FrameEnd U o U' L ({ frames := 0, cells := 0, slots := 0, locals := 0 } : Room).cells ({ frames := 0, cells := 0, slots := 0, locals := 0 } : Room).slots) := by
  refine MetFree.of_bodySF (plainFor_of_name pn_java_lang_StringUTF16) hisR ?_
  intro p e s m args below meth c s₁ Bd hml0 hP hK
  obtain ⟨rfl, hZ, hh⟩ := hP
  obtain ⟨hw, ⟨G1, O2, P5⟩, ⟨G3, O4, rG3⟩, Oa, Oh, Ol⟩ := id hW
  have hx := Bd.exec
  have hby := Bd.bytes
  have hml : c.maxLocals = 1 := hml0
  have hown : s.vm.findClass "java/lang/StringUTF16" = some m.cls := findClass_of_methodNamed Bd.named
  have hnm := (name_of_methodNamed Bd.named Bd.method).1
  have X0 : Stand p l e ({ frames := 0, cells := 0, slots := 0, locals := 0 } : Room) s m #[(.int (3 : Int32))] below meth c s₁ [] 0 0 := Stand.of_body Bd
  have e0 : s₁.heap = h0 := by rw [← hh, Bd.state]; rfl
  have N0 := Fr.nil n0
  have K0 := Keep.refl h0 []
  show own_Fin p e below (s₁.setTop (entryFrame m #[(.int (3 : Int32))] 1)) _
  refine own_gs (castTop (ef_own_u_nbl3 m (3 : Int32)) (Steps.refl _)) ?_
  show own_Fin p e below (s₁.setTop (mkF m 0 #[vi (3 : Int32)] [])) _
  refine own_gs (cur' := s₁.setTop (mkF m 58 #[vi (3 : Int32)] [(.int (6 : Int32))])) ?_ ?_
  · refine XS.iloadN X0.here hx rfl (hb hby d_jdk_52_m_3_0) rfl ?_
    refine XS.ifYes X0.here hx rfl (pc0 := 1) (pc' := 12) rfl (hb hby d_jdk_52_m_3_1) rfl ((if0 _ _).trans (flt ((by decide) : ¬ ((3 : Int32) < (0 : Int32)))).2.1) (by decide) (by decide) ?_
    refine XS.iloadN X0.here hx rfl (hb hby d_jdk_52_m_3_12) rfl ?_
    show Steps p.tables e below (s₁.setTop (mkF m 13 #[vi (3 : Int32)] [(.int (3 : Int32))])) _
    refine X0.ldcInt hx hown (mvT hZ (hw _ (List.mem_of_getElem? (i := 83) rfl))) (g := (mkF m 13 #[vi (3 : Int32)] [(.int (3 : Int32))])) rfl (hb hby d_jdk_52_m_3_13) _ ?_
    refine XS.icmpYes X0.here hx rfl (pc0 := 15) (pc' := 55) rfl (hb hby d_jdk_52_m_3_15) rfl (tlt ((by decide) : (3 : Int32) < (1073741823 : Int32))).1 (by decide) (by decide) ?_
    refine XS.iloadN X0.here hx rfl (hb hby d_jdk_52_m_3_55) rfl ?_
    show Steps p.tables e below (s₁.setTop (mkF m 56 #[vi (3 : Int32)] [(.int (3 : Int32))])) _
    refine XS.iconst X0.here hx rfl (hb hby d_jdk_52_m_3_56) ?_
    refine XS.ishl X0.here hx rfl (hb hby d_jdk_52_m_3_57) rfl ?_
    exact Steps.refl _
  obtain ⟨fs, hr, hrun, hended, hW1, hsame⟩ := X0.leave (v := (some (.int (6 : Int32)))) (fun h => by rw [Bd.returns] at h; cases h)
  refine ⟨_, _, retI X0 hx Bd.returns (hb hby d_jdk_52_m_3_58) hr, hrun, hended, _, _, rfl, ?_, ⟨_, rfl⟩, hW1, hsame.mono (by decide) (by decide)⟩
  show own_u_nbl3_Q Z  h0 n0 (some (.int (6 : Int32))) s₁.heap _
  rw [e0]
  exact ⟨rfl, N0, rfl⟩
def own_u_nbf3_Q (Z : State)  (h0 : Heap) (n0 : Nat) (v : Option Value) (h : Heap) (L : List Loc) : Prop := ∃ (t : Nat) (kb : ClassId), v = some (.ref t) ∧ Fr n0 L ∧ Keep h0 h [] ∧ Arv Z h t kb .byte (6 : Int32) [(.int (0 : Int32)), (.int (0 : Int32)), (.int (0 : Int32)), (.int (0 : Int32)), (.int (0 : Int32)), (.int (0 : Int32))] (.int (0 : Int32)) ∧ h0.size ≤ t
theorem ef_own_u_nbf3 (m : MethodId) (x0 : Int32) : entryFrame m #[(.int x0)] 1 = mkF m 0 #[vi x0] [] := by first | (simp [entryFrame, mkF, argsToLocals, Value.category]; done) | rfl
set_option maxRecDepth 65536 in
set_option maxHeartbeats 40000000 in
theorem own_u_nbf3 (l : Launch) (Z : State) (a0 : Array Value) (hW : own_W Z a0)  (h0 : Heap) (n0 : Nat) (Z0 : n0 ≤ h0.size) (O0 : Old Z n0 h0)  :
    MetFree l (⟨"java/lang/StringUTF16", "newBytesFor", "(I)[B"⟩ : MethodName) (head1 (Jvm.Cond.code (⟨"java/lang/StringUTF16", "newBytesFor", "(I)[B"⟩ : MethodName) jdk_52_method_2_code 1 (some (.array .byte)) :: []) ({ frames := 1, cells := 1, slots := 6, locals := 12 } : Room)) (fun a U => a = #[(.int (3 : Int32))] ∧ Z.Warmed39 U.vm ∧ U.heap = h0) (fun _ _ _ _ _ => True) (fun _ U o U' => ∃ v L, o = .returned v ∧ own_u_nbf3_Q Z  h0 n0 v U'.heap L ∧ FrameEnd U o U' L ({ frames := 1, cells := 1, slots := 6, locals := 12 } : Room).cells ({ frames := 1, cells := 1, slots := 6, locals := 12 } : Room).slots) := by
  refine MetFree.of_bodySF (plainFor_of_name pn_java_lang_StringUTF16) hisR ?_
  intro p e s m args below meth c s₁ Bd hml0 hP hK
  obtain ⟨rfl, hZ, hh⟩ := hP
  obtain ⟨hw, ⟨G1, O2, P5⟩, ⟨G3, O4, rG3⟩, Oa, Oh, Ol⟩ := id hW
  have hx := Bd.exec
  have hby := Bd.bytes
  have hml : c.maxLocals = 1 := hml0
  have hown : s.vm.findClass "java/lang/StringUTF16" = some m.cls := findClass_of_methodNamed Bd.named
  have hnm := (name_of_methodNamed Bd.named Bd.method).1
  have X0 : Stand p l e ({ frames := 1, cells := 1, slots := 6, locals := 12 } : Room) s m #[(.int (3 : Int32))] below meth c s₁ [] 0 0 := Stand.of_body Bd
  have e0 : s₁.heap = h0 := by rw [← hh, Bd.state]; rfl
  have N0 := Fr.nil n0
  have K0 := Keep.refl h0 []
  show own_Fin p e below (s₁.setTop (entryFrame m #[(.int (3 : Int32))] 1)) _
  refine own_gs (castTop (ef_own_u_nbf3 m (3 : Int32)) (Steps.refl _)) ?_
  show own_Fin p e below (s₁.setTop (mkF m 0 #[vi (3 : Int32)] [])) _
  refine own_gs (cur' := s₁.setTop (mkF m 1 #[vi (3 : Int32)] [(.int (3 : Int32))])) ?_ ?_
  · refine XS.iloadN X0.here hx rfl (hb hby d_jdk_52_m_2_0) rfl ?_
    exact Steps.refl _
  obtain ⟨_, _, ⟨T11, L11, k11, n11⟩, -, X11, ⟨Lc11, hQ11, l11, y11, z11⟩, st11⟩ := Jvm.LawKit.callS X0 hx (y := (⟨"java/lang/StringUTF16", "newBytesLength", "(I)I"⟩ : MethodName)) hown (mvT hZ (hw _ (List.mem_of_getElem? (i := 80) rfl))) (mvT hZ (hw _ (List.mem_of_getElem? (i := 81) rfl))) (mvT hZ (hw _ (List.mem_of_getElem? (i := 26) rfl))) (mvT hZ (hw _ (List.mem_of_getElem? (i := 82) rfl))) (by decide) (backOf (W := 0) (own_u_nbl3 l Z a0 hW h0 n0 (by omega) O0) hZ (hw _ (List.mem_of_getElem? (i := 82) rfl)) (hw _ (List.mem_of_getElem? (i := 26) rfl)) (by decide) (by decide)) (g := (mkF m 1 #[vi (3 : Int32)] [(.int (3 : Int32))])) rfl (by rw [hml]; rfl) (argsL := [(.int (3 : Int32))]) (rest := []) (lenOf pd_7 rfl) rfl (by show 2 * 0 + _ ≤ _; exact Nat.le_of_eq rfl) (hb hby d_jdk_52_m_2_1) (fun _ _ => ⟨rfl, e0, (by decide : 0 + 0 ≤ 1), (by decide : 0 + 0 ≤ 6)⟩)
  dsimp only [Pt.U, Pt.locs, Pt.cells, Pt.slots] at X11 l11 y11 z11 st11 hQ11
  subst l11 y11 z11
  obtain ⟨rfl, Nq11, eh11⟩ := hQ11
  have N11 := Fr.app N0 Nq11
  refine own_go st11 ?_
  show own_Fin p e below (T11.setTop (mkF m 4 #[vi (3 : Int32)] [(.int (6 : Int32))])) _
  obtain ⟨T12, h12, k12, X12, e12, E12, A12, st12⟩ := newP X11 hx hZ (hw _ (List.mem_of_getElem? (i := 16) rfl)) eh11 (g := (mkF m 4 #[vi (3 : Int32)] [(.int (6 : Int32))])) rfl (hb hby d_jdk_52_m_2_4) rfl (by decide) (cap := 6) (by decide) (by decide) (by decide) (by decide)
  obtain ⟨b12, g12⟩ : ∃ z, z = h0.size := ⟨_, rfl⟩
  rw [← g12] at A12 st12
  have lt12 := own_lt A12.lt
  refine own_go st12 ?_
  show own_Fin p e below (T12.setTop (mkF m 6 #[vi (3 : Int32)] [(.ref b12)])) _
  have z13 := E12.1
  have K13 := K0.ext E12
  have O13 := O0.ext E12
  have V12 : Arv Z h12 b12 k12 .byte (6 : Int32) [(.int (0 : Int32)), (.int (0 : Int32)), (.int (0 : Int32)), (.int (0 : Int32)), (.int (0 : Int32)), (.int (0 : Int32))] (.int (0 : Int32)) := (Arv.new A12 (by decide)).pad (pad_rep [] (.int (0 : Int32)) 6)
  obtain ⟨fs, hr, hrun, hended, hW1, hsame⟩ := X12.leave (v := (some (.ref b12))) (fun h => by rw [Bd.returns] at h; cases h)
  refine ⟨_, _, X12.areturnOut hx rfl Bd.returns rfl (hb hby d_jdk_52_m_2_6) hr, hrun, hended, _, _, rfl, ?_, ⟨_, rfl⟩, hW1, hsame.mono (by decide) (by decide)⟩
  show own_u_nbf3_Q Z  h0 n0 (some (.ref b12)) T12.heap _
  rw [e12]
  exact ⟨_, _, rfl, N11, K13, V12, (by omega)⟩
def own_u_tob3_Q (Z : State) (b1 : Nat) (k1 : ClassId) (c0 c1 c2 : Int32) (h0 : Heap) (n0 : Nat) (v : Option Value) (h : Heap) (L : List Loc) : Prop := ∃ (t : Nat) (kb : ClassId), v = some (.ref t) ∧ Fr n0 L ∧ Keep h0 h [] ∧ Arv Z h t kb .byte (6 : Int32) (StrChars.Road.wideBytes [c0, c1, c2]) (.int (0 : Int32)) ∧ h0.size ≤ t
theorem ef_own_u_tob3 (m : MethodId) (x0 : Nat) (x1 : Int32) (x2 : Int32) : entryFrame m #[(.ref x0), (.int x1), (.int x2)] 5 = mkF m 0 #[vr x0, vi x1, vi x2, .unset, .unset] [] := by first | (simp [entryFrame, mkF, argsToLocals, Value.category]; done) | rfl
set_option maxRecDepth 65536 in
set_option maxHeartbeats 40000000 in
theorem own_u_tob3 (l : Launch) (Z : State) (a0 : Array Value) (hW : own_W Z a0) (b1 : Nat) (k1 : ClassId) (c0 c1 c2 : Int32) (h0 : Heap) (n0 : Nat) (Z0 : n0 ≤ h0.size) (O0 : Old Z n0 h0) (V1 : Arv Z h0 b1 k1 .char (3 : Int32) [(.int c0), (.int c1), (.int c2)] (.int (0 : Int32))) :
    MetFree l (⟨"java/lang/StringUTF16", "toBytes", "([CII)[B"⟩ : MethodName) (head1 (Jvm.Cond.code (⟨"java/lang/StringUTF16", "toBytes", "([CII)[B"⟩ : MethodName) jdk_52_method_14_code 5 (some (.array .byte)) :: []) ({ frames := 2, cells := 1, slots := 6, locals := 24 } : Room)) (fun a U => a = #[(.ref b1), (.int (0 : Int32)), (.int (3 : Int32))] ∧ Z.Warmed39 U.vm ∧ U.heap = h0) (fun _ _ _ _ _ => True) (fun _ U o U' => ∃ v L, o = .returned v ∧ own_u_tob3_Q Z b1 k1 c0 c1 c2 h0 n0 v U'.heap L ∧ FrameEnd U o U' L ({ frames := 2, cells := 1, slots := 6, locals := 24 } : Room).cells ({ frames := 2, cells := 1, slots := 6, locals := 24 } : Room).slots) := by
  refine MetFree.of_bodySF (plainFor_of_name pn_java_lang_StringUTF16) hisR ?_
  intro p e s m args below meth c s₁ Bd hml0 hP hK
  obtain ⟨rfl, hZ, hh⟩ := hP
  obtain ⟨hw, ⟨G1, O2, P5⟩, ⟨G3, O4, rG3⟩, Oa, Oh, Ol⟩ := id hW
  have hx := Bd.exec
  have hby := Bd.bytes
  have hml : c.maxLocals = 5 := hml0
  have hown : s.vm.findClass "java/lang/StringUTF16" = some m.cls := findClass_of_methodNamed Bd.named
  have hnm := (name_of_methodNamed Bd.named Bd.method).1
  have X0 : Stand p l e ({ frames := 2, cells := 1, slots := 6, locals := 24 } : Room) s m #[(.ref b1), (.int (0 : Int32)), (.int (3 : Int32))] below meth c s₁ [] 0 0 := Stand.of_body Bd
  have e0 : s₁.heap = h0 := by rw [← hh, Bd.state]; rfl
  have N0 := Fr.nil n0
  have K0 := Keep.refl h0 []
  have lt1 := own_lt V1.lt
  show own_Fin p e below (s₁.setTop (entryFrame m #[(.ref b1), (.int (0 : Int32)), (.int (3 : Int32))] 5)) _
  refine own_gs (castTop (ef_own_u_tob3 m b1 (0 : Int32) (3 : Int32)) (Steps.refl _)) ?_
  show own_Fin p e below (s₁.setTop (mkF m 0 #[vr b1, vi (0 : Int32), vi (3 : Int32), uu, uu] [])) _
  refine own_gs (cur' := s₁.setTop (mkF m 1 #[vr b1, vi (0 : Int32), vi (3 : Int32), uu, uu] [(.int (3 : Int32))])) ?_ ?_
  · refine XS.iloadN X0.here hx rfl (hb hby d_jdk_52_m_14_0) rfl ?_
    exact Steps.refl _
  obtain ⟨_, _, ⟨T11, L11, k11, n11⟩, -, X11, ⟨Lc11, hQ11, l11, y11, z11⟩, st11⟩ := Jvm.LawKit.callS X0 hx (y := (⟨"java/lang/StringUTF16", "newBytesFor", "(I)[B"⟩ : MethodName)) hown (mvT hZ (hw _ (List.mem_of_getElem? (i := 77) rfl))) (mvT hZ (hw _ (List.mem_of_getElem? (i := 78) rfl))) (mvT hZ (hw _ (List.mem_of_getElem? (i := 26) rfl))) (mvT hZ (hw _ (List.mem_of_getElem? (i := 79) rfl))) (by decide) (backOf (W := 0) (own_u_nbf3 l Z a0 hW h0 n0 (by omega) O0) hZ (hw _ (List.mem_of_getElem? (i := 79) rfl)) (hw _ (List.mem_of_getElem? (i := 26) rfl)) (by decide) (by decide)) (g := (mkF m 1 #[vr b1, vi (0 : Int32), vi (3 : Int32), uu, uu] [(.int (3 : Int32))])) rfl (by rw [hml]; rfl) (argsL := [(.int (3 : Int32))]) (rest := []) (lenOf pd_8 rfl) rfl (by show 2 * 0 + _ ≤ _; exact Nat.le_of_eq rfl) (hb hby d_jdk_52_m_14_1) (fun _ _ => ⟨rfl, e0, (by decide : 0 + 1 ≤ 1), (by decide : 0 + 6 ≤ 6)⟩)
  dsimp only [Pt.U, Pt.locs, Pt.cells, Pt.slots] at X11 l11 y11 z11 st11 hQ11
  subst l11 y11 z11
  obtain ⟨t11, kb11, rfl, Nq11, Kq11, Vt11, ge11⟩ := hQ11
  have N11 := Fr.app N0 Nq11
  have z12 := Kq11.1
  have K12 := K0.trans Kq11 all0
  have O12 := O0.keep Kq11 all0
  have lt11 := own_lt Vt11.lt
  refine own_go st11 ?_
  show own_Fin p e below (T11.setTop (mkF m 4 #[vr b1, vi (0 : Int32), vi (3 : Int32), uu, uu] [(.ref t11)])) _
  refine own_gs (cur' := T11.setTop (mkF m 19 #[vr b1, vi (0 : Int32), vi (3 : Int32), vr t11, vi (0 : Int32)] [(.int (0 : Int32)), (.ref b1), (.int (0 : Int32)), (.ref t11)])) ?_ ?_
  · refine XS.astoreN X11.here hx rfl (hb hby d_jdk_52_m_14_4) rfl rfl (l' := #[vr b1, vi (0 : Int32), vi (3 : Int32), vr t11, uu]) rfl ?_
    refine XS.iconst X11.here hx rfl (hb hby d_jdk_52_m_14_5) ?_
    refine XS.istore X11.here hx rfl (hb hby d_jdk_52_m_14_6) rfl (l' := #[vr b1, vi (0 : Int32), vi (3 : Int32), vr t11, vi (0 : Int32)]) rfl ?_
    show Steps p.tables e below (T11.setTop (mkF m 8 #[vr b1, vi (0 : Int32), vi (3 : Int32), vr t11, vi (0 : Int32)] [])) _
    refine XS.iload X11.here hx rfl (hb hby d_jdk_52_m_14_8) rfl ?_
    refine XS.iloadN X11.here hx rfl (hb hby d_jdk_52_m_14_10) rfl ?_
    refine XS.icmpNo X11.here hx rfl (hb hby d_jdk_52_m_14_11) rfl (tlt ((by decide) : (0 : Int32) < (3 : Int32))).2.1 ?_
    show Steps p.tables e below (T11.setTop (mkF m 14 #[vr b1, vi (0 : Int32), vi (3 : Int32), vr t11, vi (0 : Int32)] [])) _
    refine XS.aloadN X11.here hx rfl (hb hby d_jdk_52_m_14_14) rfl rfl ?_
    refine XS.iload X11.here hx rfl (hb hby d_jdk_52_m_14_15) rfl ?_
    refine XS.aloadN X11.here hx rfl (hb hby d_jdk_52_m_14_17) rfl rfl ?_
    show Steps p.tables e below (T11.setTop (mkF m 18 #[vr b1, vi (0 : Int32), vi (3 : Int32), vr t11, vi (0 : Int32)] [(.ref b1), (.int (0 : Int32)), (.ref t11)])) _
    refine XS.iloadN X11.here hx rfl (hb hby d_jdk_52_m_14_18) rfl ?_
    exact Steps.refl _
  have f14 := (V1.keep Kq11 nin0)
  obtain ⟨cl13, Ar13, q13, S13, M13, Hs13, G13⟩ := id f14
  have hin13 : ¬ ((0 : Int32) < 0 ∨ cl13.slots.size ≤ ((0 : Int32)).toNatClampNeg) := inb_of S13 ⟨by decide, by decide⟩
  have hat13 : cl13.slots[((0 : Int32)).toNatClampNeg]? = some (.int c0) := Has.at Hs13 hin13 rfl
  refine own_go (X11.caload hx (j := (0 : Int32)) (v := (.int c0)) (by exact Ar13.1) (State.isArrayOf_alike hZ.alike Ar13.2.1) Ar13.2.2 hin13 hat13 (g := (mkF m 19 #[vr b1, vi (0 : Int32), vi (3 : Int32), vr t11, vi (0 : Int32)] [(.int (0 : Int32)), (.ref b1), (.int (0 : Int32)), (.ref t11)])) rfl rfl (hb hby d_jdk_52_m_14_19)) ?_
  show own_Fin p e below (T11.setTop (mkF m 20 #[vr b1, vi (0 : Int32), vi (3 : Int32), vr t11, vi (0 : Int32)] [(.int c0), (.int (0 : Int32)), (.ref t11)])) _
  obtain ⟨_, _, ⟨T15, L15, k15, n15⟩, -, X15, ⟨Lc15, hQ15, l15, y15, z15⟩, st15⟩ := Jvm.LawKit.callS X11 hx (y := (⟨"java/lang/StringUTF16", "putChar", "([BII)V"⟩ : MethodName)) hown (mvT hZ (hw _ (List.mem_of_getElem? (i := 84) rfl))) (mvT hZ (hw _ (List.mem_of_getElem? (i := 85) rfl))) (mvT hZ (hw _ (List.mem_of_getElem? (i := 26) rfl))) (mvT hZ (hw _ (List.mem_of_getElem? (i := 86) rfl))) (by decide) (backOf (W := 0) (own_u_putc l Z a0 hW t11 kb11 3 0 [(.int (0 : Int32)), (.int (0 : Int32)), (.int (0 : Int32)), (.int (0 : Int32)), (.int (0 : Int32)), (.int (0 : Int32))] c0 T11.heap n0 (by omega) O12 (by decide) (by decide) rfl (by omega) Vt11) hZ (hw _ (List.mem_of_getElem? (i := 86) rfl)) (hw _ (List.mem_of_getElem? (i := 26) rfl)) (by decide) (by decide)) (g := (mkF m 20 #[vr b1, vi (0 : Int32), vi (3 : Int32), vr t11, vi (0 : Int32)] [(.int c0), (.int (0 : Int32)), (.ref t11)])) rfl (by rw [hml]; rfl) (argsL := [(.ref t11), (.int (0 : Int32)), (.int c0)]) (rest := []) (lenOf pd_9 rfl) rfl (by show 2 * 0 + _ ≤ _; exact Nat.le_of_eq rfl) (hb hby d_jdk_52_m_14_20) (fun _ _ => ⟨rfl, rfl, (by decide : 1 + 0 ≤ 1), (by decide : 6 + 0 ≤ 6)⟩)
  dsimp only [Pt.U, Pt.locs, Pt.cells, Pt.slots] at X15 l15 y15 z15 st15 hQ15
  subst l15 y15 z15
  obtain ⟨rfl, Nq15, Kq15, Vt15⟩ := hQ15
  have N15 := Fr.app N11 Nq15
  have z16 := Kq15.1
  have K16 := K12.trans Kq15 (allS (Or.inr (by omega)) all0)
  have O16 := O12.keep Kq15 (allS (by omega) all0)
  have Vu15 : Arv Z T15.heap t11 kb11 .byte (6 : Int32) [(.int (StrChars.lo8 c0)), (.int (StrChars.hi8 c0)), (.int (0 : Int32)), (.int (0 : Int32)), (.int (0 : Int32)), (.int (0 : Int32))] (.int (0 : Int32)) := Vt15
  refine own_go st15 ?_
  show own_Fin p e below (T15.setTop (mkF m 23 #[vr b1, vi (0 : Int32), vi (3 : Int32), vr t11, vi (0 : Int32)] [])) _
  refine own_gs (cur' := T15.setTop (mkF m 19 #[vr b1, vi (1 : Int32), vi (3 : Int32), vr t11, vi (1 : Int32)] [(.int (1 : Int32)), (.ref b1), (.int (1 : Int32)), (.ref t11)])) ?_ ?_
  · refine XS.iinc X15.here hx rfl (hb hby d_jdk_52_m_14_23) rfl (l' := #[vr b1, vi (1 : Int32), vi (3 : Int32), vr t11, vi (0 : Int32)]) rfl ?_
    refine XS.iinc X15.here hx rfl (hb hby d_jdk_52_m_14_26) rfl (l' := #[vr b1, vi (1 : Int32), vi (3 : Int32), vr t11, vi (1 : Int32)]) rfl ?_
    refine XS.goto X15.here hx rfl (pc0 := 29) (pc' := 8) rfl (hb hby d_jdk_52_m_14_29) (by decide) (by decide) ?_
    show Steps p.tables e below (T15.setTop (mkF m 8 #[vr b1, vi (1 : Int32), vi (3 : Int32), vr t11, vi (1 : Int32)] [])) _
    refine XS.iload X15.here hx rfl (hb hby d_jdk_52_m_14_8) rfl ?_
    refine XS.iloadN X15.here hx rfl (hb hby d_jdk_52_m_14_10) rfl ?_
    refine XS.icmpNo X15.here hx rfl (hb hby d_jdk_52_m_14_11) rfl (tlt ((by decide) : (1 : Int32) < (3 : Int32))).2.1 ?_
    show Steps p.tables e below (T15.setTop (mkF m 14 #[vr b1, vi (1 : Int32), vi (3 : Int32), vr t11, vi (1 : Int32)] [])) _
    refine XS.aloadN X15.here hx rfl (hb hby d_jdk_52_m_14_14) rfl rfl ?_
    refine XS.iload X15.here hx rfl (hb hby d_jdk_52_m_14_15) rfl ?_
    refine XS.aloadN X15.here hx rfl (hb hby d_jdk_52_m_14_17) rfl rfl ?_
    show Steps p.tables e below (T15.setTop (mkF m 18 #[vr b1, vi (1 : Int32), vi (3 : Int32), vr t11, vi (1 : Int32)] [(.ref b1), (.int (1 : Int32)), (.ref t11)])) _
    refine XS.iloadN X15.here hx rfl (hb hby d_jdk_52_m_14_18) rfl ?_
    exact Steps.refl _
  have f18 := (f14.keep Kq15 (ninS (own_ne (a := b1) (b := t11) (by omega)) nin0))
  obtain ⟨cl17, Ar17, q17, S17, M17, Hs17, G17⟩ := id f18
  have hin17 : ¬ ((1 : Int32) < 0 ∨ cl17.slots.size ≤ ((1 : Int32)).toNatClampNeg) := inb_of S17 ⟨by decide, by decide⟩
  have hat17 : cl17.slots[((1 : Int32)).toNatClampNeg]? = some (.int c1) := Has.at Hs17 hin17 rfl
  refine own_go (X15.caload hx (j := (1 : Int32)) (v := (.int c1)) (by exact Ar17.1) (State.isArrayOf_alike hZ.alike Ar17.2.1) Ar17.2.2 hin17 hat17 (g := (mkF m 19 #[vr b1, vi (1 : Int32), vi (3 : Int32), vr t11, vi (1 : Int32)] [(.int (1 : Int32)), (.ref b1), (.int (1 : Int32)), (.ref t11)])) rfl rfl (hb hby d_jdk_52_m_14_19)) ?_
  show own_Fin p e below (T15.setTop (mkF m 20 #[vr b1, vi (1 : Int32), vi (3 : Int32), vr t11, vi (1 : Int32)] [(.int c1), (.int (1 : Int32)), (.ref t11)])) _
  obtain ⟨_, _, ⟨T19, L19, k19, n19⟩, -, X19, ⟨Lc19, hQ19, l19, y19, z19⟩, st19⟩ := Jvm.LawKit.callS X15 hx (y := (⟨"java/lang/StringUTF16", "putChar", "([BII)V"⟩ : MethodName)) hown (mvT hZ (hw _ (List.mem_of_getElem? (i := 84) rfl))) (mvT hZ (hw _ (List.mem_of_getElem? (i := 85) rfl))) (mvT hZ (hw _ (List.mem_of_getElem? (i := 26) rfl))) (mvT hZ (hw _ (List.mem_of_getElem? (i := 86) rfl))) (by decide) (backOf (W := 0) (own_u_putc l Z a0 hW t11 kb11 3 1 [(.int (StrChars.lo8 c0)), (.int (StrChars.hi8 c0)), (.int (0 : Int32)), (.int (0 : Int32)), (.int (0 : Int32)), (.int (0 : Int32))] c1 T15.heap n0 (by omega) O16 (by decide) (by decide) rfl (by omega) Vu15) hZ (hw _ (List.mem_of_getElem? (i := 86) rfl)) (hw _ (List.mem_of_getElem? (i := 26) rfl)) (by decide) (by decide)) (g := (mkF m 20 #[vr b1, vi (1 : Int32), vi (3 : Int32), vr t11, vi (1 : Int32)] [(.int c1), (.int (1 : Int32)), (.ref t11)])) rfl (by rw [hml]; rfl) (argsL := [(.ref t11), (.int (1 : Int32)), (.int c1)]) (rest := []) (lenOf pd_9 rfl) rfl (by show 2 * 0 + _ ≤ _; exact Nat.le_of_eq rfl) (hb hby d_jdk_52_m_14_20) (fun _ _ => ⟨rfl, rfl, (by decide : 1 + 0 ≤ 1), (by decide : 6 + 0 ≤ 6)⟩)
  dsimp only [Pt.U, Pt.locs, Pt.cells, Pt.slots] at X19 l19 y19 z19 st19 hQ19
  subst l19 y19 z19
  obtain ⟨rfl, Nq19, Kq19, Vt19⟩ := hQ19
  have N19 := Fr.app N15 Nq19
  have z20 := Kq19.1
  have K20 := K16.trans Kq19 (allS (Or.inr (by omega)) all0)
  have O20 := O16.keep Kq19 (allS (by omega) all0)
  have Vu19 : Arv Z T19.heap t11 kb11 .byte (6 : Int32) [(.int (StrChars.lo8 c0)), (.int (StrChars.hi8 c0)), (.int (StrChars.lo8 c1)), (.int (StrChars.hi8 c1)), (.int (0 : Int32)), (.int (0 : Int32))] (.int (0 : Int32)) := Vt19
  refine own_go st19 ?_
  show own_Fin p e below (T19.setTop (mkF m 23 #[vr b1, vi (1 : Int32), vi (3 : Int32), vr t11, vi (1 : Int32)] [])) _
  refine own_gs (cur' := T19.setTop (mkF m 19 #[vr b1, vi (2 : Int32), vi (3 : Int32), vr t11, vi (2 : Int32)] [(.int (2 : Int32)), (.ref b1), (.int (2 : Int32)), (.ref t11)])) ?_ ?_
  · refine XS.iinc X19.here hx rfl (hb hby d_jdk_52_m_14_23) rfl (l' := #[vr b1, vi (2 : Int32), vi (3 : Int32), vr t11, vi (1 : Int32)]) rfl ?_
    refine XS.iinc X19.here hx rfl (hb hby d_jdk_52_m_14_26) rfl (l' := #[vr b1, vi (2 : Int32), vi (3 : Int32), vr t11, vi (2 : Int32)]) rfl ?_
    refine XS.goto X19.here hx rfl (pc0 := 29) (pc' := 8) rfl (hb hby d_jdk_52_m_14_29) (by decide) (by decide) ?_
    show Steps p.tables e below (T19.setTop (mkF m 8 #[vr b1, vi (2 : Int32), vi (3 : Int32), vr t11, vi (2 : Int32)] [])) _
    refine XS.iload X19.here hx rfl (hb hby d_jdk_52_m_14_8) rfl ?_
    refine XS.iloadN X19.here hx rfl (hb hby d_jdk_52_m_14_10) rfl ?_
    refine XS.icmpNo X19.here hx rfl (hb hby d_jdk_52_m_14_11) rfl (tlt ((by decide) : (2 : Int32) < (3 : Int32))).2.1 ?_
    show Steps p.tables e below (T19.setTop (mkF m 14 #[vr b1, vi (2 : Int32), vi (3 : Int32), vr t11, vi (2 : Int32)] [])) _
    refine XS.aloadN X19.here hx rfl (hb hby d_jdk_52_m_14_14) rfl rfl ?_
    refine XS.iload X19.here hx rfl (hb hby d_jdk_52_m_14_15) rfl ?_
    refine XS.aloadN X19.here hx rfl (hb hby d_jdk_52_m_14_17) rfl rfl ?_
    show Steps p.tables e below (T19.setTop (mkF m 18 #[vr b1, vi (2 : Int32), vi (3 : Int32), vr t11, vi (2 : Int32)] [(.ref b1), (.int (2 : Int32)), (.ref t11)])) _
    refine XS.iloadN X19.here hx rfl (hb hby d_jdk_52_m_14_18) rfl ?_
    exact Steps.refl _
  have f22 := (f18.keep Kq19 (ninS (own_ne (a := b1) (b := t11) (by omega)) nin0))
  obtain ⟨cl21, Ar21, q21, S21, M21, Hs21, G21⟩ := id f22
  have hin21 : ¬ ((2 : Int32) < 0 ∨ cl21.slots.size ≤ ((2 : Int32)).toNatClampNeg) := inb_of S21 ⟨by decide, by decide⟩
  have hat21 : cl21.slots[((2 : Int32)).toNatClampNeg]? = some (.int c2) := Has.at Hs21 hin21 rfl
  refine own_go (X19.caload hx (j := (2 : Int32)) (v := (.int c2)) (by exact Ar21.1) (State.isArrayOf_alike hZ.alike Ar21.2.1) Ar21.2.2 hin21 hat21 (g := (mkF m 19 #[vr b1, vi (2 : Int32), vi (3 : Int32), vr t11, vi (2 : Int32)] [(.int (2 : Int32)), (.ref b1), (.int (2 : Int32)), (.ref t11)])) rfl rfl (hb hby d_jdk_52_m_14_19)) ?_
  show own_Fin p e below (T19.setTop (mkF m 20 #[vr b1, vi (2 : Int32), vi (3 : Int32), vr t11, vi (2 : Int32)] [(.int c2), (.int (2 : Int32)), (.ref t11)])) _
  obtain ⟨_, _, ⟨T23, L23, k23, n23⟩, -, X23, ⟨Lc23, hQ23, l23, y23, z23⟩, st23⟩ := Jvm.LawKit.callS X19 hx (y := (⟨"java/lang/StringUTF16", "putChar", "([BII)V"⟩ : MethodName)) hown (mvT hZ (hw _ (List.mem_of_getElem? (i := 84) rfl))) (mvT hZ (hw _ (List.mem_of_getElem? (i := 85) rfl))) (mvT hZ (hw _ (List.mem_of_getElem? (i := 26) rfl))) (mvT hZ (hw _ (List.mem_of_getElem? (i := 86) rfl))) (by decide) (backOf (W := 0) (own_u_putc l Z a0 hW t11 kb11 3 2 [(.int (StrChars.lo8 c0)), (.int (StrChars.hi8 c0)), (.int (StrChars.lo8 c1)), (.int (StrChars.hi8 c1)), (.int (0 : Int32)), (.int (0 : Int32))] c2 T19.heap n0 (by omega) O20 (by decide) (by decide) rfl (by omega) Vu19) hZ (hw _ (List.mem_of_getElem? (i := 86) rfl)) (hw _ (List.mem_of_getElem? (i := 26) rfl)) (by decide) (by decide)) (g := (mkF m 20 #[vr b1, vi (2 : Int32), vi (3 : Int32), vr t11, vi (2 : Int32)] [(.int c2), (.int (2 : Int32)), (.ref t11)])) rfl (by rw [hml]; rfl) (argsL := [(.ref t11), (.int (2 : Int32)), (.int c2)]) (rest := []) (lenOf pd_9 rfl) rfl (by show 2 * 0 + _ ≤ _; exact Nat.le_of_eq rfl) (hb hby d_jdk_52_m_14_20) (fun _ _ => ⟨rfl, rfl, (by decide : 1 + 0 ≤ 1), (by decide : 6 + 0 ≤ 6)⟩)
  dsimp only [Pt.U, Pt.locs, Pt.cells, Pt.slots] at X23 l23 y23 z23 st23 hQ23
  subst l23 y23 z23
  obtain ⟨rfl, Nq23, Kq23, Vt23⟩ := hQ23
  have N23 := Fr.app N19 Nq23
  have z24 := Kq23.1
  have K24 := K20.trans Kq23 (allS (Or.inr (by omega)) all0)
  have O24 := O20.keep Kq23 (allS (by omega) all0)
  have Vu23 : Arv Z T23.heap t11 kb11 .byte (6 : Int32) [(.int (StrChars.lo8 c0)), (.int (StrChars.hi8 c0)), (.int (StrChars.lo8 c1)), (.int (StrChars.hi8 c1)), (.int (StrChars.lo8 c2)), (.int (StrChars.hi8 c2))] (.int (0 : Int32)) := Vt23
  refine own_go st23 ?_
  show own_Fin p e below (T23.setTop (mkF m 23 #[vr b1, vi (2 : Int32), vi (3 : Int32), vr t11, vi (2 : Int32)] [])) _
  refine own_gs (cur' := T23.setTop (mkF m 33 #[vr b1, vi (3 : Int32), vi (3 : Int32), vr t11, vi (3 : Int32)] [(.ref t11)])) ?_ ?_
  · refine XS.iinc X23.here hx rfl (hb hby d_jdk_52_m_14_23) rfl (l' := #[vr b1, vi (3 : Int32), vi (3 : Int32), vr t11, vi (2 : Int32)]) rfl ?_
    refine XS.iinc X23.here hx rfl (hb hby d_jdk_52_m_14_26) rfl (l' := #[vr b1, vi (3 : Int32), vi (3 : Int32), vr t11, vi (3 : Int32)]) rfl ?_
    refine XS.goto X23.here hx rfl (pc0 := 29) (pc' := 8) rfl (hb hby d_jdk_52_m_14_29) (by decide) (by decide) ?_
    show Steps p.tables e below (T23.setTop (mkF m 8 #[vr b1, vi (3 : Int32), vi (3 : Int32), vr t11, vi (3 : Int32)] [])) _
    refine XS.iload X23.here hx rfl (hb hby d_jdk_52_m_14_8) rfl ?_
    refine XS.iloadN X23.here hx rfl (hb hby d_jdk_52_m_14_10) rfl ?_
    refine XS.icmpYes X23.here hx rfl (pc0 := 11) (pc' := 32) rfl (hb hby d_jdk_52_m_14_11) rfl (flt ((by decide) : ¬ ((3 : Int32) < (3 : Int32)))).2.1 (by decide) (by decide) ?_
    show Steps p.tables e below (T23.setTop (mkF m 32 #[vr b1, vi (3 : Int32), vi (3 : Int32), vr t11, vi (3 : Int32)] [])) _
    refine XS.aloadN X23.here hx rfl (hb hby d_jdk_52_m_14_32) rfl rfl ?_
    exact Steps.refl _
  obtain ⟨fs, hr, hrun, hended, hW1, hsame⟩ := X23.leave (v := (some (.ref t11))) (fun h => by rw [Bd.returns] at h; cases h)
  refine ⟨_, _, X23.areturnOut hx rfl Bd.returns rfl (hb hby d_jdk_52_m_14_33) hr, hrun, hended, _, _, rfl, ?_, ⟨_, rfl⟩, hW1, hsame.mono (by decide) (by decide)⟩
  show own_u_tob3_Q Z b1 k1 c0 c1 c2 h0 n0 (some (.ref t11)) T23.heap _
  exact ⟨_, _, rfl, N23, K24, Vu23, (by omega)⟩
def own_u_cmp3_Q (Z : State) (b1 d1 : Nat) (k1 k2 : ClassId) (c0 c1 c2 : Int32) (h0 : Heap) (n0 : Nat) (v : Option Value) (h : Heap) (L : List Loc) : Prop := Fr n0 L ∧ Keep h0 h [d1] ∧ ((v = some (.int (3 : Int32)) ∧ (∀ c ∈ ([c0, c1, c2] : List Int32), ¬ (255 : Int32) < c) ∧ Arv Z h d1 k2 .byte (3 : Int32) [(.int (StrChars.lo8 c0)), (.int (StrChars.lo8 c1)), (.int (StrChars.lo8 c2))] (.int (0 : Int32))) ∨ (v = some (.int (0 : Int32)) ∧ (255 : Int32) < c0) ∨ (v = some (.int (1 : Int32)) ∧ (255 : Int32) < c1) ∨ (v = some (.int (2 : Int32)) ∧ (255 : Int32) < c2))
theorem ef_own_u_cmp3 (m : MethodId) (x0 : Nat) (x1 : Int32) (x2 : Nat) (x3 : Int32) (x4 : Int32) : entryFrame m #[(.ref x0), (.int x1), (.ref x2), (.int x3), (.int x4)] 7 = mkF m 0 #[vr x0, vi x1, vr x2, vi x3, vi x4, .unset, .unset] [] := by first | (simp [entryFrame, mkF, argsToLocals, Value.category]; done) | rfl
set_option maxRecDepth 65536 in
set_option maxHeartbeats 40000000 in
theorem own_u_cmp3 (l : Launch) (Z : State) (a0 : Array Value) (hW : own_W Z a0) (b1 d1 : Nat) (k1 k2 : ClassId) (c0 c1 c2 : Int32) (h0 : Heap) (n0 : Nat) (Z0 : n0 ≤ h0.size) (O0 : Old Z n0 h0) (V1 : Arv Z h0 b1 k1 .char (3 : Int32) [(.int c0), (.int c1), (.int c2)] (.int (0 : Int32))) (V2 : Arv Z h0 d1 k2 .byte (3 : Int32) [(.int (0 : Int32)), (.int (0 : Int32)), (.int (0 : Int32))] (.int (0 : Int32))) (g2 : n0 ≤ d1) (hbd : b1 ≠ d1) :
    MetFree l (⟨"java/lang/StringUTF16", "compress", "([CI[BII)I"⟩ : MethodName) (head1 (Jvm.Cond.code (⟨"java/lang/StringUTF16", "compress", "([CI[BII)I"⟩ : MethodName) jdk_52_method_21_code 7 (some .int) :: []) ({ frames := 0, cells := 0, slots := 0, locals := 0 } : Room)) (fun a U => a = #[(.ref b1), (.int (0 : Int32)), (.ref d1), (.int (0 : Int32)), (.int (3 : Int32))] ∧ Z.Warmed39 U.vm ∧ U.heap = h0) (fun _ _ _ _ _ => True) (fun _ U o U' => ∃ v L, o = .returned v ∧ own_u_cmp3_Q Z b1 d1 k1 k2 c0 c1 c2 h0 n0 v U'.heap L ∧ FrameEnd U o U' L ({ frames := 0, cells := 0, slots := 0, locals := 0 } : Room).cells ({ frames := 0, cells := 0, slots := 0, locals := 0 } : Room).slots) := by
  refine MetFree.of_bodySF (plainFor_of_name pn_java_lang_StringUTF16) hisR ?_
  intro p e s m args below meth c s₁ Bd hml0 hP hK
  obtain ⟨rfl, hZ, hh⟩ := hP
  obtain ⟨hw, ⟨G1, O2, P5⟩, ⟨G3, O4, rG3⟩, Oa, Oh, Ol⟩ := id hW
  have hx := Bd.exec
  have hby := Bd.bytes
  have hml : c.maxLocals = 7 := hml0
  have hown : s.vm.findClass "java/lang/StringUTF16" = some m.cls := findClass_of_methodNamed Bd.named
  have hnm := (name_of_methodNamed Bd.named Bd.method).1
  have X0 : Stand p l e ({ frames := 0, cells := 0, slots := 0, locals := 0 } : Room) s m #[(.ref b1), (.int (0 : Int32)), (.ref d1), (.int (0 : Int32)), (.int (3 : Int32))] below meth c s₁ [] 0 0 := Stand.of_body Bd
  have e0 : s₁.heap = h0 := by rw [← hh, Bd.state]; rfl
  have N0 := Fr.nil n0
  have K0 := Keep.refl h0 [d1]
  have lt1 := own_lt V1.lt
  have lt2 := own_lt V2.lt
  show own_Fin p e below (s₁.setTop (entryFrame m #[(.ref b1), (.int (0 : Int32)), (.ref d1), (.int (0 : Int32)), (.int (3 : Int32))] 7)) _
  refine own_gs (castTop (ef_own_u_cmp3 m b1 (0 : Int32) d1 (0 : Int32) (3 : Int32)) (Steps.refl _)) ?_
  show own_Fin p e below (s₁.setTop (mkF m 0 #[vr b1, vi (0 : Int32), vr d1, vi (0 : Int32), vi (3 : Int32), uu, uu] [])) _
  refine own_gs (cur' := s₁.setTop (mkF m 12 #[vr b1, vi (0 : Int32), vr d1, vi (0 : Int32), vi (3 : Int32), vi (0 : Int32), uu] [(.int (0 : Int32)), (.ref b1)])) ?_ ?_
  · refine XS.iconst X0.here hx rfl (hb hby d_jdk_52_m_21_0) ?_
    refine XS.istore X0.here hx rfl (hb hby d_jdk_52_m_21_1) rfl (l' := #[vr b1, vi (0 : Int32), vr d1, vi (0 : Int32), vi (3 : Int32), vi (0 : Int32), uu]) rfl ?_
    refine XS.iload X0.here hx rfl (hb hby d_jdk_52_m_21_3) rfl ?_
    show Steps p.tables e below (s₁.setTop (mkF m 5 #[vr b1, vi (0 : Int32), vr d1, vi (0 : Int32), vi (3 : Int32), vi (0 : Int32), uu] [(.int (0 : Int32))])) _
    refine XS.iload X0.here hx rfl (hb hby d_jdk_52_m_21_5) rfl ?_
    refine XS.icmpNo X0.here hx rfl (hb hby d_jdk_52_m_21_7) rfl (tlt ((by decide) : (0 : Int32) < (3 : Int32))).2.1 ?_
    refine XS.aloadN X0.here hx rfl (hb hby d_jdk_52_m_21_10) rfl rfl ?_
    show Steps p.tables e below (s₁.setTop (mkF m 11 #[vr b1, vi (0 : Int32), vr d1, vi (0 : Int32), vi (3 : Int32), vi (0 : Int32), uu] [(.ref b1)])) _
    refine XS.iloadN X0.here hx rfl (hb hby d_jdk_52_m_21_11) rfl ?_
    exact Steps.refl _
  obtain ⟨cl11, Ar11, q11, S11, M11, Hs11, G11⟩ := id V1
  have hin11 : ¬ ((0 : Int32) < 0 ∨ cl11.slots.size ≤ ((0 : Int32)).toNatClampNeg) := inb_of S11 ⟨by decide, by decide⟩
  have hat11 : cl11.slots[((0 : Int32)).toNatClampNeg]? = some (.int c0) := Has.at Hs11 hin11 rfl
  refine own_go (X0.caload hx (j := (0 : Int32)) (v := (.int c0)) (by rw [e0]; exact Ar11.1) (State.isArrayOf_alike hZ.alike Ar11.2.1) Ar11.2.2 hin11 hat11 (g := (mkF m 12 #[vr b1, vi (0 : Int32), vr d1, vi (0 : Int32), vi (3 : Int32), vi (0 : Int32), uu] [(.int (0 : Int32)), (.ref b1)])) rfl rfl (hb hby d_jdk_52_m_21_12)) ?_
  show own_Fin p e below (s₁.setTop (mkF m 13 #[vr b1, vi (0 : Int32), vr d1, vi (0 : Int32), vi (3 : Int32), vi (0 : Int32), uu] [(.int c0)])) _
  refine own_gs (cur' := s₁.setTop (mkF m 20 #[vr b1, vi (0 : Int32), vr d1, vi (0 : Int32), vi (3 : Int32), vi (0 : Int32), vi c0] [(.int (255 : Int32)), (.int c0)])) ?_ ?_
  · refine XS.istore X0.here hx rfl (hb hby d_jdk_52_m_21_13) rfl (l' := #[vr b1, vi (0 : Int32), vr d1, vi (0 : Int32), vi (3 : Int32), vi (0 : Int32), vi c0]) rfl ?_
    refine XS.iload X0.here hx rfl (hb hby d_jdk_52_m_21_15) rfl ?_
    refine XS.sipush X0.here hx rfl (hb hby d_jdk_52_m_21_17) ?_
    exact Steps.refl _
  by_cases hc20_12 : (255 : Int32) < c0
  · refine own_gs (cur' := s₁.setTop (mkF m 25 #[vr b1, vi (0 : Int32), vr d1, vi (0 : Int32), vi (3 : Int32), vi (0 : Int32), vi c0] [(.int (0 : Int32))])) ?_ ?_
    · refine XS.icmpNo X0.here hx rfl (hb hby d_jdk_52_m_21_20) rfl (tlt (hc20_12 : (255 : Int32) < c0)).2.2.2 ?_
      refine XS.iload X0.here hx rfl (hb hby d_jdk_52_m_21_23) rfl ?_
      exact Steps.refl _
    obtain ⟨fs, hr, hrun, hended, hW1, hsame⟩ := X0.leave (v := (some (.int (0 : Int32)))) (fun h => by rw [Bd.returns] at h; cases h)
    refine ⟨_, _, retI X0 hx Bd.returns (hb hby d_jdk_52_m_21_25) hr, hrun, hended, _, _, rfl, ?_, ⟨_, rfl⟩, hW1, hsame.mono (by decide) (by decide)⟩
    show own_u_cmp3_Q Z b1 d1 k1 k2 c0 c1 c2 h0 n0 (some (.int (0 : Int32))) s₁.heap _
    rw [e0]
    exact ⟨N0, K0, Or.inr (Or.inl ⟨rfl, hc20_12⟩)⟩
  · refine own_gs (cur' := s₁.setTop (mkF m 31 #[vr b1, vi (0 : Int32), vr d1, vi (0 : Int32), vi (3 : Int32), vi (0 : Int32), vi c0] [(.int (c0.toInt8.toInt32)), (.int (0 : Int32)), (.ref d1)])) ?_ ?_
    · refine XS.icmpYes X0.here hx rfl (pc0 := 20) (pc' := 26) rfl (hb hby d_jdk_52_m_21_20) rfl (flt (hc20_12 : ¬ ((255 : Int32) < c0))).2.2.2 (by decide) (by decide) ?_
      refine XS.aloadN X0.here hx rfl (hb hby d_jdk_52_m_21_26) rfl rfl ?_
      refine XS.iloadN X0.here hx rfl (hb hby d_jdk_52_m_21_27) rfl ?_
      show Steps p.tables e below (s₁.setTop (mkF m 28 #[vr b1, vi (0 : Int32), vr d1, vi (0 : Int32), vi (3 : Int32), vi (0 : Int32), vi c0] [(.int (0 : Int32)), (.ref d1)])) _
      refine XS.iload X0.here hx rfl (hb hby d_jdk_52_m_21_28) rfl ?_
      refine XS.i2b X0.here hx rfl (hb hby d_jdk_52_m_21_30) rfl ?_
      exact Steps.refl _
    obtain ⟨cl13, Ar13, q13, S13, M13, Hs13, G13⟩ := id V2
    have hin13 : ¬ ((0 : Int32) < 0 ∨ cl13.slots.size ≤ ((0 : Int32)).toNatClampNeg) := inb_of S13 ⟨by decide, by decide⟩
    obtain ⟨T13, h13, X13, e13, W13, st13⟩ := stB X0 hx hZ e0 Ar13 (j := (0 : Int32)) hin13 (g := (mkF m 31 #[vr b1, vi (0 : Int32), vr d1, vi (0 : Int32), vi (3 : Int32), vi (0 : Int32), vi c0] [(.int (c0.toInt8.toInt32)), (.int (0 : Int32)), (.ref d1)])) rfl rfl (hb hby d_jdk_52_m_21_31)
    have V13 := Arv.set Ar13 q13 S13 M13 Hs13 G13 (fits_nar_byte _) W13 0 rfl (Nat.le_of_ble_eq_true rfl)
    refine own_go st13 ?_
    show own_Fin p e below (T13.setTop (mkF m 32 #[vr b1, vi (0 : Int32), vr d1, vi (0 : Int32), vi (3 : Int32), vi (0 : Int32), vi c0] [])) _
    have z14 := W13.size
    have K14 := K0.wr W13 (Or.inl (List.mem_of_getElem? (i := 0) rfl))
    have O14 := O0.wr W13 (by omega)
    have N14 := Fr.snoc X13 N0 (by omega)
    refine own_gs (cur' := T13.setTop (mkF m 12 #[vr b1, vi (1 : Int32), vr d1, vi (1 : Int32), vi (3 : Int32), vi (1 : Int32), vi c0] [(.int (1 : Int32)), (.ref b1)])) ?_ ?_
    · refine XS.iinc X13.here hx rfl (hb hby d_jdk_52_m_21_32) rfl (l' := #[vr b1, vi (1 : Int32), vr d1, vi (0 : Int32), vi (3 : Int32), vi (0 : Int32), vi c0]) rfl ?_
      refine XS.iinc X13.here hx rfl (hb hby d_jdk_52_m_21_35) rfl (l' := #[vr b1, vi (1 : Int32), vr d1, vi (1 : Int32), vi (3 : Int32), vi (0 : Int32), vi c0]) rfl ?_
      refine XS.iinc X13.here hx rfl (hb hby d_jdk_52_m_21_38) rfl (l' := #[vr b1, vi (1 : Int32), vr d1, vi (1 : Int32), vi (3 : Int32), vi (1 : Int32), vi c0]) rfl ?_
      show Steps p.tables e below (T13.setTop (mkF m 41 #[vr b1, vi (1 : Int32), vr d1, vi (1 : Int32), vi (3 : Int32), vi (1 : Int32), vi c0] [])) _
      refine XS.goto X13.here hx rfl (pc0 := 41) (pc' := 3) rfl (hb hby d_jdk_52_m_21_41) (by decide) (by decide) ?_
      refine XS.iload X13.here hx rfl (hb hby d_jdk_52_m_21_3) rfl ?_
      refine XS.iload X13.here hx rfl (hb hby d_jdk_52_m_21_5) rfl ?_
      show Steps p.tables e below (T13.setTop (mkF m 7 #[vr b1, vi (1 : Int32), vr d1, vi (1 : Int32), vi (3 : Int32), vi (1 : Int32), vi c0] [(.int (3 : Int32)), (.int (1 : Int32))])) _
      refine XS.icmpNo X13.here hx rfl (hb hby d_jdk_52_m_21_7) rfl (tlt ((by decide) : (1 : Int32) < (3 : Int32))).2.1 ?_
      refine XS.aloadN X13.here hx rfl (hb hby d_jdk_52_m_21_10) rfl rfl ?_
      refine XS.iloadN X13.here hx rfl (hb hby d_jdk_52_m_21_11) rfl ?_
      exact Steps.refl _
    have f16 := (V1.other W13 (own_ne (a := b1) (b := d1) (by omega)))
    obtain ⟨cl15, Ar15, q15, S15, M15, Hs15, G15⟩ := id f16
    have hin15 : ¬ ((1 : Int32) < 0 ∨ cl15.slots.size ≤ ((1 : Int32)).toNatClampNeg) := inb_of S15 ⟨by decide, by decide⟩
    have hat15 : cl15.slots[((1 : Int32)).toNatClampNeg]? = some (.int c1) := Has.at Hs15 hin15 rfl
    refine own_go (X13.caload hx (j := (1 : Int32)) (v := (.int c1)) (by rw [e13]; exact Ar15.1) (State.isArrayOf_alike hZ.alike Ar15.2.1) Ar15.2.2 hin15 hat15 (g := (mkF m 12 #[vr b1, vi (1 : Int32), vr d1, vi (1 : Int32), vi (3 : Int32), vi (1 : Int32), vi c0] [(.int (1 : Int32)), (.ref b1)])) rfl rfl (hb hby d_jdk_52_m_21_12)) ?_
    show own_Fin p e below (T13.setTop (mkF m 13 #[vr b1, vi (1 : Int32), vr d1, vi (1 : Int32), vi (3 : Int32), vi (1 : Int32), vi c0] [(.int c1)])) _
    refine own_gs (cur' := T13.setTop (mkF m 20 #[vr b1, vi (1 : Int32), vr d1, vi (1 : Int32), vi (3 : Int32), vi (1 : Int32), vi c1] [(.int (255 : Int32)), (.int c1)])) ?_ ?_
    · refine XS.istore X13.here hx rfl (hb hby d_jdk_52_m_21_13) rfl (l' := #[vr b1, vi (1 : Int32), vr d1, vi (1 : Int32), vi (3 : Int32), vi (1 : Int32), vi c1]) rfl ?_
      refine XS.iload X13.here hx rfl (hb hby d_jdk_52_m_21_15) rfl ?_
      refine XS.sipush X13.here hx rfl (hb hby d_jdk_52_m_21_17) ?_
      exact Steps.refl _
    by_cases hc20_17 : (255 : Int32) < c1
    · refine own_gs (cur' := T13.setTop (mkF m 25 #[vr b1, vi (1 : Int32), vr d1, vi (1 : Int32), vi (3 : Int32), vi (1 : Int32), vi c1] [(.int (1 : Int32))])) ?_ ?_
      · refine XS.icmpNo X13.here hx rfl (hb hby d_jdk_52_m_21_20) rfl (tlt (hc20_17 : (255 : Int32) < c1)).2.2.2 ?_
        refine XS.iload X13.here hx rfl (hb hby d_jdk_52_m_21_23) rfl ?_
        exact Steps.refl _
      obtain ⟨fs, hr, hrun, hended, hW1, hsame⟩ := X13.leave (v := (some (.int (1 : Int32)))) (fun h => by rw [Bd.returns] at h; cases h)
      refine ⟨_, _, retI X13 hx Bd.returns (hb hby d_jdk_52_m_21_25) hr, hrun, hended, _, _, rfl, ?_, ⟨_, rfl⟩, hW1, hsame.mono (by decide) (by decide)⟩
      show own_u_cmp3_Q Z b1 d1 k1 k2 c0 c1 c2 h0 n0 (some (.int (1 : Int32))) T13.heap _
      rw [e13]
      exact ⟨N14, K14, Or.inr (Or.inr (Or.inl ⟨rfl, hc20_17⟩))⟩
    · refine own_gs (cur' := T13.setTop (mkF m 31 #[vr b1, vi (1 : Int32), vr d1, vi (1 : Int32), vi (3 : Int32), vi (1 : Int32), vi c1] [(.int (c1.toInt8.toInt32)), (.int (1 : Int32)), (.ref d1)])) ?_ ?_
      · refine XS.icmpYes X13.here hx rfl (pc0 := 20) (pc' := 26) rfl (hb hby d_jdk_52_m_21_20) rfl (flt (hc20_17 : ¬ ((255 : Int32) < c1))).2.2.2 (by decide) (by decide) ?_
        refine XS.aloadN X13.here hx rfl (hb hby d_jdk_52_m_21_26) rfl rfl ?_
        refine XS.iloadN X13.here hx rfl (hb hby d_jdk_52_m_21_27) rfl ?_
        show Steps p.tables e below (T13.setTop (mkF m 28 #[vr b1, vi (1 : Int32), vr d1, vi (1 : Int32), vi (3 : Int32), vi (1 : Int32), vi c1] [(.int (1 : Int32)), (.ref d1)])) _
        refine XS.iload X13.here hx rfl (hb hby d_jdk_52_m_21_28) rfl ?_
        refine XS.i2b X13.here hx rfl (hb hby d_jdk_52_m_21_30) rfl ?_
        exact Steps.refl _
      obtain ⟨cl18, Ar18, q18, S18, M18, Hs18, G18⟩ := id V13
      have hin18 : ¬ ((1 : Int32) < 0 ∨ cl18.slots.size ≤ ((1 : Int32)).toNatClampNeg) := inb_of S18 ⟨by decide, by decide⟩
      obtain ⟨T18, h18, X18, e18, W18, st18⟩ := stB X13 hx hZ e13 Ar18 (j := (1 : Int32)) hin18 (g := (mkF m 31 #[vr b1, vi (1 : Int32), vr d1, vi (1 : Int32), vi (3 : Int32), vi (1 : Int32), vi c1] [(.int (c1.toInt8.toInt32)), (.int (1 : Int32)), (.ref d1)])) rfl rfl (hb hby d_jdk_52_m_21_31)
      have V18 := Arv.set Ar18 q18 S18 M18 Hs18 G18 (fits_nar_byte _) W18 1 rfl (Nat.le_of_ble_eq_true rfl)
      refine own_go st18 ?_
      show own_Fin p e below (T18.setTop (mkF m 32 #[vr b1, vi (1 : Int32), vr d1, vi (1 : Int32), vi (3 : Int32), vi (1 : Int32), vi c1] [])) _
      have z19 := W18.size
      have K19 := K14.wr W18 (Or.inl (List.mem_of_getElem? (i := 0) rfl))
      have O19 := O14.wr W18 (by omega)
      have N19 := Fr.snoc X18 N14 (by omega)
      refine own_gs (cur' := T18.setTop (mkF m 12 #[vr b1, vi (2 : Int32), vr d1, vi (2 : Int32), vi (3 : Int32), vi (2 : Int32), vi c1] [(.int (2 : Int32)), (.ref b1)])) ?_ ?_
      · refine XS.iinc X18.here hx rfl (hb hby d_jdk_52_m_21_32) rfl (l' := #[vr b1, vi (2 : Int32), vr d1, vi (1 : Int32), vi (3 : Int32), vi (1 : Int32), vi c1]) rfl ?_
        refine XS.iinc X18.here hx rfl (hb hby d_jdk_52_m_21_35) rfl (l' := #[vr b1, vi (2 : Int32), vr d1, vi (2 : Int32), vi (3 : Int32), vi (1 : Int32), vi c1]) rfl ?_
        refine XS.iinc X18.here hx rfl (hb hby d_jdk_52_m_21_38) rfl (l' := #[vr b1, vi (2 : Int32), vr d1, vi (2 : Int32), vi (3 : Int32), vi (2 : Int32), vi c1]) rfl ?_
        show Steps p.tables e below (T18.setTop (mkF m 41 #[vr b1, vi (2 : Int32), vr d1, vi (2 : Int32), vi (3 : Int32), vi (2 : Int32), vi c1] [])) _
        refine XS.goto X18.here hx rfl (pc0 := 41) (pc' := 3) rfl (hb hby d_jdk_52_m_21_41) (by decide) (by decide) ?_
        refine XS.iload X18.here hx rfl (hb hby d_jdk_52_m_21_3) rfl ?_
        refine XS.iload X18.here hx rfl (hb hby d_jdk_52_m_21_5) rfl ?_
        show Steps p.tables e below (T18.setTop (mkF m 7 #[vr b1, vi (2 : Int32), vr d1, vi (2 : Int32), vi (3 : Int32), vi (2 : Int32), vi c1] [(.int (3 : Int32)), (.int (2 : Int32))])) _
        refine XS.icmpNo X18.here hx rfl (hb hby d_jdk_52_m_21_7) rfl (tlt ((by decide) : (2 : Int32) < (3 : Int32))).2.1 ?_
        refine XS.aloadN X18.here hx rfl (hb hby d_jdk_52_m_21_10) rfl rfl ?_
        refine XS.iloadN X18.here hx rfl (hb hby d_jdk_52_m_21_11) rfl ?_
        exact Steps.refl _
      have f21 := (f16.other W18 (own_ne (a := b1) (b := d1) (by omega)))
      obtain ⟨cl20, Ar20, q20, S20, M20, Hs20, G20⟩ := id f21
      have hin20 : ¬ ((2 : Int32) < 0 ∨ cl20.slots.size ≤ ((2 : Int32)).toNatClampNeg) := inb_of S20 ⟨by decide, by decide⟩
      have hat20 : cl20.slots[((2 : Int32)).toNatClampNeg]? = some (.int c2) := Has.at Hs20 hin20 rfl
      refine own_go (X18.caload hx (j := (2 : Int32)) (v := (.int c2)) (by rw [e18]; exact Ar20.1) (State.isArrayOf_alike hZ.alike Ar20.2.1) Ar20.2.2 hin20 hat20 (g := (mkF m 12 #[vr b1, vi (2 : Int32), vr d1, vi (2 : Int32), vi (3 : Int32), vi (2 : Int32), vi c1] [(.int (2 : Int32)), (.ref b1)])) rfl rfl (hb hby d_jdk_52_m_21_12)) ?_
      show own_Fin p e below (T18.setTop (mkF m 13 #[vr b1, vi (2 : Int32), vr d1, vi (2 : Int32), vi (3 : Int32), vi (2 : Int32), vi c1] [(.int c2)])) _
      refine own_gs (cur' := T18.setTop (mkF m 20 #[vr b1, vi (2 : Int32), vr d1, vi (2 : Int32), vi (3 : Int32), vi (2 : Int32), vi c2] [(.int (255 : Int32)), (.int c2)])) ?_ ?_
      · refine XS.istore X18.here hx rfl (hb hby d_jdk_52_m_21_13) rfl (l' := #[vr b1, vi (2 : Int32), vr d1, vi (2 : Int32), vi (3 : Int32), vi (2 : Int32), vi c2]) rfl ?_
        refine XS.iload X18.here hx rfl (hb hby d_jdk_52_m_21_15) rfl ?_
        refine XS.sipush X18.here hx rfl (hb hby d_jdk_52_m_21_17) ?_
        exact Steps.refl _
      by_cases hc20_22 : (255 : Int32) < c2
      · refine own_gs (cur' := T18.setTop (mkF m 25 #[vr b1, vi (2 : Int32), vr d1, vi (2 : Int32), vi (3 : Int32), vi (2 : Int32), vi c2] [(.int (2 : Int32))])) ?_ ?_
        · refine XS.icmpNo X18.here hx rfl (hb hby d_jdk_52_m_21_20) rfl (tlt (hc20_22 : (255 : Int32) < c2)).2.2.2 ?_
          refine XS.iload X18.here hx rfl (hb hby d_jdk_52_m_21_23) rfl ?_
          exact Steps.refl _
        obtain ⟨fs, hr, hrun, hended, hW1, hsame⟩ := X18.leave (v := (some (.int (2 : Int32)))) (fun h => by rw [Bd.returns] at h; cases h)
        refine ⟨_, _, retI X18 hx Bd.returns (hb hby d_jdk_52_m_21_25) hr, hrun, hended, _, _, rfl, ?_, ⟨_, rfl⟩, hW1, hsame.mono (by decide) (by decide)⟩
        show own_u_cmp3_Q Z b1 d1 k1 k2 c0 c1 c2 h0 n0 (some (.int (2 : Int32))) T18.heap _
        rw [e18]
        exact ⟨N19, K19, Or.inr (Or.inr (Or.inr ⟨rfl, hc20_22⟩))⟩
      · refine own_gs (cur' := T18.setTop (mkF m 31 #[vr b1, vi (2 : Int32), vr d1, vi (2 : Int32), vi (3 : Int32), vi (2 : Int32), vi c2] [(.int (c2.toInt8.toInt32)), (.int (2 : Int32)), (.ref d1)])) ?_ ?_
        · refine XS.icmpYes X18.here hx rfl (pc0 := 20) (pc' := 26) rfl (hb hby d_jdk_52_m_21_20) rfl (flt (hc20_22 : ¬ ((255 : Int32) < c2))).2.2.2 (by decide) (by decide) ?_
          refine XS.aloadN X18.here hx rfl (hb hby d_jdk_52_m_21_26) rfl rfl ?_
          refine XS.iloadN X18.here hx rfl (hb hby d_jdk_52_m_21_27) rfl ?_
          show Steps p.tables e below (T18.setTop (mkF m 28 #[vr b1, vi (2 : Int32), vr d1, vi (2 : Int32), vi (3 : Int32), vi (2 : Int32), vi c2] [(.int (2 : Int32)), (.ref d1)])) _
          refine XS.iload X18.here hx rfl (hb hby d_jdk_52_m_21_28) rfl ?_
          refine XS.i2b X18.here hx rfl (hb hby d_jdk_52_m_21_30) rfl ?_
          exact Steps.refl _
        obtain ⟨cl23, Ar23, q23, S23, M23, Hs23, G23⟩ := id V18
        have hin23 : ¬ ((2 : Int32) < 0 ∨ cl23.slots.size ≤ ((2 : Int32)).toNatClampNeg) := inb_of S23 ⟨by decide, by decide⟩
        obtain ⟨T23, h23, X23, e23, W23, st23⟩ := stB X18 hx hZ e18 Ar23 (j := (2 : Int32)) hin23 (g := (mkF m 31 #[vr b1, vi (2 : Int32), vr d1, vi (2 : Int32), vi (3 : Int32), vi (2 : Int32), vi c2] [(.int (c2.toInt8.toInt32)), (.int (2 : Int32)), (.ref d1)])) rfl rfl (hb hby d_jdk_52_m_21_31)
        have V23 := Arv.set Ar23 q23 S23 M23 Hs23 G23 (fits_nar_byte _) W23 2 rfl (Nat.le_of_ble_eq_true rfl)
        refine own_go st23 ?_
        show own_Fin p e below (T23.setTop (mkF m 32 #[vr b1, vi (2 : Int32), vr d1, vi (2 : Int32), vi (3 : Int32), vi (2 : Int32), vi c2] [])) _
        have z24 := W23.size
        have K24 := K19.wr W23 (Or.inl (List.mem_of_getElem? (i := 0) rfl))
        have O24 := O19.wr W23 (by omega)
        have N24 := Fr.snoc X23 N19 (by omega)
        have Vf := V23
        simp only [own_b2] at Vf
        have hal : ∀ c ∈ ([c0, c1, c2] : List Int32), ¬ (255 : Int32) < c := by
          intro c hc
          simp only [List.mem_cons, List.not_mem_nil, or_false] at hc
          rcases hc with rfl | rfl | rfl
          · exact hc20_12
          · exact hc20_17
          · exact hc20_22
        refine own_gs (cur' := T23.setTop (mkF m 46 #[vr b1, vi (3 : Int32), vr d1, vi (3 : Int32), vi (3 : Int32), vi (3 : Int32), vi c2] [(.int (3 : Int32))])) ?_ ?_
        · refine XS.iinc X23.here hx rfl (hb hby d_jdk_52_m_21_32) rfl (l' := #[vr b1, vi (3 : Int32), vr d1, vi (2 : Int32), vi (3 : Int32), vi (2 : Int32), vi c2]) rfl ?_
          refine XS.iinc X23.here hx rfl (hb hby d_jdk_52_m_21_35) rfl (l' := #[vr b1, vi (3 : Int32), vr d1, vi (3 : Int32), vi (3 : Int32), vi (2 : Int32), vi c2]) rfl ?_
          refine XS.iinc X23.here hx rfl (hb hby d_jdk_52_m_21_38) rfl (l' := #[vr b1, vi (3 : Int32), vr d1, vi (3 : Int32), vi (3 : Int32), vi (3 : Int32), vi c2]) rfl ?_
          show Steps p.tables e below (T23.setTop (mkF m 41 #[vr b1, vi (3 : Int32), vr d1, vi (3 : Int32), vi (3 : Int32), vi (3 : Int32), vi c2] [])) _
          refine XS.goto X23.here hx rfl (pc0 := 41) (pc' := 3) rfl (hb hby d_jdk_52_m_21_41) (by decide) (by decide) ?_
          refine XS.iload X23.here hx rfl (hb hby d_jdk_52_m_21_3) rfl ?_
          refine XS.iload X23.here hx rfl (hb hby d_jdk_52_m_21_5) rfl ?_
          show Steps p.tables e below (T23.setTop (mkF m 7 #[vr b1, vi (3 : Int32), vr d1, vi (3 : Int32), vi (3 : Int32), vi (3 : Int32), vi c2] [(.int (3 : Int32)), (.int (3 : Int32))])) _
          refine XS.icmpYes X23.here hx rfl (pc0 := 7) (pc' := 44) rfl (hb hby d_jdk_52_m_21_7) rfl (flt ((by decide) : ¬ ((3 : Int32) < (3 : Int32)))).2.1 (by decide) (by decide) ?_
          refine XS.iload X23.here hx rfl (hb hby d_jdk_52_m_21_44) rfl ?_
          exact Steps.refl _
        obtain ⟨fs, hr, hrun, hended, hW1, hsame⟩ := X23.leave (v := (some (.int (3 : Int32)))) (fun h => by rw [Bd.returns] at h; cases h)
        refine ⟨_, _, retI X23 hx Bd.returns (hb hby d_jdk_52_m_21_46) hr, hrun, hended, _, _, rfl, ?_, ⟨_, rfl⟩, hW1, hsame.mono (by decide) (by decide)⟩
        show own_u_cmp3_Q Z b1 d1 k1 k2 c0 c1 c2 h0 n0 (some (.int (3 : Int32))) T23.heap _
        rw [e23]
        exact ⟨N24, K24, Or.inl ⟨rfl, hal, Vf⟩⟩
def own_u_cmpr3_Q (Z : State) (b1 : Nat) (k1 : ClassId) (c0 c1 c2 : Int32) (h0 : Heap) (n0 : Nat) (v : Option Value) (h : Heap) (L : List Loc) : Prop := ∃ (t : Nat) (kb : ClassId), v = some (.ref t) ∧ Fr n0 L ∧ Keep h0 h [] ∧ h0.size ≤ t ∧ (((∀ c ∈ ([c0, c1, c2] : List Int32), ¬ (255 : Int32) < c) ∧ Arv Z h t kb .byte (3 : Int32) [(.int (StrChars.lo8 c0)), (.int (StrChars.lo8 c1)), (.int (StrChars.lo8 c2))] (.int (0 : Int32))) ∨ ((∃ c ∈ ([c0, c1, c2] : List Int32), (255 : Int32) < c) ∧ Arv Z h t kb .byte (6 : Int32) (StrChars.Road.wideBytes [c0, c1, c2]) (.int (0 : Int32))))
theorem ef_own_u_cmpr3 (m : MethodId) (x0 : Nat) (x1 : Int32) (x2 : Int32) : entryFrame m #[(.ref x0), (.int x1), (.int x2)] 6 = mkF m 0 #[vr x0, vi x1, vi x2, .unset, .unset, .unset] [] := by first | (simp [entryFrame, mkF, argsToLocals, Value.category]; done) | rfl
set_option maxRecDepth 65536 in
set_option maxHeartbeats 40000000 in
theorem own_u_cmpr3 (l : Launch) (Z : State) (a0 : Array Value) (hW : own_W Z a0) (b1 : Nat) (k1 : ClassId) (c0 c1 c2 : Int32) (h0 : Heap) (n0 : Nat) (Z0 : n0 ≤ h0.size) (O0 : Old Z n0 h0) (V1 : Arv Z h0 b1 k1 .char (3 : Int32) [(.int c0), (.int c1), (.int c2)] (.int (0 : Int32))) (hb0 : ¬ c0 < 0 ∧ ¬ (65535 : Int32) < c0) (hb1 : ¬ c1 < 0 ∧ ¬ (65535 : Int32) < c1) (hb2 : ¬ c2 < 0 ∧ ¬ (65535 : Int32) < c2) :
    MetFree l (⟨"java/lang/StringUTF16", "compress", "([CII)[B"⟩ : MethodName) (head1 (Jvm.Cond.code (⟨"java/lang/StringUTF16", "compress", "([CII)[B"⟩ : MethodName) jdk_52_method_16_code 6 (some (.array .byte)) :: []) ({ frames := 3, cells := 2, slots := 9, locals := 40 } : Room)) (fun a U => a = #[(.ref b1), (.int (0 : Int32)), (.int (3 : Int32))] ∧ Z.Warmed39 U.vm ∧ U.heap = h0) (fun _ _ _ _ _ => True) (fun _ U o U' => ∃ v L, o = .returned v ∧ own_u_cmpr3_Q Z b1 k1 c0 c1 c2 h0 n0 v U'.heap L ∧ FrameEnd U o U' L ({ frames := 3, cells := 2, slots := 9, locals := 40 } : Room).cells ({ frames := 3, cells := 2, slots := 9, locals := 40 } : Room).slots) := by
  refine MetFree.of_bodySF (plainFor_of_name pn_java_lang_StringUTF16) hisR ?_
  intro p e s m args below meth c s₁ Bd hml0 hP hK
  obtain ⟨rfl, hZ, hh⟩ := hP
  obtain ⟨hw, ⟨G1, O2, P5⟩, ⟨G3, O4, rG3⟩, Oa, Oh, Ol⟩ := id hW
  have hx := Bd.exec
  have hby := Bd.bytes
  have hml : c.maxLocals = 6 := hml0
  have hown : s.vm.findClass "java/lang/StringUTF16" = some m.cls := findClass_of_methodNamed Bd.named
  have hnm := (name_of_methodNamed Bd.named Bd.method).1
  have X0 : Stand p l e ({ frames := 3, cells := 2, slots := 9, locals := 40 } : Room) s m #[(.ref b1), (.int (0 : Int32)), (.int (3 : Int32))] below meth c s₁ [] 0 0 := Stand.of_body Bd
  have e0 : s₁.heap = h0 := by rw [← hh, Bd.state]; rfl
  have N0 := Fr.nil n0
  have K0 := Keep.refl h0 []
  have lt1 := own_lt V1.lt
  show own_Fin p e below (s₁.setTop (entryFrame m #[(.ref b1), (.int (0 : Int32)), (.int (3 : Int32))] 6)) _
  refine own_gs (castTop (ef_own_u_cmpr3 m b1 (0 : Int32) (3 : Int32)) (Steps.refl _)) ?_
  show own_Fin p e below (s₁.setTop (mkF m 0 #[vr b1, vi (0 : Int32), vi (3 : Int32), uu, uu, uu] [])) _
  refine own_gs (cur' := s₁.setTop (mkF m 1 #[vr b1, vi (0 : Int32), vi (3 : Int32), uu, uu, uu] [(.int (3 : Int32))])) ?_ ?_
  · refine XS.iloadN X0.here hx rfl (hb hby d_jdk_52_m_16_0) rfl ?_
    exact Steps.refl _
  obtain ⟨T11, h11, k11, X11, e11, E11, A11, st11⟩ := newP X0 hx hZ (hw _ (List.mem_of_getElem? (i := 16) rfl)) e0 (g := (mkF m 1 #[vr b1, vi (0 : Int32), vi (3 : Int32), uu, uu, uu] [(.int (3 : Int32))])) rfl (hb hby d_jdk_52_m_16_1) rfl (by decide) (cap := 3) (by decide) (by decide) (by decide) (by decide)
  obtain ⟨b11, g11⟩ : ∃ z, z = h0.size := ⟨_, rfl⟩
  rw [← g11] at A11 st11
  have lt11 := own_lt A11.lt
  refine own_go st11 ?_
  show own_Fin p e below (T11.setTop (mkF m 3 #[vr b1, vi (0 : Int32), vi (3 : Int32), uu, uu, uu] [(.ref b11)])) _
  have z12 := E11.1
  have K12 := K0.ext E11
  have O12 := O0.ext E11
  have V11 : Arv Z h11 b11 k11 .byte (3 : Int32) [(.int (0 : Int32)), (.int (0 : Int32)), (.int (0 : Int32))] (.int (0 : Int32)) := (Arv.new A11 (by decide)).pad (pad_rep [] (.int (0 : Int32)) 3)
  have f13 := (V1.ext E11)
  refine own_gs (cur' := T11.setTop (mkF m 9 #[vr b1, vi (0 : Int32), vi (3 : Int32), vr b11, uu, uu] [(.int (3 : Int32)), (.int (0 : Int32)), (.ref b11), (.int (0 : Int32)), (.ref b1)])) ?_ ?_
  · refine XS.astoreN X11.here hx rfl (hb hby d_jdk_52_m_16_3) rfl rfl (l' := #[vr b1, vi (0 : Int32), vi (3 : Int32), vr b11, uu, uu]) rfl ?_
    refine XS.aloadN X11.here hx rfl (hb hby d_jdk_52_m_16_4) rfl rfl ?_
    refine XS.iloadN X11.here hx rfl (hb hby d_jdk_52_m_16_5) rfl ?_
    show Steps p.tables e below (T11.setTop (mkF m 6 #[vr b1, vi (0 : Int32), vi (3 : Int32), vr b11, uu, uu] [(.int (0 : Int32)), (.ref b1)])) _
    refine XS.aloadN X11.here hx rfl (hb hby d_jdk_52_m_16_6) rfl rfl ?_
    refine XS.iconst X11.here hx rfl (hb hby d_jdk_52_m_16_7) ?_
    refine XS.iloadN X11.here hx rfl (hb hby d_jdk_52_m_16_8) rfl ?_
    exact Steps.refl _
  obtain ⟨_, _, ⟨T14, L14, k14, n14⟩, -, X14, ⟨Lc14, hQ14, l14, y14, z14⟩, st14⟩ := Jvm.LawKit.callS X11 hx (y := (⟨"java/lang/StringUTF16", "compress", "([CI[BII)I"⟩ : MethodName)) hown (mvT hZ (hw _ (List.mem_of_getElem? (i := 28) rfl))) (mvT hZ (hw _ (List.mem_of_getElem? (i := 29) rfl))) (mvT hZ (hw _ (List.mem_of_getElem? (i := 26) rfl))) (mvT hZ (hw _ (List.mem_of_getElem? (i := 30) rfl))) (by decide) (backOf (W := 0) (own_u_cmp3 l Z a0 hW b1 b11 k1 k11 c0 c1 c2 h11 n0 (by omega) O12 f13 V11 (by omega) (by omega)) hZ (hw _ (List.mem_of_getElem? (i := 30) rfl)) (hw _ (List.mem_of_getElem? (i := 26) rfl)) (by decide) (by decide)) (g := (mkF m 9 #[vr b1, vi (0 : Int32), vi (3 : Int32), vr b11, uu, uu] [(.int (3 : Int32)), (.int (0 : Int32)), (.ref b11), (.int (0 : Int32)), (.ref b1)])) rfl (by rw [hml]; rfl) (argsL := [(.ref b1), (.int (0 : Int32)), (.ref b11), (.int (0 : Int32)), (.int (3 : Int32))]) (rest := []) (lenOf pd_10 rfl) rfl (by show 2 * 0 + _ ≤ _; exact Nat.le_of_eq rfl) (hb hby d_jdk_52_m_16_9) (fun _ _ => ⟨rfl, e11, (by decide : 1 + 0 ≤ 2), (by decide : 3 + 0 ≤ 9)⟩)
  dsimp only [Pt.U, Pt.locs, Pt.cells, Pt.slots] at X14 l14 y14 z14 st14 hQ14
  subst l14 y14 z14
  obtain ⟨Nq14, Kq14, hor⟩ := hQ14
  have N14 := Fr.app N0 Nq14
  have z15 := Kq14.1
  have K15 := K12.trans Kq14 (allS (Or.inr (by omega)) all0)
  have O15 := O12.keep Kq14 (allS (by omega) all0)
  rcases hor with ⟨rfl, hal, Vl⟩ | ⟨rfl, hbig⟩ | ⟨rfl, hbig⟩ | ⟨rfl, hbig⟩
  · refine own_go st14 ?_
    show own_Fin p e below (T14.setTop (mkF m 12 #[vr b1, vi (0 : Int32), vi (3 : Int32), vr b11, uu, uu] [(.int (3 : Int32))])) _
    refine own_gs (cur' := T14.setTop (mkF m 58 #[vr b1, vi (0 : Int32), vi (3 : Int32), vr b11, vi (3 : Int32), uu] [(.ref b11)])) ?_ ?_
    · refine XS.istore X14.here hx rfl (hb hby d_jdk_52_m_16_12) rfl (l' := #[vr b1, vi (0 : Int32), vi (3 : Int32), vr b11, vi (3 : Int32), uu]) rfl ?_
      refine XS.iload X14.here hx rfl (hb hby d_jdk_52_m_16_14) rfl ?_
      refine XS.iloadN X14.here hx rfl (hb hby d_jdk_52_m_16_16) rfl ?_
      show Steps p.tables e below (T14.setTop (mkF m 17 #[vr b1, vi (0 : Int32), vi (3 : Int32), vr b11, vi (3 : Int32), uu] [(.int (3 : Int32)), (.int (3 : Int32))])) _
      refine XS.icmpYes X14.here hx rfl (pc0 := 17) (pc' := 57) rfl (hb hby d_jdk_52_m_16_17) rfl (teq ((by decide) : (3 : Int32) = (3 : Int32))).1 (by decide) (by decide) ?_
      refine XS.aloadN X14.here hx rfl (hb hby d_jdk_52_m_16_57) rfl rfl ?_
      exact Steps.refl _
    obtain ⟨fs, hr, hrun, hended, hW1, hsame⟩ := X14.leave (v := (some (.ref b11))) (fun h => by rw [Bd.returns] at h; cases h)
    refine ⟨_, _, X14.areturnOut hx rfl Bd.returns rfl (hb hby d_jdk_52_m_16_58) hr, hrun, hended, _, _, rfl, ?_, ⟨_, rfl⟩, hW1, hsame.mono (by decide) (by decide)⟩
    show own_u_cmpr3_Q Z b1 k1 c0 c1 c2 h0 n0 (some (.ref b11)) T14.heap _
    exact ⟨_, _, rfl, N14, K15, (by omega), Or.inl ⟨hal, Vl⟩⟩
  · refine own_go st14 ?_
    show own_Fin p e below (T14.setTop (mkF m 12 #[vr b1, vi (0 : Int32), vi (3 : Int32), vr b11, uu, uu] [(.int (0 : Int32))])) _
    have f16 := (f13.keep Kq14 (ninS (own_ne (a := b1) (b := b11) (by omega)) nin0))
    refine own_gs (cur' := T14.setTop (mkF m 23 #[vr b1, vi (0 : Int32), vi (3 : Int32), vr b11, vi (0 : Int32), uu] [(.int (3 : Int32)), (.int (0 : Int32)), (.ref b1)])) ?_ ?_
    · refine XS.istore X14.here hx rfl (hb hby d_jdk_52_m_16_12) rfl (l' := #[vr b1, vi (0 : Int32), vi (3 : Int32), vr b11, vi (0 : Int32), uu]) rfl ?_
      refine XS.iload X14.here hx rfl (hb hby d_jdk_52_m_16_14) rfl ?_
      refine XS.iloadN X14.here hx rfl (hb hby d_jdk_52_m_16_16) rfl ?_
      show Steps p.tables e below (T14.setTop (mkF m 17 #[vr b1, vi (0 : Int32), vi (3 : Int32), vr b11, vi (0 : Int32), uu] [(.int (3 : Int32)), (.int (0 : Int32))])) _
      refine XS.icmpNo X14.here hx rfl (hb hby d_jdk_52_m_16_17) rfl (feq ((by decide) : ¬ ((0 : Int32) = (3 : Int32)))).1 ?_
      refine XS.aloadN X14.here hx rfl (hb hby d_jdk_52_m_16_20) rfl rfl ?_
      refine XS.iloadN X14.here hx rfl (hb hby d_jdk_52_m_16_21) rfl ?_
      show Steps p.tables e below (T14.setTop (mkF m 22 #[vr b1, vi (0 : Int32), vi (3 : Int32), vr b11, vi (0 : Int32), uu] [(.int (0 : Int32)), (.ref b1)])) _
      refine XS.iloadN X14.here hx rfl (hb hby d_jdk_52_m_16_22) rfl ?_
      exact Steps.refl _
    obtain ⟨_, _, ⟨T17, L17, k17, n17⟩, -, X17, ⟨Lc17, hQ17, l17, y17, z17⟩, st17⟩ := Jvm.LawKit.callS X14 hx (y := (⟨"java/lang/StringUTF16", "toBytes", "([CII)[B"⟩ : MethodName)) hown (mvT hZ (hw _ (List.mem_of_getElem? (i := 74) rfl))) (mvT hZ (hw _ (List.mem_of_getElem? (i := 75) rfl))) (mvT hZ (hw _ (List.mem_of_getElem? (i := 26) rfl))) (mvT hZ (hw _ (List.mem_of_getElem? (i := 76) rfl))) (by decide) (backOf (W := 0) (own_u_tob3 l Z a0 hW b1 k1 c0 c1 c2 T14.heap n0 (by omega) O15 f16) hZ (hw _ (List.mem_of_getElem? (i := 76) rfl)) (hw _ (List.mem_of_getElem? (i := 26) rfl)) (by decide) (by decide)) (g := (mkF m 23 #[vr b1, vi (0 : Int32), vi (3 : Int32), vr b11, vi (0 : Int32), uu] [(.int (3 : Int32)), (.int (0 : Int32)), (.ref b1)])) rfl (by rw [hml]; rfl) (argsL := [(.ref b1), (.int (0 : Int32)), (.int (3 : Int32))]) (rest := []) (lenOf pd_11 rfl) rfl (by show 2 * 0 + _ ≤ _; exact Nat.le_of_eq rfl) (hb hby d_jdk_52_m_16_23) (fun _ _ => ⟨rfl, rfl, (by decide : 1 + 1 ≤ 2), (by decide : 3 + 6 ≤ 9)⟩)
    dsimp only [Pt.U, Pt.locs, Pt.cells, Pt.slots] at X17 l17 y17 z17 st17 hQ17
    subst l17 y17 z17
    obtain ⟨t17, kb17, rfl, Nq17, Kq17, Vt17, ge17⟩ := hQ17
    have N17 := Fr.app N14 Nq17
    have z18 := Kq17.1
    have K18 := K15.trans Kq17 all0
    have O18 := O15.keep Kq17 all0
    have lt17 := own_lt Vt17.lt
    refine own_go st17 ?_
    show own_Fin p e below (T17.setTop (mkF m 26 #[vr b1, vi (0 : Int32), vi (3 : Int32), vr b11, vi (0 : Int32), uu] [(.ref t17)])) _
    refine own_gs (cur' := T17.setTop (mkF m 32 #[vr b1, vi (0 : Int32), vi (3 : Int32), vr b11, vi (0 : Int32), vr t17] [(.int (0 : Int32)), (.ref t17)])) ?_ ?_
    · refine XS.astore X17.here hx rfl (hb hby d_jdk_52_m_16_26) rfl rfl (l' := #[vr b1, vi (0 : Int32), vi (3 : Int32), vr b11, vi (0 : Int32), vr t17]) rfl ?_
      refine XS.aload X17.here hx rfl (hb hby d_jdk_52_m_16_28) rfl rfl ?_
      refine XS.iload X17.here hx rfl (hb hby d_jdk_52_m_16_30) rfl ?_
      exact Steps.refl _
    obtain ⟨_, _, ⟨T19, L19, k19, n19⟩, -, X19, ⟨Lc19, hQ19, l19, y19, z19⟩, st19⟩ := Jvm.LawKit.callS X17 hx (y := (⟨"java/lang/StringUTF16", "getChar", "([BI)C"⟩ : MethodName)) hown (mvT hZ (hw _ (List.mem_of_getElem? (i := 90) rfl))) (mvT hZ (hw _ (List.mem_of_getElem? (i := 91) rfl))) (mvT hZ (hw _ (List.mem_of_getElem? (i := 26) rfl))) (mvT hZ (hw _ (List.mem_of_getElem? (i := 92) rfl))) (by decide) (backOf (W := 0) (own_u_getc l Z a0 hW t17 kb17 3 0 (StrChars.Road.wideBytes [c0, c1, c2]) (StrChars.lo8 c0) (StrChars.hi8 c0) T17.heap n0 (by omega) O18 (by decide) (by decide) Vt17 rfl rfl) hZ (hw _ (List.mem_of_getElem? (i := 92) rfl)) (hw _ (List.mem_of_getElem? (i := 26) rfl)) (by decide) (by decide)) (g := (mkF m 32 #[vr b1, vi (0 : Int32), vi (3 : Int32), vr b11, vi (0 : Int32), vr t17] [(.int (0 : Int32)), (.ref t17)])) rfl (by rw [hml]; rfl) (argsL := [(.ref t17), (.int (0 : Int32))]) (rest := []) (lenOf pd_5 rfl) rfl (by show 2 * 0 + _ ≤ _; exact Nat.le_of_eq rfl) (hb hby d_jdk_52_m_16_32) (fun _ _ => ⟨rfl, rfl, (by decide : 2 + 0 ≤ 2), (by decide : 9 + 0 ≤ 9)⟩)
    dsimp only [Pt.U, Pt.locs, Pt.cells, Pt.slots] at X19 l19 y19 z19 st19 hQ19
    subst l19 y19 z19
    obtain ⟨rfl, Nq19, eh19⟩ := hQ19
    have N19 := Fr.app N17 Nq19
    rw [StrChars.pair_says hb0.1 hb0.2] at st19
    refine own_go st19 ?_
    show own_Fin p e below (T19.setTop (mkF m 35 #[vr b1, vi (0 : Int32), vi (3 : Int32), vr b11, vi (0 : Int32), vr t17] [(.int c0)])) _
    refine own_gs (cur' := T19.setTop (mkF m 56 #[vr b1, vi (0 : Int32), vi (3 : Int32), vr b11, vi (0 : Int32), vr t17] [(.ref t17)])) ?_ ?_
    · refine XS.sipush X19.here hx rfl (hb hby d_jdk_52_m_16_35) ?_
      refine XS.icmpYes X19.here hx rfl (pc0 := 38) (pc' := 54) rfl (hb hby d_jdk_52_m_16_38) rfl (tlt (hbig : (255 : Int32) < c0)).2.2.1 (by decide) (by decide) ?_
      refine XS.aload X19.here hx rfl (hb hby d_jdk_52_m_16_54) rfl rfl ?_
      exact Steps.refl _
    obtain ⟨fs, hr, hrun, hended, hW1, hsame⟩ := X19.leave (v := (some (.ref t17))) (fun h => by rw [Bd.returns] at h; cases h)
    refine ⟨_, _, X19.areturnOut hx rfl Bd.returns rfl (hb hby d_jdk_52_m_16_56) hr, hrun, hended, _, _, rfl, ?_, ⟨_, rfl⟩, hW1, hsame.mono (by decide) (by decide)⟩
    show own_u_cmpr3_Q Z b1 k1 c0 c1 c2 h0 n0 (some (.ref t17)) T19.heap _
    rw [eh19]
    exact ⟨_, _, rfl, N19, K18, (by omega), Or.inr ⟨⟨_, List.mem_of_getElem? (i := 0) rfl, hbig⟩, Vt17⟩⟩
  · refine own_go st14 ?_
    show own_Fin p e below (T14.setTop (mkF m 12 #[vr b1, vi (0 : Int32), vi (3 : Int32), vr b11, uu, uu] [(.int (1 : Int32))])) _
    have f20 := (f13.keep Kq14 (ninS (own_ne (a := b1) (b := b11) (by omega)) nin0))
    refine own_gs (cur' := T14.setTop (mkF m 23 #[vr b1, vi (0 : Int32), vi (3 : Int32), vr b11, vi (1 : Int32), uu] [(.int (3 : Int32)), (.int (0 : Int32)), (.ref b1)])) ?_ ?_
    · refine XS.istore X14.here hx rfl (hb hby d_jdk_52_m_16_12) rfl (l' := #[vr b1, vi (0 : Int32), vi (3 : Int32), vr b11, vi (1 : Int32), uu]) rfl ?_
      refine XS.iload X14.here hx rfl (hb hby d_jdk_52_m_16_14) rfl ?_
      refine XS.iloadN X14.here hx rfl (hb hby d_jdk_52_m_16_16) rfl ?_
      show Steps p.tables e below (T14.setTop (mkF m 17 #[vr b1, vi (0 : Int32), vi (3 : Int32), vr b11, vi (1 : Int32), uu] [(.int (3 : Int32)), (.int (1 : Int32))])) _
      refine XS.icmpNo X14.here hx rfl (hb hby d_jdk_52_m_16_17) rfl (feq ((by decide) : ¬ ((1 : Int32) = (3 : Int32)))).1 ?_
      refine XS.aloadN X14.here hx rfl (hb hby d_jdk_52_m_16_20) rfl rfl ?_
      refine XS.iloadN X14.here hx rfl (hb hby d_jdk_52_m_16_21) rfl ?_
      show Steps p.tables e below (T14.setTop (mkF m 22 #[vr b1, vi (0 : Int32), vi (3 : Int32), vr b11, vi (1 : Int32), uu] [(.int (0 : Int32)), (.ref b1)])) _
      refine XS.iloadN X14.here hx rfl (hb hby d_jdk_52_m_16_22) rfl ?_
      exact Steps.refl _
    obtain ⟨_, _, ⟨T21, L21, k21, n21⟩, -, X21, ⟨Lc21, hQ21, l21, y21, z21⟩, st21⟩ := Jvm.LawKit.callS X14 hx (y := (⟨"java/lang/StringUTF16", "toBytes", "([CII)[B"⟩ : MethodName)) hown (mvT hZ (hw _ (List.mem_of_getElem? (i := 74) rfl))) (mvT hZ (hw _ (List.mem_of_getElem? (i := 75) rfl))) (mvT hZ (hw _ (List.mem_of_getElem? (i := 26) rfl))) (mvT hZ (hw _ (List.mem_of_getElem? (i := 76) rfl))) (by decide) (backOf (W := 0) (own_u_tob3 l Z a0 hW b1 k1 c0 c1 c2 T14.heap n0 (by omega) O15 f20) hZ (hw _ (List.mem_of_getElem? (i := 76) rfl)) (hw _ (List.mem_of_getElem? (i := 26) rfl)) (by decide) (by decide)) (g := (mkF m 23 #[vr b1, vi (0 : Int32), vi (3 : Int32), vr b11, vi (1 : Int32), uu] [(.int (3 : Int32)), (.int (0 : Int32)), (.ref b1)])) rfl (by rw [hml]; rfl) (argsL := [(.ref b1), (.int (0 : Int32)), (.int (3 : Int32))]) (rest := []) (lenOf pd_11 rfl) rfl (by show 2 * 0 + _ ≤ _; exact Nat.le_of_eq rfl) (hb hby d_jdk_52_m_16_23) (fun _ _ => ⟨rfl, rfl, (by decide : 1 + 1 ≤ 2), (by decide : 3 + 6 ≤ 9)⟩)
    dsimp only [Pt.U, Pt.locs, Pt.cells, Pt.slots] at X21 l21 y21 z21 st21 hQ21
    subst l21 y21 z21
    obtain ⟨t21, kb21, rfl, Nq21, Kq21, Vt21, ge21⟩ := hQ21
    have N21 := Fr.app N14 Nq21
    have z22 := Kq21.1
    have K22 := K15.trans Kq21 all0
    have O22 := O15.keep Kq21 all0
    have lt21 := own_lt Vt21.lt
    refine own_go st21 ?_
    show own_Fin p e below (T21.setTop (mkF m 26 #[vr b1, vi (0 : Int32), vi (3 : Int32), vr b11, vi (1 : Int32), uu] [(.ref t21)])) _
    refine own_gs (cur' := T21.setTop (mkF m 32 #[vr b1, vi (0 : Int32), vi (3 : Int32), vr b11, vi (1 : Int32), vr t21] [(.int (1 : Int32)), (.ref t21)])) ?_ ?_
    · refine XS.astore X21.here hx rfl (hb hby d_jdk_52_m_16_26) rfl rfl (l' := #[vr b1, vi (0 : Int32), vi (3 : Int32), vr b11, vi (1 : Int32), vr t21]) rfl ?_
      refine XS.aload X21.here hx rfl (hb hby d_jdk_52_m_16_28) rfl rfl ?_
      refine XS.iload X21.here hx rfl (hb hby d_jdk_52_m_16_30) rfl ?_
      exact Steps.refl _
    obtain ⟨_, _, ⟨T23, L23, k23, n23⟩, -, X23, ⟨Lc23, hQ23, l23, y23, z23⟩, st23⟩ := Jvm.LawKit.callS X21 hx (y := (⟨"java/lang/StringUTF16", "getChar", "([BI)C"⟩ : MethodName)) hown (mvT hZ (hw _ (List.mem_of_getElem? (i := 90) rfl))) (mvT hZ (hw _ (List.mem_of_getElem? (i := 91) rfl))) (mvT hZ (hw _ (List.mem_of_getElem? (i := 26) rfl))) (mvT hZ (hw _ (List.mem_of_getElem? (i := 92) rfl))) (by decide) (backOf (W := 0) (own_u_getc l Z a0 hW t21 kb21 3 1 (StrChars.Road.wideBytes [c0, c1, c2]) (StrChars.lo8 c1) (StrChars.hi8 c1) T21.heap n0 (by omega) O22 (by decide) (by decide) Vt21 rfl rfl) hZ (hw _ (List.mem_of_getElem? (i := 92) rfl)) (hw _ (List.mem_of_getElem? (i := 26) rfl)) (by decide) (by decide)) (g := (mkF m 32 #[vr b1, vi (0 : Int32), vi (3 : Int32), vr b11, vi (1 : Int32), vr t21] [(.int (1 : Int32)), (.ref t21)])) rfl (by rw [hml]; rfl) (argsL := [(.ref t21), (.int (1 : Int32))]) (rest := []) (lenOf pd_5 rfl) rfl (by show 2 * 0 + _ ≤ _; exact Nat.le_of_eq rfl) (hb hby d_jdk_52_m_16_32) (fun _ _ => ⟨rfl, rfl, (by decide : 2 + 0 ≤ 2), (by decide : 9 + 0 ≤ 9)⟩)
    dsimp only [Pt.U, Pt.locs, Pt.cells, Pt.slots] at X23 l23 y23 z23 st23 hQ23
    subst l23 y23 z23
    obtain ⟨rfl, Nq23, eh23⟩ := hQ23
    have N23 := Fr.app N21 Nq23
    rw [StrChars.pair_says hb1.1 hb1.2] at st23
    refine own_go st23 ?_
    show own_Fin p e below (T23.setTop (mkF m 35 #[vr b1, vi (0 : Int32), vi (3 : Int32), vr b11, vi (1 : Int32), vr t21] [(.int c1)])) _
    refine own_gs (cur' := T23.setTop (mkF m 56 #[vr b1, vi (0 : Int32), vi (3 : Int32), vr b11, vi (1 : Int32), vr t21] [(.ref t21)])) ?_ ?_
    · refine XS.sipush X23.here hx rfl (hb hby d_jdk_52_m_16_35) ?_
      refine XS.icmpYes X23.here hx rfl (pc0 := 38) (pc' := 54) rfl (hb hby d_jdk_52_m_16_38) rfl (tlt (hbig : (255 : Int32) < c1)).2.2.1 (by decide) (by decide) ?_
      refine XS.aload X23.here hx rfl (hb hby d_jdk_52_m_16_54) rfl rfl ?_
      exact Steps.refl _
    obtain ⟨fs, hr, hrun, hended, hW1, hsame⟩ := X23.leave (v := (some (.ref t21))) (fun h => by rw [Bd.returns] at h; cases h)
    refine ⟨_, _, X23.areturnOut hx rfl Bd.returns rfl (hb hby d_jdk_52_m_16_56) hr, hrun, hended, _, _, rfl, ?_, ⟨_, rfl⟩, hW1, hsame.mono (by decide) (by decide)⟩
    show own_u_cmpr3_Q Z b1 k1 c0 c1 c2 h0 n0 (some (.ref t21)) T23.heap _
    rw [eh23]
    exact ⟨_, _, rfl, N23, K22, (by omega), Or.inr ⟨⟨_, List.mem_of_getElem? (i := 1) rfl, hbig⟩, Vt21⟩⟩
  · refine own_go st14 ?_
    show own_Fin p e below (T14.setTop (mkF m 12 #[vr b1, vi (0 : Int32), vi (3 : Int32), vr b11, uu, uu] [(.int (2 : Int32))])) _
    have f24 := (f13.keep Kq14 (ninS (own_ne (a := b1) (b := b11) (by omega)) nin0))
    refine own_gs (cur' := T14.setTop (mkF m 23 #[vr b1, vi (0 : Int32), vi (3 : Int32), vr b11, vi (2 : Int32), uu] [(.int (3 : Int32)), (.int (0 : Int32)), (.ref b1)])) ?_ ?_
    · refine XS.istore X14.here hx rfl (hb hby d_jdk_52_m_16_12) rfl (l' := #[vr b1, vi (0 : Int32), vi (3 : Int32), vr b11, vi (2 : Int32), uu]) rfl ?_
      refine XS.iload X14.here hx rfl (hb hby d_jdk_52_m_16_14) rfl ?_
      refine XS.iloadN X14.here hx rfl (hb hby d_jdk_52_m_16_16) rfl ?_
      show Steps p.tables e below (T14.setTop (mkF m 17 #[vr b1, vi (0 : Int32), vi (3 : Int32), vr b11, vi (2 : Int32), uu] [(.int (3 : Int32)), (.int (2 : Int32))])) _
      refine XS.icmpNo X14.here hx rfl (hb hby d_jdk_52_m_16_17) rfl (feq ((by decide) : ¬ ((2 : Int32) = (3 : Int32)))).1 ?_
      refine XS.aloadN X14.here hx rfl (hb hby d_jdk_52_m_16_20) rfl rfl ?_
      refine XS.iloadN X14.here hx rfl (hb hby d_jdk_52_m_16_21) rfl ?_
      show Steps p.tables e below (T14.setTop (mkF m 22 #[vr b1, vi (0 : Int32), vi (3 : Int32), vr b11, vi (2 : Int32), uu] [(.int (0 : Int32)), (.ref b1)])) _
      refine XS.iloadN X14.here hx rfl (hb hby d_jdk_52_m_16_22) rfl ?_
      exact Steps.refl _
    obtain ⟨_, _, ⟨T25, L25, k25, n25⟩, -, X25, ⟨Lc25, hQ25, l25, y25, z25⟩, st25⟩ := Jvm.LawKit.callS X14 hx (y := (⟨"java/lang/StringUTF16", "toBytes", "([CII)[B"⟩ : MethodName)) hown (mvT hZ (hw _ (List.mem_of_getElem? (i := 74) rfl))) (mvT hZ (hw _ (List.mem_of_getElem? (i := 75) rfl))) (mvT hZ (hw _ (List.mem_of_getElem? (i := 26) rfl))) (mvT hZ (hw _ (List.mem_of_getElem? (i := 76) rfl))) (by decide) (backOf (W := 0) (own_u_tob3 l Z a0 hW b1 k1 c0 c1 c2 T14.heap n0 (by omega) O15 f24) hZ (hw _ (List.mem_of_getElem? (i := 76) rfl)) (hw _ (List.mem_of_getElem? (i := 26) rfl)) (by decide) (by decide)) (g := (mkF m 23 #[vr b1, vi (0 : Int32), vi (3 : Int32), vr b11, vi (2 : Int32), uu] [(.int (3 : Int32)), (.int (0 : Int32)), (.ref b1)])) rfl (by rw [hml]; rfl) (argsL := [(.ref b1), (.int (0 : Int32)), (.int (3 : Int32))]) (rest := []) (lenOf pd_11 rfl) rfl (by show 2 * 0 + _ ≤ _; exact Nat.le_of_eq rfl) (hb hby d_jdk_52_m_16_23) (fun _ _ => ⟨rfl, rfl, (by decide : 1 + 1 ≤ 2), (by decide : 3 + 6 ≤ 9)⟩)
    dsimp only [Pt.U, Pt.locs, Pt.cells, Pt.slots] at X25 l25 y25 z25 st25 hQ25
    subst l25 y25 z25
    obtain ⟨t25, kb25, rfl, Nq25, Kq25, Vt25, ge25⟩ := hQ25
    have N25 := Fr.app N14 Nq25
    have z26 := Kq25.1
    have K26 := K15.trans Kq25 all0
    have O26 := O15.keep Kq25 all0
    have lt25 := own_lt Vt25.lt
    refine own_go st25 ?_
    show own_Fin p e below (T25.setTop (mkF m 26 #[vr b1, vi (0 : Int32), vi (3 : Int32), vr b11, vi (2 : Int32), uu] [(.ref t25)])) _
    refine own_gs (cur' := T25.setTop (mkF m 32 #[vr b1, vi (0 : Int32), vi (3 : Int32), vr b11, vi (2 : Int32), vr t25] [(.int (2 : Int32)), (.ref t25)])) ?_ ?_
    · refine XS.astore X25.here hx rfl (hb hby d_jdk_52_m_16_26) rfl rfl (l' := #[vr b1, vi (0 : Int32), vi (3 : Int32), vr b11, vi (2 : Int32), vr t25]) rfl ?_
      refine XS.aload X25.here hx rfl (hb hby d_jdk_52_m_16_28) rfl rfl ?_
      refine XS.iload X25.here hx rfl (hb hby d_jdk_52_m_16_30) rfl ?_
      exact Steps.refl _
    obtain ⟨_, _, ⟨T27, L27, k27, n27⟩, -, X27, ⟨Lc27, hQ27, l27, y27, z27⟩, st27⟩ := Jvm.LawKit.callS X25 hx (y := (⟨"java/lang/StringUTF16", "getChar", "([BI)C"⟩ : MethodName)) hown (mvT hZ (hw _ (List.mem_of_getElem? (i := 90) rfl))) (mvT hZ (hw _ (List.mem_of_getElem? (i := 91) rfl))) (mvT hZ (hw _ (List.mem_of_getElem? (i := 26) rfl))) (mvT hZ (hw _ (List.mem_of_getElem? (i := 92) rfl))) (by decide) (backOf (W := 0) (own_u_getc l Z a0 hW t25 kb25 3 2 (StrChars.Road.wideBytes [c0, c1, c2]) (StrChars.lo8 c2) (StrChars.hi8 c2) T25.heap n0 (by omega) O26 (by decide) (by decide) Vt25 rfl rfl) hZ (hw _ (List.mem_of_getElem? (i := 92) rfl)) (hw _ (List.mem_of_getElem? (i := 26) rfl)) (by decide) (by decide)) (g := (mkF m 32 #[vr b1, vi (0 : Int32), vi (3 : Int32), vr b11, vi (2 : Int32), vr t25] [(.int (2 : Int32)), (.ref t25)])) rfl (by rw [hml]; rfl) (argsL := [(.ref t25), (.int (2 : Int32))]) (rest := []) (lenOf pd_5 rfl) rfl (by show 2 * 0 + _ ≤ _; exact Nat.le_of_eq rfl) (hb hby d_jdk_52_m_16_32) (fun _ _ => ⟨rfl, rfl, (by decide : 2 + 0 ≤ 2), (by decide : 9 + 0 ≤ 9)⟩)
    dsimp only [Pt.U, Pt.locs, Pt.cells, Pt.slots] at X27 l27 y27 z27 st27 hQ27
    subst l27 y27 z27
    obtain ⟨rfl, Nq27, eh27⟩ := hQ27
    have N27 := Fr.app N25 Nq27
    rw [StrChars.pair_says hb2.1 hb2.2] at st27
    refine own_go st27 ?_
    show own_Fin p e below (T27.setTop (mkF m 35 #[vr b1, vi (0 : Int32), vi (3 : Int32), vr b11, vi (2 : Int32), vr t25] [(.int c2)])) _
    refine own_gs (cur' := T27.setTop (mkF m 56 #[vr b1, vi (0 : Int32), vi (3 : Int32), vr b11, vi (2 : Int32), vr t25] [(.ref t25)])) ?_ ?_
    · refine XS.sipush X27.here hx rfl (hb hby d_jdk_52_m_16_35) ?_
      refine XS.icmpYes X27.here hx rfl (pc0 := 38) (pc' := 54) rfl (hb hby d_jdk_52_m_16_38) rfl (tlt (hbig : (255 : Int32) < c2)).2.2.1 (by decide) (by decide) ?_
      refine XS.aload X27.here hx rfl (hb hby d_jdk_52_m_16_54) rfl rfl ?_
      exact Steps.refl _
    obtain ⟨fs, hr, hrun, hended, hW1, hsame⟩ := X27.leave (v := (some (.ref t25))) (fun h => by rw [Bd.returns] at h; cases h)
    refine ⟨_, _, X27.areturnOut hx rfl Bd.returns rfl (hb hby d_jdk_52_m_16_56) hr, hrun, hended, _, _, rfl, ?_, ⟨_, rfl⟩, hW1, hsame.mono (by decide) (by decide)⟩
    show own_u_cmpr3_Q Z b1 k1 c0 c1 c2 h0 n0 (some (.ref t25)) T27.heap _
    rw [eh27]
    exact ⟨_, _, rfl, N27, K26, (by omega), Or.inr ⟨⟨_, List.mem_of_getElem? (i := 2) rfl, hbig⟩, Vt25⟩⟩
def own_u_cfa3_0_Q (Z : State) (t1 : Nat) (k1 : ClassId) (vs : List Value) (h0 : Heap) (n0 : Nat) (v : Option Value) (h : Heap) (L : List Loc) : Prop := v = (some (.int (0 : Int32))) ∧ Fr n0 L ∧ h = h0
theorem ef_own_u_cfa3_0 (m : MethodId) (x0 : Nat) (x1 : Int32) : entryFrame m #[(.ref x0), (.int x1)] 2 = mkF m 0 #[vr x0, vi x1] [] := by first | (simp [entryFrame, mkF, argsToLocals, Value.category]; done) | rfl
set_option maxRecDepth 65536 in
set_option maxHeartbeats 40000000 in
theorem own_u_cfa3_0 (l : Launch) (Z : State) (a0 : Array Value) (hW : own_W Z a0) (t1 : Nat) (k1 : ClassId) (vs : List Value) (h0 : Heap) (n0 : Nat) (Z0 : n0 ≤ h0.size) (O0 : Old Z n0 h0) (V1 : Arv Z h0 t1 k1 .byte (3 : Int32) vs (.int (0 : Int32))) :
    MetFree l (⟨"java/lang/StringUTF16", "coderFromArrayLen", "([BI)B"⟩ : MethodName) (head1 (Jvm.Cond.code (⟨"java/lang/StringUTF16", "coderFromArrayLen", "([BI)B"⟩ : MethodName) jdk_52_method_15_code 2 (some .byte) :: []) ({ frames := 0, cells := 0, slots := 0, locals := 0 } : Room)) (fun a U => a = #[(.ref t1), (.int (3 : Int32))] ∧ Z.Warmed39 U.vm ∧ U.heap = h0) (fun _ _ _ _ _ => True) (fun _ U o U' => ∃ v L, o = .returned v ∧ own_u_cfa3_0_Q Z t1 k1 vs h0 n0 v U'.heap L ∧ FrameEnd U o U' L ({ frames := 0, cells := 0, slots := 0, locals := 0 } : Room).cells ({ frames := 0, cells := 0, slots := 0, locals := 0 } : Room).slots) := by
  refine MetFree.of_bodySF (plainFor_of_name pn_java_lang_StringUTF16) hisR ?_
  intro p e s m args below meth c s₁ Bd hml0 hP hK
  obtain ⟨rfl, hZ, hh⟩ := hP
  obtain ⟨hw, ⟨G1, O2, P5⟩, ⟨G3, O4, rG3⟩, Oa, Oh, Ol⟩ := id hW
  have hx := Bd.exec
  have hby := Bd.bytes
  have hml : c.maxLocals = 2 := hml0
  have hown : s.vm.findClass "java/lang/StringUTF16" = some m.cls := findClass_of_methodNamed Bd.named
  have hnm := (name_of_methodNamed Bd.named Bd.method).1
  have X0 : Stand p l e ({ frames := 0, cells := 0, slots := 0, locals := 0 } : Room) s m #[(.ref t1), (.int (3 : Int32))] below meth c s₁ [] 0 0 := Stand.of_body Bd
  have e0 : s₁.heap = h0 := by rw [← hh, Bd.state]; rfl
  have N0 := Fr.nil n0
  have K0 := Keep.refl h0 []
  show own_Fin p e below (s₁.setTop (entryFrame m #[(.ref t1), (.int (3 : Int32))] 2)) _
  refine own_gs (castTop (ef_own_u_cfa3_0 m t1 (3 : Int32)) (Steps.refl _)) ?_
  show own_Fin p e below (s₁.setTop (mkF m 0 #[vr t1, vi (3 : Int32)] [])) _
  refine own_gs (cur' := s₁.setTop (mkF m 2 #[vr t1, vi (3 : Int32)] [(.ref t1), (.int (3 : Int32))])) ?_ ?_
  · refine XS.iloadN X0.here hx rfl (hb hby d_jdk_52_m_15_0) rfl ?_
    refine XS.aloadN X0.here hx rfl (hb hby d_jdk_52_m_15_1) rfl rfl ?_
    exact Steps.refl _
  obtain ⟨cl11, Ar11, q11, S11, M11, Hs11, G11⟩ := id V1
  refine own_go (X0.arraylength hx (by rw [e0]; exact Ar11.1) (State.isArrayOf_alike hZ.alike Ar11.2.1) (g := (mkF m 2 #[vr t1, vi (3 : Int32)] [(.ref t1), (.int (3 : Int32))])) rfl rfl (hb hby d_jdk_52_m_15_2)) ?_
  rw [len_of S11 M11]
  show own_Fin p e below (s₁.setTop (mkF m 3 #[vr t1, vi (3 : Int32)] [(.int (3 : Int32)), (.int (3 : Int32))])) _
  refine own_gs (cur' := s₁.setTop (mkF m 8 #[vr t1, vi (3 : Int32)] [(.int (0 : Int32))])) ?_ ?_
  · refine XS.isub X0.here hx rfl (hb hby d_jdk_52_m_15_3) rfl ?_
    refine XS.bipush X0.here hx rfl (hb hby d_jdk_52_m_15_4) ?_
    refine XS.iushr X0.here hx rfl (hb hby d_jdk_52_m_15_6) rfl ?_
    show Steps p.tables e below (s₁.setTop (mkF m 7 #[vr t1, vi (3 : Int32)] [(.int (0 : Int32))])) _
    refine XS.i2b X0.here hx rfl (hb hby d_jdk_52_m_15_7) rfl ?_
    exact Steps.refl _
  obtain ⟨fs, hr, hrun, hended, hW1, hsame⟩ := X0.leave (v := (some (.int (0 : Int32)))) (fun h => by rw [Bd.returns] at h; cases h)
  refine ⟨_, _, retN X0 hx (t := .byte) Bd.returns (by simp) (hb hby d_jdk_52_m_15_8) hr, hrun, hended, _, _, rfl, ?_, ⟨_, rfl⟩, hW1, hsame.mono (by decide) (by decide)⟩
  show own_u_cfa3_0_Q Z t1 k1 vs h0 n0 (some (.int (0 : Int32))) s₁.heap _
  rw [e0]
  exact ⟨rfl, N0, rfl⟩
def own_u_cfa3_1_Q (Z : State) (t1 : Nat) (k1 : ClassId) (vs : List Value) (h0 : Heap) (n0 : Nat) (v : Option Value) (h : Heap) (L : List Loc) : Prop := v = (some (.int (1 : Int32))) ∧ Fr n0 L ∧ h = h0
theorem ef_own_u_cfa3_1 (m : MethodId) (x0 : Nat) (x1 : Int32) : entryFrame m #[(.ref x0), (.int x1)] 2 = mkF m 0 #[vr x0, vi x1] [] := by first | (simp [entryFrame, mkF, argsToLocals, Value.category]; done) | rfl
set_option maxRecDepth 65536 in
set_option maxHeartbeats 40000000 in
theorem own_u_cfa3_1 (l : Launch) (Z : State) (a0 : Array Value) (hW : own_W Z a0) (t1 : Nat) (k1 : ClassId) (vs : List Value) (h0 : Heap) (n0 : Nat) (Z0 : n0 ≤ h0.size) (O0 : Old Z n0 h0) (V1 : Arv Z h0 t1 k1 .byte (6 : Int32) vs (.int (0 : Int32))) :
    MetFree l (⟨"java/lang/StringUTF16", "coderFromArrayLen", "([BI)B"⟩ : MethodName) (head1 (Jvm.Cond.code (⟨"java/lang/StringUTF16", "coderFromArrayLen", "([BI)B"⟩ : MethodName) jdk_52_method_15_code 2 (some .byte) :: []) ({ frames := 0, cells := 0, slots := 0, locals := 0 } : Room)) (fun a U => a = #[(.ref t1), (.int (3 : Int32))] ∧ Z.Warmed39 U.vm ∧ U.heap = h0) (fun _ _ _ _ _ => True) (fun _ U o U' => ∃ v L, o = .returned v ∧ own_u_cfa3_1_Q Z t1 k1 vs h0 n0 v U'.heap L ∧ FrameEnd U o U' L ({ frames := 0, cells := 0, slots := 0, locals := 0 } : Room).cells ({ frames := 0, cells := 0, slots := 0, locals := 0 } : Room).slots) := by
  refine MetFree.of_bodySF (plainFor_of_name pn_java_lang_StringUTF16) hisR ?_
  intro p e s m args below meth c s₁ Bd hml0 hP hK
  obtain ⟨rfl, hZ, hh⟩ := hP
  obtain ⟨hw, ⟨G1, O2, P5⟩, ⟨G3, O4, rG3⟩, Oa, Oh, Ol⟩ := id hW
  have hx := Bd.exec
  have hby := Bd.bytes
  have hml : c.maxLocals = 2 := hml0
  have hown : s.vm.findClass "java/lang/StringUTF16" = some m.cls := findClass_of_methodNamed Bd.named
  have hnm := (name_of_methodNamed Bd.named Bd.method).1
  have X0 : Stand p l e ({ frames := 0, cells := 0, slots := 0, locals := 0 } : Room) s m #[(.ref t1), (.int (3 : Int32))] below meth c s₁ [] 0 0 := Stand.of_body Bd
  have e0 : s₁.heap = h0 := by rw [← hh, Bd.state]; rfl
  have N0 := Fr.nil n0
  have K0 := Keep.refl h0 []
  show own_Fin p e below (s₁.setTop (entryFrame m #[(.ref t1), (.int (3 : Int32))] 2)) _
  refine own_gs (castTop (ef_own_u_cfa3_1 m t1 (3 : Int32)) (Steps.refl _)) ?_
  show own_Fin p e below (s₁.setTop (mkF m 0 #[vr t1, vi (3 : Int32)] [])) _
  refine own_gs (cur' := s₁.setTop (mkF m 2 #[vr t1, vi (3 : Int32)] [(.ref t1), (.int (3 : Int32))])) ?_ ?_
  · refine XS.iloadN X0.here hx rfl (hb hby d_jdk_52_m_15_0) rfl ?_
    refine XS.aloadN X0.here hx rfl (hb hby d_jdk_52_m_15_1) rfl rfl ?_
    exact Steps.refl _
  obtain ⟨cl11, Ar11, q11, S11, M11, Hs11, G11⟩ := id V1
  refine own_go (X0.arraylength hx (by rw [e0]; exact Ar11.1) (State.isArrayOf_alike hZ.alike Ar11.2.1) (g := (mkF m 2 #[vr t1, vi (3 : Int32)] [(.ref t1), (.int (3 : Int32))])) rfl rfl (hb hby d_jdk_52_m_15_2)) ?_
  rw [len_of S11 M11]
  show own_Fin p e below (s₁.setTop (mkF m 3 #[vr t1, vi (3 : Int32)] [(.int (6 : Int32)), (.int (3 : Int32))])) _
  refine own_gs (cur' := s₁.setTop (mkF m 8 #[vr t1, vi (3 : Int32)] [(.int (1 : Int32))])) ?_ ?_
  · refine XS.isub X0.here hx rfl (hb hby d_jdk_52_m_15_3) rfl ?_
    refine XS.bipush X0.here hx rfl (hb hby d_jdk_52_m_15_4) ?_
    refine XS.iushr X0.here hx rfl (hb hby d_jdk_52_m_15_6) rfl ?_
    show Steps p.tables e below (s₁.setTop (mkF m 7 #[vr t1, vi (3 : Int32)] [(.int (1 : Int32))])) _
    refine XS.i2b X0.here hx rfl (hb hby d_jdk_52_m_15_7) rfl ?_
    exact Steps.refl _
  obtain ⟨fs, hr, hrun, hended, hW1, hsame⟩ := X0.leave (v := (some (.int (1 : Int32)))) (fun h => by rw [Bd.returns] at h; cases h)
  refine ⟨_, _, retN X0 hx (t := .byte) Bd.returns (by simp) (hb hby d_jdk_52_m_15_8) hr, hrun, hended, _, _, rfl, ?_, ⟨_, rfl⟩, hW1, hsame.mono (by decide) (by decide)⟩
  show own_u_cfa3_1_Q Z t1 k1 vs h0 n0 (some (.int (1 : Int32))) s₁.heap _
  rw [e0]
  exact ⟨rfl, N0, rfl⟩
def own_u_new4_3_Q (Z : State) (x1 b1 : Nat) (v0 c0_ : Value) (k1 : ClassId) (c0 c1 c2 : Int32) (h0 : Heap) (n0 : Nat) (v : Option Value) (h : Heap) (L : List Loc) : Prop := v = none ∧ Fr n0 L ∧ Keep h0 h [x1] ∧ ∃ t : Nat, x1 ≠ t ∧ own_Str Z h x1 t [c0, c1, c2]
theorem ef_own_u_new4_3 (m : MethodId) (x0 : Nat) (x1 : Nat) (x2 : Int32) (x3 : Int32) : entryFrame m #[(.ref x0), (.ref x1), (.int x2), (.int x3), .null] 6 = mkF m 0 #[vr x0, vr x1, vi x2, vi x3, vn, .unset] [] := by first | (simp [entryFrame, mkF, argsToLocals, Value.category]; done) | rfl
set_option maxRecDepth 65536 in
set_option maxHeartbeats 40000000 in
theorem own_u_new4_3 (l : Launch) (Z : State) (a0 : Array Value) (hW : own_W Z a0) (x1 b1 : Nat) (v0 c0_ : Value) (k1 : ClassId) (c0 c1 c2 : Int32) (h0 : Heap) (n0 : Nat) (Z0 : n0 ≤ h0.size) (O0 : Old Z n0 h0) (E1 : Exa Z h0 x1 "java/lang/String") (Fv1 : Fld Z h0 x1 "java/lang/String" "value" "[B" v0) (Fc1 : Fld Z h0 x1 "java/lang/String" "coder" "B" c0_) (g1 : n0 ≤ x1) (V1 : Arv Z h0 b1 k1 .char (3 : Int32) [(.int c0), (.int c1), (.int c2)] (.int (0 : Int32))) (hb0 : ¬ c0 < 0 ∧ ¬ (65535 : Int32) < c0) (hb1 : ¬ c1 < 0 ∧ ¬ (65535 : Int32) < c1) (hb2 : ¬ c2 < 0 ∧ ¬ (65535 : Int32) < c2) :
    MetFree l (⟨"java/lang/String", "<init>", "([CIILjava/lang/Void;)V"⟩ : MethodName) (head1 (Jvm.Cond.code (⟨"java/lang/String", "<init>", "([CIILjava/lang/Void;)V"⟩ : MethodName) jdk_42_method_149_code 6 none :: []) ({ frames := 4, cells := 2, slots := 9, locals := 57 } : Room)) (fun a U => a = #[(.ref x1), (.ref b1), (.int (0 : Int32)), (.int (3 : Int32)), .null] ∧ Z.Warmed39 U.vm ∧ U.heap = h0) (fun _ _ _ _ _ => True) (fun _ U o U' => ∃ v L, o = .returned v ∧ own_u_new4_3_Q Z x1 b1 v0 c0_ k1 c0 c1 c2 h0 n0 v U'.heap L ∧ FrameEnd U o U' L ({ frames := 4, cells := 2, slots := 9, locals := 57 } : Room).cells ({ frames := 4, cells := 2, slots := 9, locals := 57 } : Room).slots) := by
  refine MetFree.of_bodySF (plainFor_of_name pn_java_lang_String) hisR ?_
  intro p e s m args below meth c s₁ Bd hml0 hP hK
  obtain ⟨rfl, hZ, hh⟩ := hP
  obtain ⟨hw, ⟨G1, O2, P5⟩, ⟨G3, O4, rG3⟩, Oa, Oh, Ol⟩ := id hW
  have hx := Bd.exec
  have hby := Bd.bytes
  have hml : c.maxLocals = 6 := hml0
  have hown : s.vm.findClass "java/lang/String" = some m.cls := findClass_of_methodNamed Bd.named
  have hnm := (name_of_methodNamed Bd.named Bd.method).1
  have X0 : Stand p l e ({ frames := 4, cells := 2, slots := 9, locals := 57 } : Room) s m #[(.ref x1), (.ref b1), (.int (0 : Int32)), (.int (3 : Int32)), .null] below meth c s₁ [] 0 0 := Stand.of_body Bd
  have e0 : s₁.heap = h0 := by rw [← hh, Bd.state]; rfl
  have N0 := Fr.nil n0
  have K0 := Keep.refl h0 [x1]
  have lt1 := own_lt E1.lt
  have lt1 := own_lt V1.lt
  have hbd : ∀ c ∈ ([c0, c1, c2] : List Int32), ¬ c < 0 ∧ ¬ (65535 : Int32) < c := by
    intro c hc
    simp only [List.mem_cons, List.not_mem_nil, or_false] at hc
    rcases hc with rfl | rfl | rfl
    · exact hb0
    · exact hb1
    · exact hb2
  show own_Fin p e below (s₁.setTop (entryFrame m #[(.ref x1), (.ref b1), (.int (0 : Int32)), (.int (3 : Int32)), .null] 6)) _
  refine own_gs (castTop (ef_own_u_new4_3 m x1 b1 (0 : Int32) (3 : Int32)) (Steps.refl _)) ?_
  show own_Fin p e below (s₁.setTop (mkF m 0 #[vr x1, vr b1, vi (0 : Int32), vi (3 : Int32), vn, uu] [])) _
  refine own_gs (cur' := s₁.setTop (mkF m 1 #[vr x1, vr b1, vi (0 : Int32), vi (3 : Int32), vn, uu] [(.ref x1)])) ?_ ?_
  · refine XS.aloadN X0.here hx rfl (hb hby d_jdk_42_m_149_0) rfl rfl ?_
    exact Steps.refl _
  obtain ⟨T11, X11, e11, st11⟩ := initO X0 hx hZ hown (hw _ (List.mem_of_getElem? (i := 12) rfl)) (hw _ (List.mem_of_getElem? (i := 13) rfl)) (hw _ (List.mem_of_getElem? (i := 14) rfl)) e0 (g := (mkF m 1 #[vr x1, vr b1, vi (0 : Int32), vi (3 : Int32), vn, uu] [(.ref x1)])) rfl (by rw [hml]; rfl) rfl (hb hby d_jdk_42_m_149_1) (by decide) (W := 0) (by show 2 * 0 + _ ≤ _; exact Nat.le_of_eq rfl) (by decide)
  refine own_go st11 ?_
  show own_Fin p e below (T11.setTop (mkF m 4 #[vr x1, vr b1, vi (0 : Int32), vi (3 : Int32), vn, uu] [])) _
  refine own_gs (cur' := T11.setTop (mkF m 27 #[vr x1, vr b1, vi (0 : Int32), vi (3 : Int32), vn, uu] [])) ?_ ?_
  · refine XS.iloadN X11.here hx rfl (hb hby d_jdk_42_m_149_4) rfl ?_
    refine XS.ifYes X11.here hx rfl (pc0 := 5) (pc' := 27) rfl (hb hby d_jdk_42_m_149_5) rfl ((if0 _ _).trans (feq ((by decide) : ¬ ((3 : Int32) = (0 : Int32)))).2) (by decide) (by decide) ?_
    exact Steps.refl _
  obtain ⟨T12, X12, e12, st12⟩ := getS2 X11 hx hZ hown (host := "") (Or.inl (hw _ (List.mem_of_getElem? (i := 23) rfl))) Via.refl e11 (O2.ext O0.2) (g := (mkF m 27 #[vr x1, vr b1, vi (0 : Int32), vi (3 : Int32), vn, uu] [])) rfl (hb hby d_jdk_42_m_149_27)
  refine own_go st12 ?_
  show own_Fin p e below (T12.setTop (mkF m 30 #[vr x1, vr b1, vi (0 : Int32), vi (3 : Int32), vn, uu] [(.int G1)])) _
  refine own_gs (cur' := T12.setTop (mkF m 36 #[vr x1, vr b1, vi (0 : Int32), vi (3 : Int32), vn, uu] [(.int (3 : Int32)), (.int (0 : Int32)), (.ref b1)])) ?_ ?_
  · refine XS.ifNo X12.here hx rfl (hb hby d_jdk_42_m_149_30) rfl ((if0 _ _).trans (feq (P5 : ¬ (G1 = (0 : Int32)))).1) ?_
    refine XS.aloadN X12.here hx rfl (hb hby d_jdk_42_m_149_33) rfl rfl ?_
    refine XS.iloadN X12.here hx rfl (hb hby d_jdk_42_m_149_34) rfl ?_
    show Steps p.tables e below (T12.setTop (mkF m 35 #[vr x1, vr b1, vi (0 : Int32), vi (3 : Int32), vn, uu] [(.int (0 : Int32)), (.ref b1)])) _
    refine XS.iloadN X12.here hx rfl (hb hby d_jdk_42_m_149_35) rfl ?_
    exact Steps.refl _
  obtain ⟨_, _, ⟨T13, L13, k13, n13⟩, -, X13, ⟨Lc13, hQ13, l13, y13, z13⟩, st13⟩ := Jvm.LawKit.callS X12 hx (y := (⟨"java/lang/StringUTF16", "compress", "([CII)[B"⟩ : MethodName)) hown (mvT hZ (hw _ (List.mem_of_getElem? (i := 24) rfl))) (mvT hZ (hw _ (List.mem_of_getElem? (i := 25) rfl))) (mvT hZ (hw _ (List.mem_of_getElem? (i := 26) rfl))) (mvT hZ (hw _ (List.mem_of_getElem? (i := 27) rfl))) (by decide) (backOf (W := 0) (own_u_cmpr3 l Z a0 hW b1 k1 c0 c1 c2 h0 n0 (by omega) O0 V1 hb0 hb1 hb2) hZ (hw _ (List.mem_of_getElem? (i := 27) rfl)) (hw _ (List.mem_of_getElem? (i := 26) rfl)) (by decide) (by decide)) (g := (mkF m 36 #[vr x1, vr b1, vi (0 : Int32), vi (3 : Int32), vn, uu] [(.int (3 : Int32)), (.int (0 : Int32)), (.ref b1)])) rfl (by rw [hml]; rfl) (argsL := [(.ref b1), (.int (0 : Int32)), (.int (3 : Int32))]) (rest := []) (lenOf pd_11 rfl) rfl (by show 2 * 0 + _ ≤ _; exact Nat.le_of_eq rfl) (hb hby d_jdk_42_m_149_36) (fun _ _ => ⟨rfl, e12, (by decide : 0 + 2 ≤ 2), (by decide : 0 + 9 ≤ 9)⟩)
  dsimp only [Pt.U, Pt.locs, Pt.cells, Pt.slots] at X13 l13 y13 z13 st13 hQ13
  subst l13 y13 z13
  obtain ⟨t13, kb13, rfl, Nq13, Kq13, ge13, hor⟩ := hQ13
  have N13 := Fr.app N0 Nq13
  have z14 := Kq13.1
  have K14 := K0.trans Kq13 all0
  have O14 := O0.keep Kq13 all0
  rcases hor with ⟨hal, Vt⟩ | ⟨hbig, Vt⟩
  · have ltt := own_lt Vt.lt
    refine own_go st13 ?_
    show own_Fin p e below (T13.setTop (mkF m 39 #[vr x1, vr b1, vi (0 : Int32), vi (3 : Int32), vn, uu] [(.ref t13)])) _
    refine own_gs (cur' := T13.setTop (mkF m 45 #[vr x1, vr b1, vi (0 : Int32), vi (3 : Int32), vn, vr t13] [(.int (3 : Int32)), (.ref t13), (.ref x1)])) ?_ ?_
    · refine XS.astore X13.here hx rfl (hb hby d_jdk_42_m_149_39) rfl rfl (l' := #[vr x1, vr b1, vi (0 : Int32), vi (3 : Int32), vn, vr t13]) rfl ?_
      refine XS.aloadN X13.here hx rfl (hb hby d_jdk_42_m_149_41) rfl rfl ?_
      refine XS.aload X13.here hx rfl (hb hby d_jdk_42_m_149_42) rfl rfl ?_
      show Steps p.tables e below (T13.setTop (mkF m 44 #[vr x1, vr b1, vi (0 : Int32), vi (3 : Int32), vn, vr t13] [(.ref t13), (.ref x1)])) _
      refine XS.iloadN X13.here hx rfl (hb hby d_jdk_42_m_149_44) rfl ?_
      exact Steps.refl _
    obtain ⟨_, _, ⟨T15, L15, k15, n15⟩, -, X15, ⟨Lc15, hQ15, l15, y15, z15⟩, st15⟩ := Jvm.LawKit.callS X13 hx (y := (⟨"java/lang/StringUTF16", "coderFromArrayLen", "([BI)B"⟩ : MethodName)) hown (mvT hZ (hw _ (List.mem_of_getElem? (i := 31) rfl))) (mvT hZ (hw _ (List.mem_of_getElem? (i := 32) rfl))) (mvT hZ (hw _ (List.mem_of_getElem? (i := 26) rfl))) (mvT hZ (hw _ (List.mem_of_getElem? (i := 33) rfl))) (by decide) (backOf (W := 1) (own_u_cfa3_0 l Z a0 hW t13 kb13 _ T13.heap n0 (by omega) O14 Vt) hZ (hw _ (List.mem_of_getElem? (i := 33) rfl)) (hw _ (List.mem_of_getElem? (i := 26) rfl)) (by decide) (by decide)) (g := (mkF m 45 #[vr x1, vr b1, vi (0 : Int32), vi (3 : Int32), vn, vr t13] [(.int (3 : Int32)), (.ref t13), (.ref x1)])) rfl (by rw [hml]; rfl) (argsL := [(.ref t13), (.int (3 : Int32))]) (rest := [(.ref x1)]) (lenOf pd_12 rfl) rfl (by show 2 * 0 + _ ≤ _; exact Nat.le_of_eq rfl) (hb hby d_jdk_42_m_149_45) (fun _ _ => ⟨rfl, rfl, (by decide : 2 + 0 ≤ 2), (by decide : 9 + 0 ≤ 9)⟩)
    dsimp only [Pt.U, Pt.locs, Pt.cells, Pt.slots] at X15 l15 y15 z15 st15 hQ15
    subst l15 y15 z15
    obtain ⟨rfl, Nq15, eh15⟩ := hQ15
    have N15 := Fr.app N13 Nq15
    refine own_go st15 ?_
    show own_Fin p e below (T15.setTop (mkF m 48 #[vr x1, vr b1, vi (0 : Int32), vi (3 : Int32), vn, vr t13] [(.int (0 : Int32)), (.ref x1)])) _
    have f17 := (Fc1.keep Kq13 nin0)
    have f18 := (E1.keep Kq13)
    obtain ⟨T16, h16, X16, e16, W16, st16⟩ := putF X15 hx hZ hown (host := "") (Or.inl (hw _ (List.mem_of_getElem? (i := 22) rfl))) Via.refl eh15 f17 f18 (Or.inr ⟨(hw _ (List.mem_of_getElem? (i := 18) rfl)), rfl, hnm⟩) (hw _ (List.mem_of_getElem? (i := 2) rfl)) (ty := .byte) (by decide) rfl rfl (g := (mkF m 48 #[vr x1, vr b1, vi (0 : Int32), vi (3 : Int32), vn, vr t13] [(.int (0 : Int32)), (.ref x1)])) rfl rfl (hb hby d_jdk_42_m_149_48)
    have F16 := f17.same W16
    refine own_go st16 ?_
    show own_Fin p e below (T16.setTop (mkF m 51 #[vr x1, vr b1, vi (0 : Int32), vi (3 : Int32), vn, vr t13] [])) _
    have z19 := W16.size
    have K19 := K14.wr W16 (Or.inl (List.mem_of_getElem? (i := 0) rfl))
    have O19 := O14.wr W16 (by omega)
    have N19 := Fr.snoc X16 N15 (by omega)
    refine own_gs (cur' := T16.setTop (mkF m 54 #[vr x1, vr b1, vi (0 : Int32), vi (3 : Int32), vn, vr t13] [(.ref t13), (.ref x1)])) ?_ ?_
    · refine XS.aloadN X16.here hx rfl (hb hby d_jdk_42_m_149_51) rfl rfl ?_
      refine XS.aload X16.here hx rfl (hb hby d_jdk_42_m_149_52) rfl rfl ?_
      exact Steps.refl _
    have f21 := ((Fv1.keep Kq13 nin0).other W16 (Or.inr (slot_ne (Or.inr (hw _ (List.mem_of_getElem? (i := 17) rfl))) (Or.inr (hw _ (List.mem_of_getElem? (i := 18) rfl))) (by decide) (t := (.array .byte)) (t' := .byte) (by decide) (by decide))))
    have f22 := (f18.wr W16)
    obtain ⟨T20, h20, X20, e20, W20, st20⟩ := putF X16 hx hZ hown (host := "") (Or.inl (hw _ (List.mem_of_getElem? (i := 21) rfl))) Via.refl e16 f21 f22 (Or.inr ⟨(hw _ (List.mem_of_getElem? (i := 17) rfl)), rfl, hnm⟩) (hw _ (List.mem_of_getElem? (i := 2) rfl)) (ty := (.array .byte)) (by decide) rfl rfl (g := (mkF m 54 #[vr x1, vr b1, vi (0 : Int32), vi (3 : Int32), vn, vr t13] [(.ref t13), (.ref x1)])) rfl rfl (hb hby d_jdk_42_m_149_54)
    have F20 := f21.same W20
    refine own_go st20 ?_
    show own_Fin p e below (T20.setTop (mkF m 57 #[vr x1, vr b1, vi (0 : Int32), vi (3 : Int32), vn, vr t13] [])) _
    have z23 := W20.size
    have K23 := K19.wr W20 (Or.inl (List.mem_of_getElem? (i := 0) rfl))
    have O23 := O19.wr W20 (by omega)
    have N23 := Fr.snoc X20 N19 (by omega)
    have f24 := (f22.wr W20)
    have f25 := (F16.other W20 (Or.inr (slot_ne (Or.inr (hw _ (List.mem_of_getElem? (i := 18) rfl))) (Or.inr (hw _ (List.mem_of_getElem? (i := 17) rfl))) (by decide) (t := .byte) (t' := (.array .byte)) (by decide) (by decide))))
    have f26 := ((Vt.other W16 (own_ne (a := t13) (b := x1) (by omega))).other W20 (own_ne (a := t13) (b := x1) (by omega)))
    obtain ⟨fs, hr, hrun, hended, hW1, hsame⟩ := X20.leave (v := none) (fun _ => rfl)
    refine ⟨_, _, X20.returnOut hx Bd.returns (hb hby d_jdk_42_m_149_57) hr, hrun, hended, _, _, rfl, ?_, ⟨_, rfl⟩, hW1, hsame.mono (by decide) (by decide)⟩
    show own_u_new4_3_Q Z x1 b1 v0 c0_ k1 c0 c1 c2 h0 n0 none T20.heap _
    rw [e20]
    exact ⟨rfl, N23, K23, t13, (by omega), ⟨_, _, _, _, f24, F20, f25, f26, Or.inl ⟨rfl, rfl, rfl, hal⟩, hbd, Nat.le_of_ble_eq_true rfl⟩⟩
  · have ltt := own_lt Vt.lt
    refine own_go st13 ?_
    show own_Fin p e below (T13.setTop (mkF m 39 #[vr x1, vr b1, vi (0 : Int32), vi (3 : Int32), vn, uu] [(.ref t13)])) _
    refine own_gs (cur' := T13.setTop (mkF m 45 #[vr x1, vr b1, vi (0 : Int32), vi (3 : Int32), vn, vr t13] [(.int (3 : Int32)), (.ref t13), (.ref x1)])) ?_ ?_
    · refine XS.astore X13.here hx rfl (hb hby d_jdk_42_m_149_39) rfl rfl (l' := #[vr x1, vr b1, vi (0 : Int32), vi (3 : Int32), vn, vr t13]) rfl ?_
      refine XS.aloadN X13.here hx rfl (hb hby d_jdk_42_m_149_41) rfl rfl ?_
      refine XS.aload X13.here hx rfl (hb hby d_jdk_42_m_149_42) rfl rfl ?_
      show Steps p.tables e below (T13.setTop (mkF m 44 #[vr x1, vr b1, vi (0 : Int32), vi (3 : Int32), vn, vr t13] [(.ref t13), (.ref x1)])) _
      refine XS.iloadN X13.here hx rfl (hb hby d_jdk_42_m_149_44) rfl ?_
      exact Steps.refl _
    obtain ⟨_, _, ⟨T27, L27, k27, n27⟩, -, X27, ⟨Lc27, hQ27, l27, y27, z27⟩, st27⟩ := Jvm.LawKit.callS X13 hx (y := (⟨"java/lang/StringUTF16", "coderFromArrayLen", "([BI)B"⟩ : MethodName)) hown (mvT hZ (hw _ (List.mem_of_getElem? (i := 31) rfl))) (mvT hZ (hw _ (List.mem_of_getElem? (i := 32) rfl))) (mvT hZ (hw _ (List.mem_of_getElem? (i := 26) rfl))) (mvT hZ (hw _ (List.mem_of_getElem? (i := 33) rfl))) (by decide) (backOf (W := 1) (own_u_cfa3_1 l Z a0 hW t13 kb13 _ T13.heap n0 (by omega) O14 Vt) hZ (hw _ (List.mem_of_getElem? (i := 33) rfl)) (hw _ (List.mem_of_getElem? (i := 26) rfl)) (by decide) (by decide)) (g := (mkF m 45 #[vr x1, vr b1, vi (0 : Int32), vi (3 : Int32), vn, vr t13] [(.int (3 : Int32)), (.ref t13), (.ref x1)])) rfl (by rw [hml]; rfl) (argsL := [(.ref t13), (.int (3 : Int32))]) (rest := [(.ref x1)]) (lenOf pd_12 rfl) rfl (by show 2 * 0 + _ ≤ _; exact Nat.le_of_eq rfl) (hb hby d_jdk_42_m_149_45) (fun _ _ => ⟨rfl, rfl, (by decide : 2 + 0 ≤ 2), (by decide : 9 + 0 ≤ 9)⟩)
    dsimp only [Pt.U, Pt.locs, Pt.cells, Pt.slots] at X27 l27 y27 z27 st27 hQ27
    subst l27 y27 z27
    obtain ⟨rfl, Nq27, eh27⟩ := hQ27
    have N27 := Fr.app N13 Nq27
    refine own_go st27 ?_
    show own_Fin p e below (T27.setTop (mkF m 48 #[vr x1, vr b1, vi (0 : Int32), vi (3 : Int32), vn, vr t13] [(.int (1 : Int32)), (.ref x1)])) _
    have f29 := (Fc1.keep Kq13 nin0)
    have f30 := (E1.keep Kq13)
    obtain ⟨T28, h28, X28, e28, W28, st28⟩ := putF X27 hx hZ hown (host := "") (Or.inl (hw _ (List.mem_of_getElem? (i := 22) rfl))) Via.refl eh27 f29 f30 (Or.inr ⟨(hw _ (List.mem_of_getElem? (i := 18) rfl)), rfl, hnm⟩) (hw _ (List.mem_of_getElem? (i := 2) rfl)) (ty := .byte) (by decide) rfl rfl (g := (mkF m 48 #[vr x1, vr b1, vi (0 : Int32), vi (3 : Int32), vn, vr t13] [(.int (1 : Int32)), (.ref x1)])) rfl rfl (hb hby d_jdk_42_m_149_48)
    have F28 := f29.same W28
    refine own_go st28 ?_
    show own_Fin p e below (T28.setTop (mkF m 51 #[vr x1, vr b1, vi (0 : Int32), vi (3 : Int32), vn, vr t13] [])) _
    have z31 := W28.size
    have K31 := K14.wr W28 (Or.inl (List.mem_of_getElem? (i := 0) rfl))
    have O31 := O14.wr W28 (by omega)
    have N31 := Fr.snoc X28 N27 (by omega)
    refine own_gs (cur' := T28.setTop (mkF m 54 #[vr x1, vr b1, vi (0 : Int32), vi (3 : Int32), vn, vr t13] [(.ref t13), (.ref x1)])) ?_ ?_
    · refine XS.aloadN X28.here hx rfl (hb hby d_jdk_42_m_149_51) rfl rfl ?_
      refine XS.aload X28.here hx rfl (hb hby d_jdk_42_m_149_52) rfl rfl ?_
      exact Steps.refl _
    have f33 := ((Fv1.keep Kq13 nin0).other W28 (Or.inr (slot_ne (Or.inr (hw _ (List.mem_of_getElem? (i := 17) rfl))) (Or.inr (hw _ (List.mem_of_getElem? (i := 18) rfl))) (by decide) (t := (.array .byte)) (t' := .byte) (by decide) (by decide))))
    have f34 := (f30.wr W28)
    obtain ⟨T32, h32, X32, e32, W32, st32⟩ := putF X28 hx hZ hown (host := "") (Or.inl (hw _ (List.mem_of_getElem? (i := 21) rfl))) Via.refl e28 f33 f34 (Or.inr ⟨(hw _ (List.mem_of_getElem? (i := 17) rfl)), rfl, hnm⟩) (hw _ (List.mem_of_getElem? (i := 2) rfl)) (ty := (.array .byte)) (by decide) rfl rfl (g := (mkF m 54 #[vr x1, vr b1, vi (0 : Int32), vi (3 : Int32), vn, vr t13] [(.ref t13), (.ref x1)])) rfl rfl (hb hby d_jdk_42_m_149_54)
    have F32 := f33.same W32
    refine own_go st32 ?_
    show own_Fin p e below (T32.setTop (mkF m 57 #[vr x1, vr b1, vi (0 : Int32), vi (3 : Int32), vn, vr t13] [])) _
    have z35 := W32.size
    have K35 := K31.wr W32 (Or.inl (List.mem_of_getElem? (i := 0) rfl))
    have O35 := O31.wr W32 (by omega)
    have N35 := Fr.snoc X32 N31 (by omega)
    have f36 := (f34.wr W32)
    have f37 := (F28.other W32 (Or.inr (slot_ne (Or.inr (hw _ (List.mem_of_getElem? (i := 18) rfl))) (Or.inr (hw _ (List.mem_of_getElem? (i := 17) rfl))) (by decide) (t := .byte) (t' := (.array .byte)) (by decide) (by decide))))
    have f38 := ((Vt.other W28 (own_ne (a := t13) (b := x1) (by omega))).other W32 (own_ne (a := t13) (b := x1) (by omega)))
    obtain ⟨fs, hr, hrun, hended, hW1, hsame⟩ := X32.leave (v := none) (fun _ => rfl)
    refine ⟨_, _, X32.returnOut hx Bd.returns (hb hby d_jdk_42_m_149_57) hr, hrun, hended, _, _, rfl, ?_, ⟨_, rfl⟩, hW1, hsame.mono (by decide) (by decide)⟩
    show own_u_new4_3_Q Z x1 b1 v0 c0_ k1 c0 c1 c2 h0 n0 none T32.heap _
    rw [e32]
    exact ⟨rfl, N35, K35, t13, (by omega), ⟨_, _, _, _, f36, F32, f37, f38, Or.inr ⟨rfl, rfl, rfl, hbig⟩, hbd, Nat.le_of_ble_eq_true rfl⟩⟩
def own_u_new1_3_Q (Z : State) (x1 b1 : Nat) (v0 c0_ : Value) (k1 : ClassId) (c0 c1 c2 : Int32) (h0 : Heap) (n0 : Nat) (v : Option Value) (h : Heap) (L : List Loc) : Prop := v = none ∧ Fr n0 L ∧ Keep h0 h [x1] ∧ ∃ t : Nat, x1 ≠ t ∧ own_Str Z h x1 t [c0, c1, c2]
theorem ef_own_u_new1_3 (m : MethodId) (x0 : Nat) (x1 : Nat) : entryFrame m #[(.ref x0), (.ref x1)] 2 = mkF m 0 #[vr x0, vr x1] [] := by first | (simp [entryFrame, mkF, argsToLocals, Value.category]; done) | rfl
set_option maxRecDepth 65536 in
set_option maxHeartbeats 40000000 in
theorem own_u_new1_3 (l : Launch) (Z : State) (a0 : Array Value) (hW : own_W Z a0) (x1 b1 : Nat) (v0 c0_ : Value) (k1 : ClassId) (c0 c1 c2 : Int32) (h0 : Heap) (n0 : Nat) (Z0 : n0 ≤ h0.size) (O0 : Old Z n0 h0) (E1 : Exa Z h0 x1 "java/lang/String") (Fv1 : Fld Z h0 x1 "java/lang/String" "value" "[B" v0) (Fc1 : Fld Z h0 x1 "java/lang/String" "coder" "B" c0_) (g1 : n0 ≤ x1) (V1 : Arv Z h0 b1 k1 .char (3 : Int32) [(.int c0), (.int c1), (.int c2)] (.int (0 : Int32))) (hb0 : ¬ c0 < 0 ∧ ¬ (65535 : Int32) < c0) (hb1 : ¬ c1 < 0 ∧ ¬ (65535 : Int32) < c1) (hb2 : ¬ c2 < 0 ∧ ¬ (65535 : Int32) < c2) :
    MetFree l (⟨"java/lang/String", "<init>", "([C)V"⟩ : MethodName) (head1 (Jvm.Cond.code (⟨"java/lang/String", "<init>", "([C)V"⟩ : MethodName) jdk_42_method_3_code 2 none :: []) ({ frames := 5, cells := 2, slots := 9, locals := 74 } : Room)) (fun a U => a = #[(.ref x1), (.ref b1)] ∧ Z.Warmed39 U.vm ∧ U.heap = h0) (fun _ _ _ _ _ => True) (fun _ U o U' => ∃ v L, o = .returned v ∧ own_u_new1_3_Q Z x1 b1 v0 c0_ k1 c0 c1 c2 h0 n0 v U'.heap L ∧ FrameEnd U o U' L ({ frames := 5, cells := 2, slots := 9, locals := 74 } : Room).cells ({ frames := 5, cells := 2, slots := 9, locals := 74 } : Room).slots) := by
  refine MetFree.of_bodySF (plainFor_of_name pn_java_lang_String) hisR ?_
  intro p e s m args below meth c s₁ Bd hml0 hP hK
  obtain ⟨rfl, hZ, hh⟩ := hP
  obtain ⟨hw, ⟨G1, O2, P5⟩, ⟨G3, O4, rG3⟩, Oa, Oh, Ol⟩ := id hW
  have hx := Bd.exec
  have hby := Bd.bytes
  have hml : c.maxLocals = 2 := hml0
  have hown : s.vm.findClass "java/lang/String" = some m.cls := findClass_of_methodNamed Bd.named
  have hnm := (name_of_methodNamed Bd.named Bd.method).1
  have X0 : Stand p l e ({ frames := 5, cells := 2, slots := 9, locals := 74 } : Room) s m #[(.ref x1), (.ref b1)] below meth c s₁ [] 0 0 := Stand.of_body Bd
  have e0 : s₁.heap = h0 := by rw [← hh, Bd.state]; rfl
  have N0 := Fr.nil n0
  have K0 := Keep.refl h0 [x1]
  have lt1 := own_lt E1.lt
  have lt1 := own_lt V1.lt
  show own_Fin p e below (s₁.setTop (entryFrame m #[(.ref x1), (.ref b1)] 2)) _
  refine own_gs (castTop (ef_own_u_new1_3 m x1 b1) (Steps.refl _)) ?_
  show own_Fin p e below (s₁.setTop (mkF m 0 #[vr x1, vr b1] [])) _
  refine own_gs (cur' := s₁.setTop (mkF m 4 #[vr x1, vr b1] [(.ref b1), (.int (0 : Int32)), (.ref b1), (.ref x1)])) ?_ ?_
  · refine XS.aloadN X0.here hx rfl (hb hby d_jdk_42_m_3_0) rfl rfl ?_
    refine XS.aloadN X0.here hx rfl (hb hby d_jdk_42_m_3_1) rfl rfl ?_
    refine XS.iconst X0.here hx rfl (hb hby d_jdk_42_m_3_2) ?_
    show Steps p.tables e below (s₁.setTop (mkF m 3 #[vr x1, vr b1] [(.int (0 : Int32)), (.ref b1), (.ref x1)])) _
    refine XS.aloadN X0.here hx rfl (hb hby d_jdk_42_m_3_3) rfl rfl ?_
    exact Steps.refl _
  obtain ⟨cl11, Ar11, q11, S11, M11, Hs11, G11⟩ := id V1
  refine own_go (X0.arraylength hx (by rw [e0]; exact Ar11.1) (State.isArrayOf_alike hZ.alike Ar11.2.1) (g := (mkF m 4 #[vr x1, vr b1] [(.ref b1), (.int (0 : Int32)), (.ref b1), (.ref x1)])) rfl rfl (hb hby d_jdk_42_m_3_4)) ?_
  rw [len_of S11 M11]
  show own_Fin p e below (s₁.setTop (mkF m 5 #[vr x1, vr b1] [(.int (3 : Int32)), (.int (0 : Int32)), (.ref b1), (.ref x1)])) _
  refine own_gs (cur' := s₁.setTop (mkF m 6 #[vr x1, vr b1] [.null, (.int (3 : Int32)), (.int (0 : Int32)), (.ref b1), (.ref x1)])) ?_ ?_
  · refine XS.aconstNull X0.here hx rfl (hb hby d_jdk_42_m_3_5) ?_
    exact Steps.refl _
  obtain ⟨_, _, ⟨T12, L12, k12, n12⟩, -, X12, ⟨Lc12, hQ12, l12, y12, z12⟩, st12⟩ := X0.specialBack hx (y := (⟨"java/lang/String", "<init>", "([CIILjava/lang/Void;)V"⟩ : MethodName)) rfl hown (mvT hZ (hw _ (List.mem_of_getElem? (i := 8) rfl))) (mvT hZ (hw _ (List.mem_of_getElem? (i := 9) rfl))) (mvT hZ (hw _ (List.mem_of_getElem? (i := 11) rfl))) (by decide) (backOf (W := 0) (own_u_new4_3 l Z a0 hW x1 b1 v0 c0_ k1 c0 c1 c2 h0 n0 (by omega) O0 E1 Fv1 Fc1 g1 V1 hb0 hb1 hb2) hZ (hw _ (List.mem_of_getElem? (i := 11) rfl)) (hw _ (List.mem_of_getElem? (i := 3) rfl)) (by decide) (by decide)) (g := (mkF m 6 #[vr x1, vr b1] [.null, (.int (3 : Int32)), (.int (0 : Int32)), (.ref b1), (.ref x1)])) rfl (by rw [hml]; rfl) (Steps.refl _) (a := x1) (argsL := [(.ref b1), (.int (0 : Int32)), (.int (3 : Int32)), .null]) (rest := []) (lenOf pd_0 rfl) rfl (by show 2 * 0 + _ ≤ _; exact Nat.le_of_eq rfl) (hb hby d_jdk_42_m_3_6) (fun _ _ => ⟨rfl, e0, (by decide : 0 + 2 ≤ 2), (by decide : 0 + 9 ≤ 9)⟩)
  dsimp only [Pt.U, Pt.locs, Pt.cells, Pt.slots] at X12 l12 y12 z12 st12 hQ12
  subst l12 y12 z12
  obtain ⟨rfl, Nq12, Kq12, tq, hne, F12⟩ := hQ12
  have N12 := Fr.app N0 Nq12
  have z13 := Kq12.1
  have K13 := K0.trans Kq12 (allS (Or.inl (List.mem_of_getElem? (i := 0) rfl)) all0)
  have O13 := O0.keep Kq12 (allS (by omega) all0)
  refine own_gs st12 ?_
  show own_Fin p e below (T12.setTop (mkF m 9 #[vr x1, vr b1] [])) _
  obtain ⟨fs, hr, hrun, hended, hW1, hsame⟩ := X12.leave (v := none) (fun _ => rfl)
  refine ⟨_, _, X12.returnOut hx Bd.returns (hb hby d_jdk_42_m_3_9) hr, hrun, hended, _, _, rfl, ?_, ⟨_, rfl⟩, hW1, hsame.mono (by decide) (by decide)⟩
  show own_u_new1_3_Q Z x1 b1 v0 c0_ k1 c0 c1 c2 h0 n0 none T12.heap _
  exact ⟨rfl, N12, K13, tq, hne, F12⟩
def own_u_nbl4_Q (Z : State)  (h0 : Heap) (n0 : Nat) (v : Option Value) (h : Heap) (L : List Loc) : Prop := v = (some (.int (8 : Int32))) ∧ Fr n0 L ∧ h = h0
theorem ef_own_u_nbl4 (m : MethodId) (x0 : Int32) : entryFrame m #[(.int x0)] 1 = mkF m 0 #[vi x0] [] := by first | (simp [entryFrame, mkF, argsToLocals, Value.category]; done) | rfl
set_option maxRecDepth 65536 in
set_option maxHeartbeats 40000000 in
theorem own_u_nbl4 (l : Launch) (Z : State) (a0 : Array Value) (hW : own_W Z a0)  (h0 : Heap) (n0 : Nat) (Z0 : n0 ≤ h0.size) (O0 : Old Z n0 h0)  :
    MetFree l (⟨"java/lang/StringUTF16", "newBytesLength", "(I)I"⟩ : MethodName) (head1 (Jvm.Cond.code (⟨"java/lang/StringUTF16", "newBytesLength", "(I)I"⟩ : MethodName) jdk_52_method_3_code 1 (some .int) :: []) ({ frames := 0, cells := 0, slots := 0, locals := 0 } : Room)) (fun a U => a = #[(.int (4 : Int32))] ∧ Z.Warmed39 U.vm ∧ U.heap = h0) (fun _ _ _ _ _ => True) (fun _ U o U' => ∃ v L, o = .returned v ∧ own_u_nbl4_Q Z  h0 n0 v U'.heap L ∧ FrameEnd U o U' L ({ frames := 0, cells := 0, slots := 0, locals := 0 } : Room).cells ({ frames := 0, cells := 0, slots := 0, locals := 0 } : Room).slots) := by
  refine MetFree.of_bodySF (plainFor_of_name pn_java_lang_StringUTF16) hisR ?_
  intro p e s m args below meth c s₁ Bd hml0 hP hK
  obtain ⟨rfl, hZ, hh⟩ := hP
  obtain ⟨hw, ⟨G1, O2, P5⟩, ⟨G3, O4, rG3⟩, Oa, Oh, Ol⟩ := id hW
  have hx := Bd.exec
  have hby := Bd.bytes
  have hml : c.maxLocals = 1 := hml0
  have hown : s.vm.findClass "java/lang/StringUTF16" = some m.cls := findClass_of_methodNamed Bd.named
  have hnm := (name_of_methodNamed Bd.named Bd.method).1
  have X0 : Stand p l e ({ frames := 0, cells := 0, slots := 0, locals := 0 } : Room) s m #[(.int (4 : Int32))] below meth c s₁ [] 0 0 := Stand.of_body Bd
  have e0 : s₁.heap = h0 := by rw [← hh, Bd.state]; rfl
  have N0 := Fr.nil n0
  have K0 := Keep.refl h0 []
  show own_Fin p e below (s₁.setTop (entryFrame m #[(.int (4 : Int32))] 1)) _
  refine own_gs (castTop (ef_own_u_nbl4 m (4 : Int32)) (Steps.refl _)) ?_
  show own_Fin p e below (s₁.setTop (mkF m 0 #[vi (4 : Int32)] [])) _
  refine own_gs (cur' := s₁.setTop (mkF m 58 #[vi (4 : Int32)] [(.int (8 : Int32))])) ?_ ?_
  · refine XS.iloadN X0.here hx rfl (hb hby d_jdk_52_m_3_0) rfl ?_
    refine XS.ifYes X0.here hx rfl (pc0 := 1) (pc' := 12) rfl (hb hby d_jdk_52_m_3_1) rfl ((if0 _ _).trans (flt ((by decide) : ¬ ((4 : Int32) < (0 : Int32)))).2.1) (by decide) (by decide) ?_
    refine XS.iloadN X0.here hx rfl (hb hby d_jdk_52_m_3_12) rfl ?_
    show Steps p.tables e below (s₁.setTop (mkF m 13 #[vi (4 : Int32)] [(.int (4 : Int32))])) _
    refine X0.ldcInt hx hown (mvT hZ (hw _ (List.mem_of_getElem? (i := 83) rfl))) (g := (mkF m 13 #[vi (4 : Int32)] [(.int (4 : Int32))])) rfl (hb hby d_jdk_52_m_3_13) _ ?_
    refine XS.icmpYes X0.here hx rfl (pc0 := 15) (pc' := 55) rfl (hb hby d_jdk_52_m_3_15) rfl (tlt ((by decide) : (4 : Int32) < (1073741823 : Int32))).1 (by decide) (by decide) ?_
    refine XS.iloadN X0.here hx rfl (hb hby d_jdk_52_m_3_55) rfl ?_
    show Steps p.tables e below (s₁.setTop (mkF m 56 #[vi (4 : Int32)] [(.int (4 : Int32))])) _
    refine XS.iconst X0.here hx rfl (hb hby d_jdk_52_m_3_56) ?_
    refine XS.ishl X0.here hx rfl (hb hby d_jdk_52_m_3_57) rfl ?_
    exact Steps.refl _
  obtain ⟨fs, hr, hrun, hended, hW1, hsame⟩ := X0.leave (v := (some (.int (8 : Int32)))) (fun h => by rw [Bd.returns] at h; cases h)
  refine ⟨_, _, retI X0 hx Bd.returns (hb hby d_jdk_52_m_3_58) hr, hrun, hended, _, _, rfl, ?_, ⟨_, rfl⟩, hW1, hsame.mono (by decide) (by decide)⟩
  show own_u_nbl4_Q Z  h0 n0 (some (.int (8 : Int32))) s₁.heap _
  rw [e0]
  exact ⟨rfl, N0, rfl⟩
def own_u_nbf4_Q (Z : State)  (h0 : Heap) (n0 : Nat) (v : Option Value) (h : Heap) (L : List Loc) : Prop := ∃ (t : Nat) (kb : ClassId), v = some (.ref t) ∧ Fr n0 L ∧ Keep h0 h [] ∧ Arv Z h t kb .byte (8 : Int32) [(.int (0 : Int32)), (.int (0 : Int32)), (.int (0 : Int32)), (.int (0 : Int32)), (.int (0 : Int32)), (.int (0 : Int32)), (.int (0 : Int32)), (.int (0 : Int32))] (.int (0 : Int32)) ∧ h0.size ≤ t
theorem ef_own_u_nbf4 (m : MethodId) (x0 : Int32) : entryFrame m #[(.int x0)] 1 = mkF m 0 #[vi x0] [] := by first | (simp [entryFrame, mkF, argsToLocals, Value.category]; done) | rfl
set_option maxRecDepth 65536 in
set_option maxHeartbeats 40000000 in
theorem own_u_nbf4 (l : Launch) (Z : State) (a0 : Array Value) (hW : own_W Z a0)  (h0 : Heap) (n0 : Nat) (Z0 : n0 ≤ h0.size) (O0 : Old Z n0 h0)  :
    MetFree l (⟨"java/lang/StringUTF16", "newBytesFor", "(I)[B"⟩ : MethodName) (head1 (Jvm.Cond.code (⟨"java/lang/StringUTF16", "newBytesFor", "(I)[B"⟩ : MethodName) jdk_52_method_2_code 1 (some (.array .byte)) :: []) ({ frames := 1, cells := 1, slots := 8, locals := 12 } : Room)) (fun a U => a = #[(.int (4 : Int32))] ∧ Z.Warmed39 U.vm ∧ U.heap = h0) (fun _ _ _ _ _ => True) (fun _ U o U' => ∃ v L, o = .returned v ∧ own_u_nbf4_Q Z  h0 n0 v U'.heap L ∧ FrameEnd U o U' L ({ frames := 1, cells := 1, slots := 8, locals := 12 } : Room).cells ({ frames := 1, cells := 1, slots := 8, locals := 12 } : Room).slots) := by
  refine MetFree.of_bodySF (plainFor_of_name pn_java_lang_StringUTF16) hisR ?_
  intro p e s m args below meth c s₁ Bd hml0 hP hK
  obtain ⟨rfl, hZ, hh⟩ := hP
  obtain ⟨hw, ⟨G1, O2, P5⟩, ⟨G3, O4, rG3⟩, Oa, Oh, Ol⟩ := id hW
  have hx := Bd.exec
  have hby := Bd.bytes
  have hml : c.maxLocals = 1 := hml0
  have hown : s.vm.findClass "java/lang/StringUTF16" = some m.cls := findClass_of_methodNamed Bd.named
  have hnm := (name_of_methodNamed Bd.named Bd.method).1
  have X0 : Stand p l e ({ frames := 1, cells := 1, slots := 8, locals := 12 } : Room) s m #[(.int (4 : Int32))] below meth c s₁ [] 0 0 := Stand.of_body Bd
  have e0 : s₁.heap = h0 := by rw [← hh, Bd.state]; rfl
  have N0 := Fr.nil n0
  have K0 := Keep.refl h0 []
  show own_Fin p e below (s₁.setTop (entryFrame m #[(.int (4 : Int32))] 1)) _
  refine own_gs (castTop (ef_own_u_nbf4 m (4 : Int32)) (Steps.refl _)) ?_
  show own_Fin p e below (s₁.setTop (mkF m 0 #[vi (4 : Int32)] [])) _
  refine own_gs (cur' := s₁.setTop (mkF m 1 #[vi (4 : Int32)] [(.int (4 : Int32))])) ?_ ?_
  · refine XS.iloadN X0.here hx rfl (hb hby d_jdk_52_m_2_0) rfl ?_
    exact Steps.refl _
  obtain ⟨_, _, ⟨T11, L11, k11, n11⟩, -, X11, ⟨Lc11, hQ11, l11, y11, z11⟩, st11⟩ := Jvm.LawKit.callS X0 hx (y := (⟨"java/lang/StringUTF16", "newBytesLength", "(I)I"⟩ : MethodName)) hown (mvT hZ (hw _ (List.mem_of_getElem? (i := 80) rfl))) (mvT hZ (hw _ (List.mem_of_getElem? (i := 81) rfl))) (mvT hZ (hw _ (List.mem_of_getElem? (i := 26) rfl))) (mvT hZ (hw _ (List.mem_of_getElem? (i := 82) rfl))) (by decide) (backOf (W := 0) (own_u_nbl4 l Z a0 hW h0 n0 (by omega) O0) hZ (hw _ (List.mem_of_getElem? (i := 82) rfl)) (hw _ (List.mem_of_getElem? (i := 26) rfl)) (by decide) (by decide)) (g := (mkF m 1 #[vi (4 : Int32)] [(.int (4 : Int32))])) rfl (by rw [hml]; rfl) (argsL := [(.int (4 : Int32))]) (rest := []) (lenOf pd_7 rfl) rfl (by show 2 * 0 + _ ≤ _; exact Nat.le_of_eq rfl) (hb hby d_jdk_52_m_2_1) (fun _ _ => ⟨rfl, e0, (by decide : 0 + 0 ≤ 1), (by decide : 0 + 0 ≤ 8)⟩)
  dsimp only [Pt.U, Pt.locs, Pt.cells, Pt.slots] at X11 l11 y11 z11 st11 hQ11
  subst l11 y11 z11
  obtain ⟨rfl, Nq11, eh11⟩ := hQ11
  have N11 := Fr.app N0 Nq11
  refine own_go st11 ?_
  show own_Fin p e below (T11.setTop (mkF m 4 #[vi (4 : Int32)] [(.int (8 : Int32))])) _
  obtain ⟨T12, h12, k12, X12, e12, E12, A12, st12⟩ := newP X11 hx hZ (hw _ (List.mem_of_getElem? (i := 16) rfl)) eh11 (g := (mkF m 4 #[vi (4 : Int32)] [(.int (8 : Int32))])) rfl (hb hby d_jdk_52_m_2_4) rfl (by decide) (cap := 8) (by decide) (by decide) (by decide) (by decide)
  obtain ⟨b12, g12⟩ : ∃ z, z = h0.size := ⟨_, rfl⟩
  rw [← g12] at A12 st12
  have lt12 := own_lt A12.lt
  refine own_go st12 ?_
  show own_Fin p e below (T12.setTop (mkF m 6 #[vi (4 : Int32)] [(.ref b12)])) _
  have z13 := E12.1
  have K13 := K0.ext E12
  have O13 := O0.ext E12
  have V12 : Arv Z h12 b12 k12 .byte (8 : Int32) [(.int (0 : Int32)), (.int (0 : Int32)), (.int (0 : Int32)), (.int (0 : Int32)), (.int (0 : Int32)), (.int (0 : Int32)), (.int (0 : Int32)), (.int (0 : Int32))] (.int (0 : Int32)) := (Arv.new A12 (by decide)).pad (pad_rep [] (.int (0 : Int32)) 8)
  obtain ⟨fs, hr, hrun, hended, hW1, hsame⟩ := X12.leave (v := (some (.ref b12))) (fun h => by rw [Bd.returns] at h; cases h)
  refine ⟨_, _, X12.areturnOut hx rfl Bd.returns rfl (hb hby d_jdk_52_m_2_6) hr, hrun, hended, _, _, rfl, ?_, ⟨_, rfl⟩, hW1, hsame.mono (by decide) (by decide)⟩
  show own_u_nbf4_Q Z  h0 n0 (some (.ref b12)) T12.heap _
  rw [e12]
  exact ⟨_, _, rfl, N11, K13, V12, (by omega)⟩
def own_u_tob4_Q (Z : State) (b1 : Nat) (k1 : ClassId) (c0 c1 c2 c3 : Int32) (h0 : Heap) (n0 : Nat) (v : Option Value) (h : Heap) (L : List Loc) : Prop := ∃ (t : Nat) (kb : ClassId), v = some (.ref t) ∧ Fr n0 L ∧ Keep h0 h [] ∧ Arv Z h t kb .byte (8 : Int32) (StrChars.Road.wideBytes [c0, c1, c2, c3]) (.int (0 : Int32)) ∧ h0.size ≤ t
theorem ef_own_u_tob4 (m : MethodId) (x0 : Nat) (x1 : Int32) (x2 : Int32) : entryFrame m #[(.ref x0), (.int x1), (.int x2)] 5 = mkF m 0 #[vr x0, vi x1, vi x2, .unset, .unset] [] := by first | (simp [entryFrame, mkF, argsToLocals, Value.category]; done) | rfl
set_option maxRecDepth 65536 in
set_option maxHeartbeats 40000000 in
theorem own_u_tob4 (l : Launch) (Z : State) (a0 : Array Value) (hW : own_W Z a0) (b1 : Nat) (k1 : ClassId) (c0 c1 c2 c3 : Int32) (h0 : Heap) (n0 : Nat) (Z0 : n0 ≤ h0.size) (O0 : Old Z n0 h0) (V1 : Arv Z h0 b1 k1 .char (4 : Int32) [(.int c0), (.int c1), (.int c2), (.int c3)] (.int (0 : Int32))) :
    MetFree l (⟨"java/lang/StringUTF16", "toBytes", "([CII)[B"⟩ : MethodName) (head1 (Jvm.Cond.code (⟨"java/lang/StringUTF16", "toBytes", "([CII)[B"⟩ : MethodName) jdk_52_method_14_code 5 (some (.array .byte)) :: []) ({ frames := 2, cells := 1, slots := 8, locals := 24 } : Room)) (fun a U => a = #[(.ref b1), (.int (0 : Int32)), (.int (4 : Int32))] ∧ Z.Warmed39 U.vm ∧ U.heap = h0) (fun _ _ _ _ _ => True) (fun _ U o U' => ∃ v L, o = .returned v ∧ own_u_tob4_Q Z b1 k1 c0 c1 c2 c3 h0 n0 v U'.heap L ∧ FrameEnd U o U' L ({ frames := 2, cells := 1, slots := 8, locals := 24 } : Room).cells ({ frames := 2, cells := 1, slots := 8, locals := 24 } : Room).slots) := by
  refine MetFree.of_bodySF (plainFor_of_name pn_java_lang_StringUTF16) hisR ?_
  intro p e s m args below meth c s₁ Bd hml0 hP hK
  obtain ⟨rfl, hZ, hh⟩ := hP
  obtain ⟨hw, ⟨G1, O2, P5⟩, ⟨G3, O4, rG3⟩, Oa, Oh, Ol⟩ := id hW
  have hx := Bd.exec
  have hby := Bd.bytes
  have hml : c.maxLocals = 5 := hml0
  have hown : s.vm.findClass "java/lang/StringUTF16" = some m.cls := findClass_of_methodNamed Bd.named
  have hnm := (name_of_methodNamed Bd.named Bd.method).1
  have X0 : Stand p l e ({ frames := 2, cells := 1, slots := 8, locals := 24 } : Room) s m #[(.ref b1), (.int (0 : Int32)), (.int (4 : Int32))] below meth c s₁ [] 0 0 := Stand.of_body Bd
  have e0 : s₁.heap = h0 := by rw [← hh, Bd.state]; rfl
  have N0 := Fr.nil n0
  have K0 := Keep.refl h0 []
  have lt1 := own_lt V1.lt
  show own_Fin p e below (s₁.setTop (entryFrame m #[(.ref b1), (.int (0 : Int32)), (.int (4 : Int32))] 5)) _
  refine own_gs (castTop (ef_own_u_tob4 m b1 (0 : Int32) (4 : Int32)) (Steps.refl _)) ?_
  show own_Fin p e below (s₁.setTop (mkF m 0 #[vr b1, vi (0 : Int32), vi (4 : Int32), uu, uu] [])) _
  refine own_gs (cur' := s₁.setTop (mkF m 1 #[vr b1, vi (0 : Int32), vi (4 : Int32), uu, uu] [(.int (4 : Int32))])) ?_ ?_
  · refine XS.iloadN X0.here hx rfl (hb hby d_jdk_52_m_14_0) rfl ?_
    exact Steps.refl _
  obtain ⟨_, _, ⟨T11, L11, k11, n11⟩, -, X11, ⟨Lc11, hQ11, l11, y11, z11⟩, st11⟩ := Jvm.LawKit.callS X0 hx (y := (⟨"java/lang/StringUTF16", "newBytesFor", "(I)[B"⟩ : MethodName)) hown (mvT hZ (hw _ (List.mem_of_getElem? (i := 77) rfl))) (mvT hZ (hw _ (List.mem_of_getElem? (i := 78) rfl))) (mvT hZ (hw _ (List.mem_of_getElem? (i := 26) rfl))) (mvT hZ (hw _ (List.mem_of_getElem? (i := 79) rfl))) (by decide) (backOf (W := 0) (own_u_nbf4 l Z a0 hW h0 n0 (by omega) O0) hZ (hw _ (List.mem_of_getElem? (i := 79) rfl)) (hw _ (List.mem_of_getElem? (i := 26) rfl)) (by decide) (by decide)) (g := (mkF m 1 #[vr b1, vi (0 : Int32), vi (4 : Int32), uu, uu] [(.int (4 : Int32))])) rfl (by rw [hml]; rfl) (argsL := [(.int (4 : Int32))]) (rest := []) (lenOf pd_8 rfl) rfl (by show 2 * 0 + _ ≤ _; exact Nat.le_of_eq rfl) (hb hby d_jdk_52_m_14_1) (fun _ _ => ⟨rfl, e0, (by decide : 0 + 1 ≤ 1), (by decide : 0 + 8 ≤ 8)⟩)
  dsimp only [Pt.U, Pt.locs, Pt.cells, Pt.slots] at X11 l11 y11 z11 st11 hQ11
  subst l11 y11 z11
  obtain ⟨t11, kb11, rfl, Nq11, Kq11, Vt11, ge11⟩ := hQ11
  have N11 := Fr.app N0 Nq11
  have z12 := Kq11.1
  have K12 := K0.trans Kq11 all0
  have O12 := O0.keep Kq11 all0
  have lt11 := own_lt Vt11.lt
  refine own_go st11 ?_
  show own_Fin p e below (T11.setTop (mkF m 4 #[vr b1, vi (0 : Int32), vi (4 : Int32), uu, uu] [(.ref t11)])) _
  refine own_gs (cur' := T11.setTop (mkF m 19 #[vr b1, vi (0 : Int32), vi (4 : Int32), vr t11, vi (0 : Int32)] [(.int (0 : Int32)), (.ref b1), (.int (0 : Int32)), (.ref t11)])) ?_ ?_
  · refine XS.astoreN X11.here hx rfl (hb hby d_jdk_52_m_14_4) rfl rfl (l' := #[vr b1, vi (0 : Int32), vi (4 : Int32), vr t11, uu]) rfl ?_
    refine XS.iconst X11.here hx rfl (hb hby d_jdk_52_m_14_5) ?_
    refine XS.istore X11.here hx rfl (hb hby d_jdk_52_m_14_6) rfl (l' := #[vr b1, vi (0 : Int32), vi (4 : Int32), vr t11, vi (0 : Int32)]) rfl ?_
    show Steps p.tables e below (T11.setTop (mkF m 8 #[vr b1, vi (0 : Int32), vi (4 : Int32), vr t11, vi (0 : Int32)] [])) _
    refine XS.iload X11.here hx rfl (hb hby d_jdk_52_m_14_8) rfl ?_
    refine XS.iloadN X11.here hx rfl (hb hby d_jdk_52_m_14_10) rfl ?_
    refine XS.icmpNo X11.here hx rfl (hb hby d_jdk_52_m_14_11) rfl (tlt ((by decide) : (0 : Int32) < (4 : Int32))).2.1 ?_
    show Steps p.tables e below (T11.setTop (mkF m 14 #[vr b1, vi (0 : Int32), vi (4 : Int32), vr t11, vi (0 : Int32)] [])) _
    refine XS.aloadN X11.here hx rfl (hb hby d_jdk_52_m_14_14) rfl rfl ?_
    refine XS.iload X11.here hx rfl (hb hby d_jdk_52_m_14_15) rfl ?_
    refine XS.aloadN X11.here hx rfl (hb hby d_jdk_52_m_14_17) rfl rfl ?_
    show Steps p.tables e below (T11.setTop (mkF m 18 #[vr b1, vi (0 : Int32), vi (4 : Int32), vr t11, vi (0 : Int32)] [(.ref b1), (.int (0 : Int32)), (.ref t11)])) _
    refine XS.iloadN X11.here hx rfl (hb hby d_jdk_52_m_14_18) rfl ?_
    exact Steps.refl _
  have f14 := (V1.keep Kq11 nin0)
  obtain ⟨cl13, Ar13, q13, S13, M13, Hs13, G13⟩ := id f14
  have hin13 : ¬ ((0 : Int32) < 0 ∨ cl13.slots.size ≤ ((0 : Int32)).toNatClampNeg) := inb_of S13 ⟨by decide, by decide⟩
  have hat13 : cl13.slots[((0 : Int32)).toNatClampNeg]? = some (.int c0) := Has.at Hs13 hin13 rfl
  refine own_go (X11.caload hx (j := (0 : Int32)) (v := (.int c0)) (by exact Ar13.1) (State.isArrayOf_alike hZ.alike Ar13.2.1) Ar13.2.2 hin13 hat13 (g := (mkF m 19 #[vr b1, vi (0 : Int32), vi (4 : Int32), vr t11, vi (0 : Int32)] [(.int (0 : Int32)), (.ref b1), (.int (0 : Int32)), (.ref t11)])) rfl rfl (hb hby d_jdk_52_m_14_19)) ?_
  show own_Fin p e below (T11.setTop (mkF m 20 #[vr b1, vi (0 : Int32), vi (4 : Int32), vr t11, vi (0 : Int32)] [(.int c0), (.int (0 : Int32)), (.ref t11)])) _
  obtain ⟨_, _, ⟨T15, L15, k15, n15⟩, -, X15, ⟨Lc15, hQ15, l15, y15, z15⟩, st15⟩ := Jvm.LawKit.callS X11 hx (y := (⟨"java/lang/StringUTF16", "putChar", "([BII)V"⟩ : MethodName)) hown (mvT hZ (hw _ (List.mem_of_getElem? (i := 84) rfl))) (mvT hZ (hw _ (List.mem_of_getElem? (i := 85) rfl))) (mvT hZ (hw _ (List.mem_of_getElem? (i := 26) rfl))) (mvT hZ (hw _ (List.mem_of_getElem? (i := 86) rfl))) (by decide) (backOf (W := 0) (own_u_putc l Z a0 hW t11 kb11 4 0 [(.int (0 : Int32)), (.int (0 : Int32)), (.int (0 : Int32)), (.int (0 : Int32)), (.int (0 : Int32)), (.int (0 : Int32)), (.int (0 : Int32)), (.int (0 : Int32))] c0 T11.heap n0 (by omega) O12 (by decide) (by decide) rfl (by omega) Vt11) hZ (hw _ (List.mem_of_getElem? (i := 86) rfl)) (hw _ (List.mem_of_getElem? (i := 26) rfl)) (by decide) (by decide)) (g := (mkF m 20 #[vr b1, vi (0 : Int32), vi (4 : Int32), vr t11, vi (0 : Int32)] [(.int c0), (.int (0 : Int32)), (.ref t11)])) rfl (by rw [hml]; rfl) (argsL := [(.ref t11), (.int (0 : Int32)), (.int c0)]) (rest := []) (lenOf pd_9 rfl) rfl (by show 2 * 0 + _ ≤ _; exact Nat.le_of_eq rfl) (hb hby d_jdk_52_m_14_20) (fun _ _ => ⟨rfl, rfl, (by decide : 1 + 0 ≤ 1), (by decide : 8 + 0 ≤ 8)⟩)
  dsimp only [Pt.U, Pt.locs, Pt.cells, Pt.slots] at X15 l15 y15 z15 st15 hQ15
  subst l15 y15 z15
  obtain ⟨rfl, Nq15, Kq15, Vt15⟩ := hQ15
  have N15 := Fr.app N11 Nq15
  have z16 := Kq15.1
  have K16 := K12.trans Kq15 (allS (Or.inr (by omega)) all0)
  have O16 := O12.keep Kq15 (allS (by omega) all0)
  have Vu15 : Arv Z T15.heap t11 kb11 .byte (8 : Int32) [(.int (StrChars.lo8 c0)), (.int (StrChars.hi8 c0)), (.int (0 : Int32)), (.int (0 : Int32)), (.int (0 : Int32)), (.int (0 : Int32)), (.int (0 : Int32)), (.int (0 : Int32))] (.int (0 : Int32)) := Vt15
  refine own_go st15 ?_
  show own_Fin p e below (T15.setTop (mkF m 23 #[vr b1, vi (0 : Int32), vi (4 : Int32), vr t11, vi (0 : Int32)] [])) _
  refine own_gs (cur' := T15.setTop (mkF m 19 #[vr b1, vi (1 : Int32), vi (4 : Int32), vr t11, vi (1 : Int32)] [(.int (1 : Int32)), (.ref b1), (.int (1 : Int32)), (.ref t11)])) ?_ ?_
  · refine XS.iinc X15.here hx rfl (hb hby d_jdk_52_m_14_23) rfl (l' := #[vr b1, vi (1 : Int32), vi (4 : Int32), vr t11, vi (0 : Int32)]) rfl ?_
    refine XS.iinc X15.here hx rfl (hb hby d_jdk_52_m_14_26) rfl (l' := #[vr b1, vi (1 : Int32), vi (4 : Int32), vr t11, vi (1 : Int32)]) rfl ?_
    refine XS.goto X15.here hx rfl (pc0 := 29) (pc' := 8) rfl (hb hby d_jdk_52_m_14_29) (by decide) (by decide) ?_
    show Steps p.tables e below (T15.setTop (mkF m 8 #[vr b1, vi (1 : Int32), vi (4 : Int32), vr t11, vi (1 : Int32)] [])) _
    refine XS.iload X15.here hx rfl (hb hby d_jdk_52_m_14_8) rfl ?_
    refine XS.iloadN X15.here hx rfl (hb hby d_jdk_52_m_14_10) rfl ?_
    refine XS.icmpNo X15.here hx rfl (hb hby d_jdk_52_m_14_11) rfl (tlt ((by decide) : (1 : Int32) < (4 : Int32))).2.1 ?_
    show Steps p.tables e below (T15.setTop (mkF m 14 #[vr b1, vi (1 : Int32), vi (4 : Int32), vr t11, vi (1 : Int32)] [])) _
    refine XS.aloadN X15.here hx rfl (hb hby d_jdk_52_m_14_14) rfl rfl ?_
    refine XS.iload X15.here hx rfl (hb hby d_jdk_52_m_14_15) rfl ?_
    refine XS.aloadN X15.here hx rfl (hb hby d_jdk_52_m_14_17) rfl rfl ?_
    show Steps p.tables e below (T15.setTop (mkF m 18 #[vr b1, vi (1 : Int32), vi (4 : Int32), vr t11, vi (1 : Int32)] [(.ref b1), (.int (1 : Int32)), (.ref t11)])) _
    refine XS.iloadN X15.here hx rfl (hb hby d_jdk_52_m_14_18) rfl ?_
    exact Steps.refl _
  have f18 := (f14.keep Kq15 (ninS (own_ne (a := b1) (b := t11) (by omega)) nin0))
  obtain ⟨cl17, Ar17, q17, S17, M17, Hs17, G17⟩ := id f18
  have hin17 : ¬ ((1 : Int32) < 0 ∨ cl17.slots.size ≤ ((1 : Int32)).toNatClampNeg) := inb_of S17 ⟨by decide, by decide⟩
  have hat17 : cl17.slots[((1 : Int32)).toNatClampNeg]? = some (.int c1) := Has.at Hs17 hin17 rfl
  refine own_go (X15.caload hx (j := (1 : Int32)) (v := (.int c1)) (by exact Ar17.1) (State.isArrayOf_alike hZ.alike Ar17.2.1) Ar17.2.2 hin17 hat17 (g := (mkF m 19 #[vr b1, vi (1 : Int32), vi (4 : Int32), vr t11, vi (1 : Int32)] [(.int (1 : Int32)), (.ref b1), (.int (1 : Int32)), (.ref t11)])) rfl rfl (hb hby d_jdk_52_m_14_19)) ?_
  show own_Fin p e below (T15.setTop (mkF m 20 #[vr b1, vi (1 : Int32), vi (4 : Int32), vr t11, vi (1 : Int32)] [(.int c1), (.int (1 : Int32)), (.ref t11)])) _
  obtain ⟨_, _, ⟨T19, L19, k19, n19⟩, -, X19, ⟨Lc19, hQ19, l19, y19, z19⟩, st19⟩ := Jvm.LawKit.callS X15 hx (y := (⟨"java/lang/StringUTF16", "putChar", "([BII)V"⟩ : MethodName)) hown (mvT hZ (hw _ (List.mem_of_getElem? (i := 84) rfl))) (mvT hZ (hw _ (List.mem_of_getElem? (i := 85) rfl))) (mvT hZ (hw _ (List.mem_of_getElem? (i := 26) rfl))) (mvT hZ (hw _ (List.mem_of_getElem? (i := 86) rfl))) (by decide) (backOf (W := 0) (own_u_putc l Z a0 hW t11 kb11 4 1 [(.int (StrChars.lo8 c0)), (.int (StrChars.hi8 c0)), (.int (0 : Int32)), (.int (0 : Int32)), (.int (0 : Int32)), (.int (0 : Int32)), (.int (0 : Int32)), (.int (0 : Int32))] c1 T15.heap n0 (by omega) O16 (by decide) (by decide) rfl (by omega) Vu15) hZ (hw _ (List.mem_of_getElem? (i := 86) rfl)) (hw _ (List.mem_of_getElem? (i := 26) rfl)) (by decide) (by decide)) (g := (mkF m 20 #[vr b1, vi (1 : Int32), vi (4 : Int32), vr t11, vi (1 : Int32)] [(.int c1), (.int (1 : Int32)), (.ref t11)])) rfl (by rw [hml]; rfl) (argsL := [(.ref t11), (.int (1 : Int32)), (.int c1)]) (rest := []) (lenOf pd_9 rfl) rfl (by show 2 * 0 + _ ≤ _; exact Nat.le_of_eq rfl) (hb hby d_jdk_52_m_14_20) (fun _ _ => ⟨rfl, rfl, (by decide : 1 + 0 ≤ 1), (by decide : 8 + 0 ≤ 8)⟩)
  dsimp only [Pt.U, Pt.locs, Pt.cells, Pt.slots] at X19 l19 y19 z19 st19 hQ19
  subst l19 y19 z19
  obtain ⟨rfl, Nq19, Kq19, Vt19⟩ := hQ19
  have N19 := Fr.app N15 Nq19
  have z20 := Kq19.1
  have K20 := K16.trans Kq19 (allS (Or.inr (by omega)) all0)
  have O20 := O16.keep Kq19 (allS (by omega) all0)
  have Vu19 : Arv Z T19.heap t11 kb11 .byte (8 : Int32) [(.int (StrChars.lo8 c0)), (.int (StrChars.hi8 c0)), (.int (StrChars.lo8 c1)), (.int (StrChars.hi8 c1)), (.int (0 : Int32)), (.int (0 : Int32)), (.int (0 : Int32)), (.int (0 : Int32))] (.int (0 : Int32)) := Vt19
  refine own_go st19 ?_
  show own_Fin p e below (T19.setTop (mkF m 23 #[vr b1, vi (1 : Int32), vi (4 : Int32), vr t11, vi (1 : Int32)] [])) _
  refine own_gs (cur' := T19.setTop (mkF m 19 #[vr b1, vi (2 : Int32), vi (4 : Int32), vr t11, vi (2 : Int32)] [(.int (2 : Int32)), (.ref b1), (.int (2 : Int32)), (.ref t11)])) ?_ ?_
  · refine XS.iinc X19.here hx rfl (hb hby d_jdk_52_m_14_23) rfl (l' := #[vr b1, vi (2 : Int32), vi (4 : Int32), vr t11, vi (1 : Int32)]) rfl ?_
    refine XS.iinc X19.here hx rfl (hb hby d_jdk_52_m_14_26) rfl (l' := #[vr b1, vi (2 : Int32), vi (4 : Int32), vr t11, vi (2 : Int32)]) rfl ?_
    refine XS.goto X19.here hx rfl (pc0 := 29) (pc' := 8) rfl (hb hby d_jdk_52_m_14_29) (by decide) (by decide) ?_
    show Steps p.tables e below (T19.setTop (mkF m 8 #[vr b1, vi (2 : Int32), vi (4 : Int32), vr t11, vi (2 : Int32)] [])) _
    refine XS.iload X19.here hx rfl (hb hby d_jdk_52_m_14_8) rfl ?_
    refine XS.iloadN X19.here hx rfl (hb hby d_jdk_52_m_14_10) rfl ?_
    refine XS.icmpNo X19.here hx rfl (hb hby d_jdk_52_m_14_11) rfl (tlt ((by decide) : (2 : Int32) < (4 : Int32))).2.1 ?_
    show Steps p.tables e below (T19.setTop (mkF m 14 #[vr b1, vi (2 : Int32), vi (4 : Int32), vr t11, vi (2 : Int32)] [])) _
    refine XS.aloadN X19.here hx rfl (hb hby d_jdk_52_m_14_14) rfl rfl ?_
    refine XS.iload X19.here hx rfl (hb hby d_jdk_52_m_14_15) rfl ?_
    refine XS.aloadN X19.here hx rfl (hb hby d_jdk_52_m_14_17) rfl rfl ?_
    show Steps p.tables e below (T19.setTop (mkF m 18 #[vr b1, vi (2 : Int32), vi (4 : Int32), vr t11, vi (2 : Int32)] [(.ref b1), (.int (2 : Int32)), (.ref t11)])) _
    refine XS.iloadN X19.here hx rfl (hb hby d_jdk_52_m_14_18) rfl ?_
    exact Steps.refl _
  have f22 := (f18.keep Kq19 (ninS (own_ne (a := b1) (b := t11) (by omega)) nin0))
  obtain ⟨cl21, Ar21, q21, S21, M21, Hs21, G21⟩ := id f22
  have hin21 : ¬ ((2 : Int32) < 0 ∨ cl21.slots.size ≤ ((2 : Int32)).toNatClampNeg) := inb_of S21 ⟨by decide, by decide⟩
  have hat21 : cl21.slots[((2 : Int32)).toNatClampNeg]? = some (.int c2) := Has.at Hs21 hin21 rfl
  refine own_go (X19.caload hx (j := (2 : Int32)) (v := (.int c2)) (by exact Ar21.1) (State.isArrayOf_alike hZ.alike Ar21.2.1) Ar21.2.2 hin21 hat21 (g := (mkF m 19 #[vr b1, vi (2 : Int32), vi (4 : Int32), vr t11, vi (2 : Int32)] [(.int (2 : Int32)), (.ref b1), (.int (2 : Int32)), (.ref t11)])) rfl rfl (hb hby d_jdk_52_m_14_19)) ?_
  show own_Fin p e below (T19.setTop (mkF m 20 #[vr b1, vi (2 : Int32), vi (4 : Int32), vr t11, vi (2 : Int32)] [(.int c2), (.int (2 : Int32)), (.ref t11)])) _
  obtain ⟨_, _, ⟨T23, L23, k23, n23⟩, -, X23, ⟨Lc23, hQ23, l23, y23, z23⟩, st23⟩ := Jvm.LawKit.callS X19 hx (y := (⟨"java/lang/StringUTF16", "putChar", "([BII)V"⟩ : MethodName)) hown (mvT hZ (hw _ (List.mem_of_getElem? (i := 84) rfl))) (mvT hZ (hw _ (List.mem_of_getElem? (i := 85) rfl))) (mvT hZ (hw _ (List.mem_of_getElem? (i := 26) rfl))) (mvT hZ (hw _ (List.mem_of_getElem? (i := 86) rfl))) (by decide) (backOf (W := 0) (own_u_putc l Z a0 hW t11 kb11 4 2 [(.int (StrChars.lo8 c0)), (.int (StrChars.hi8 c0)), (.int (StrChars.lo8 c1)), (.int (StrChars.hi8 c1)), (.int (0 : Int32)), (.int (0 : Int32)), (.int (0 : Int32)), (.int (0 : Int32))] c2 T19.heap n0 (by omega) O20 (by decide) (by decide) rfl (by omega) Vu19) hZ (hw _ (List.mem_of_getElem? (i := 86) rfl)) (hw _ (List.mem_of_getElem? (i := 26) rfl)) (by decide) (by decide)) (g := (mkF m 20 #[vr b1, vi (2 : Int32), vi (4 : Int32), vr t11, vi (2 : Int32)] [(.int c2), (.int (2 : Int32)), (.ref t11)])) rfl (by rw [hml]; rfl) (argsL := [(.ref t11), (.int (2 : Int32)), (.int c2)]) (rest := []) (lenOf pd_9 rfl) rfl (by show 2 * 0 + _ ≤ _; exact Nat.le_of_eq rfl) (hb hby d_jdk_52_m_14_20) (fun _ _ => ⟨rfl, rfl, (by decide : 1 + 0 ≤ 1), (by decide : 8 + 0 ≤ 8)⟩)
  dsimp only [Pt.U, Pt.locs, Pt.cells, Pt.slots] at X23 l23 y23 z23 st23 hQ23
  subst l23 y23 z23
  obtain ⟨rfl, Nq23, Kq23, Vt23⟩ := hQ23
  have N23 := Fr.app N19 Nq23
  have z24 := Kq23.1
  have K24 := K20.trans Kq23 (allS (Or.inr (by omega)) all0)
  have O24 := O20.keep Kq23 (allS (by omega) all0)
  have Vu23 : Arv Z T23.heap t11 kb11 .byte (8 : Int32) [(.int (StrChars.lo8 c0)), (.int (StrChars.hi8 c0)), (.int (StrChars.lo8 c1)), (.int (StrChars.hi8 c1)), (.int (StrChars.lo8 c2)), (.int (StrChars.hi8 c2)), (.int (0 : Int32)), (.int (0 : Int32))] (.int (0 : Int32)) := Vt23
  refine own_go st23 ?_
  show own_Fin p e below (T23.setTop (mkF m 23 #[vr b1, vi (2 : Int32), vi (4 : Int32), vr t11, vi (2 : Int32)] [])) _
  refine own_gs (cur' := T23.setTop (mkF m 19 #[vr b1, vi (3 : Int32), vi (4 : Int32), vr t11, vi (3 : Int32)] [(.int (3 : Int32)), (.ref b1), (.int (3 : Int32)), (.ref t11)])) ?_ ?_
  · refine XS.iinc X23.here hx rfl (hb hby d_jdk_52_m_14_23) rfl (l' := #[vr b1, vi (3 : Int32), vi (4 : Int32), vr t11, vi (2 : Int32)]) rfl ?_
    refine XS.iinc X23.here hx rfl (hb hby d_jdk_52_m_14_26) rfl (l' := #[vr b1, vi (3 : Int32), vi (4 : Int32), vr t11, vi (3 : Int32)]) rfl ?_
    refine XS.goto X23.here hx rfl (pc0 := 29) (pc' := 8) rfl (hb hby d_jdk_52_m_14_29) (by decide) (by decide) ?_
    show Steps p.tables e below (T23.setTop (mkF m 8 #[vr b1, vi (3 : Int32), vi (4 : Int32), vr t11, vi (3 : Int32)] [])) _
    refine XS.iload X23.here hx rfl (hb hby d_jdk_52_m_14_8) rfl ?_
    refine XS.iloadN X23.here hx rfl (hb hby d_jdk_52_m_14_10) rfl ?_
    refine XS.icmpNo X23.here hx rfl (hb hby d_jdk_52_m_14_11) rfl (tlt ((by decide) : (3 : Int32) < (4 : Int32))).2.1 ?_
    show Steps p.tables e below (T23.setTop (mkF m 14 #[vr b1, vi (3 : Int32), vi (4 : Int32), vr t11, vi (3 : Int32)] [])) _
    refine XS.aloadN X23.here hx rfl (hb hby d_jdk_52_m_14_14) rfl rfl ?_
    refine XS.iload X23.here hx rfl (hb hby d_jdk_52_m_14_15) rfl ?_
    refine XS.aloadN X23.here hx rfl (hb hby d_jdk_52_m_14_17) rfl rfl ?_
    show Steps p.tables e below (T23.setTop (mkF m 18 #[vr b1, vi (3 : Int32), vi (4 : Int32), vr t11, vi (3 : Int32)] [(.ref b1), (.int (3 : Int32)), (.ref t11)])) _
    refine XS.iloadN X23.here hx rfl (hb hby d_jdk_52_m_14_18) rfl ?_
    exact Steps.refl _
  have f26 := (f22.keep Kq23 (ninS (own_ne (a := b1) (b := t11) (by omega)) nin0))
  obtain ⟨cl25, Ar25, q25, S25, M25, Hs25, G25⟩ := id f26
  have hin25 : ¬ ((3 : Int32) < 0 ∨ cl25.slots.size ≤ ((3 : Int32)).toNatClampNeg) := inb_of S25 ⟨by decide, by decide⟩
  have hat25 : cl25.slots[((3 : Int32)).toNatClampNeg]? = some (.int c3) := Has.at Hs25 hin25 rfl
  refine own_go (X23.caload hx (j := (3 : Int32)) (v := (.int c3)) (by exact Ar25.1) (State.isArrayOf_alike hZ.alike Ar25.2.1) Ar25.2.2 hin25 hat25 (g := (mkF m 19 #[vr b1, vi (3 : Int32), vi (4 : Int32), vr t11, vi (3 : Int32)] [(.int (3 : Int32)), (.ref b1), (.int (3 : Int32)), (.ref t11)])) rfl rfl (hb hby d_jdk_52_m_14_19)) ?_
  show own_Fin p e below (T23.setTop (mkF m 20 #[vr b1, vi (3 : Int32), vi (4 : Int32), vr t11, vi (3 : Int32)] [(.int c3), (.int (3 : Int32)), (.ref t11)])) _
  obtain ⟨_, _, ⟨T27, L27, k27, n27⟩, -, X27, ⟨Lc27, hQ27, l27, y27, z27⟩, st27⟩ := Jvm.LawKit.callS X23 hx (y := (⟨"java/lang/StringUTF16", "putChar", "([BII)V"⟩ : MethodName)) hown (mvT hZ (hw _ (List.mem_of_getElem? (i := 84) rfl))) (mvT hZ (hw _ (List.mem_of_getElem? (i := 85) rfl))) (mvT hZ (hw _ (List.mem_of_getElem? (i := 26) rfl))) (mvT hZ (hw _ (List.mem_of_getElem? (i := 86) rfl))) (by decide) (backOf (W := 0) (own_u_putc l Z a0 hW t11 kb11 4 3 [(.int (StrChars.lo8 c0)), (.int (StrChars.hi8 c0)), (.int (StrChars.lo8 c1)), (.int (StrChars.hi8 c1)), (.int (StrChars.lo8 c2)), (.int (StrChars.hi8 c2)), (.int (0 : Int32)), (.int (0 : Int32))] c3 T23.heap n0 (by omega) O24 (by decide) (by decide) rfl (by omega) Vu23) hZ (hw _ (List.mem_of_getElem? (i := 86) rfl)) (hw _ (List.mem_of_getElem? (i := 26) rfl)) (by decide) (by decide)) (g := (mkF m 20 #[vr b1, vi (3 : Int32), vi (4 : Int32), vr t11, vi (3 : Int32)] [(.int c3), (.int (3 : Int32)), (.ref t11)])) rfl (by rw [hml]; rfl) (argsL := [(.ref t11), (.int (3 : Int32)), (.int c3)]) (rest := []) (lenOf pd_9 rfl) rfl (by show 2 * 0 + _ ≤ _; exact Nat.le_of_eq rfl) (hb hby d_jdk_52_m_14_20) (fun _ _ => ⟨rfl, rfl, (by decide : 1 + 0 ≤ 1), (by decide : 8 + 0 ≤ 8)⟩)
  dsimp only [Pt.U, Pt.locs, Pt.cells, Pt.slots] at X27 l27 y27 z27 st27 hQ27
  subst l27 y27 z27
  obtain ⟨rfl, Nq27, Kq27, Vt27⟩ := hQ27
  have N27 := Fr.app N23 Nq27
  have z28 := Kq27.1
  have K28 := K24.trans Kq27 (allS (Or.inr (by omega)) all0)
  have O28 := O24.keep Kq27 (allS (by omega) all0)
  have Vu27 : Arv Z T27.heap t11 kb11 .byte (8 : Int32) [(.int (StrChars.lo8 c0)), (.int (StrChars.hi8 c0)), (.int (StrChars.lo8 c1)), (.int (StrChars.hi8 c1)), (.int (StrChars.lo8 c2)), (.int (StrChars.hi8 c2)), (.int (StrChars.lo8 c3)), (.int (StrChars.hi8 c3))] (.int (0 : Int32)) := Vt27
  refine own_go st27 ?_
  show own_Fin p e below (T27.setTop (mkF m 23 #[vr b1, vi (3 : Int32), vi (4 : Int32), vr t11, vi (3 : Int32)] [])) _
  refine own_gs (cur' := T27.setTop (mkF m 33 #[vr b1, vi (4 : Int32), vi (4 : Int32), vr t11, vi (4 : Int32)] [(.ref t11)])) ?_ ?_
  · refine XS.iinc X27.here hx rfl (hb hby d_jdk_52_m_14_23) rfl (l' := #[vr b1, vi (4 : Int32), vi (4 : Int32), vr t11, vi (3 : Int32)]) rfl ?_
    refine XS.iinc X27.here hx rfl (hb hby d_jdk_52_m_14_26) rfl (l' := #[vr b1, vi (4 : Int32), vi (4 : Int32), vr t11, vi (4 : Int32)]) rfl ?_
    refine XS.goto X27.here hx rfl (pc0 := 29) (pc' := 8) rfl (hb hby d_jdk_52_m_14_29) (by decide) (by decide) ?_
    show Steps p.tables e below (T27.setTop (mkF m 8 #[vr b1, vi (4 : Int32), vi (4 : Int32), vr t11, vi (4 : Int32)] [])) _
    refine XS.iload X27.here hx rfl (hb hby d_jdk_52_m_14_8) rfl ?_
    refine XS.iloadN X27.here hx rfl (hb hby d_jdk_52_m_14_10) rfl ?_
    refine XS.icmpYes X27.here hx rfl (pc0 := 11) (pc' := 32) rfl (hb hby d_jdk_52_m_14_11) rfl (flt ((by decide) : ¬ ((4 : Int32) < (4 : Int32)))).2.1 (by decide) (by decide) ?_
    show Steps p.tables e below (T27.setTop (mkF m 32 #[vr b1, vi (4 : Int32), vi (4 : Int32), vr t11, vi (4 : Int32)] [])) _
    refine XS.aloadN X27.here hx rfl (hb hby d_jdk_52_m_14_32) rfl rfl ?_
    exact Steps.refl _
  obtain ⟨fs, hr, hrun, hended, hW1, hsame⟩ := X27.leave (v := (some (.ref t11))) (fun h => by rw [Bd.returns] at h; cases h)
  refine ⟨_, _, X27.areturnOut hx rfl Bd.returns rfl (hb hby d_jdk_52_m_14_33) hr, hrun, hended, _, _, rfl, ?_, ⟨_, rfl⟩, hW1, hsame.mono (by decide) (by decide)⟩
  show own_u_tob4_Q Z b1 k1 c0 c1 c2 c3 h0 n0 (some (.ref t11)) T27.heap _
  exact ⟨_, _, rfl, N27, K28, Vu27, (by omega)⟩
def own_u_cmp4_Q (Z : State) (b1 d1 : Nat) (k1 k2 : ClassId) (c0 c1 c2 c3 : Int32) (h0 : Heap) (n0 : Nat) (v : Option Value) (h : Heap) (L : List Loc) : Prop := Fr n0 L ∧ Keep h0 h [d1] ∧ ((v = some (.int (4 : Int32)) ∧ (∀ c ∈ ([c0, c1, c2, c3] : List Int32), ¬ (255 : Int32) < c) ∧ Arv Z h d1 k2 .byte (4 : Int32) [(.int (StrChars.lo8 c0)), (.int (StrChars.lo8 c1)), (.int (StrChars.lo8 c2)), (.int (StrChars.lo8 c3))] (.int (0 : Int32))) ∨ (v = some (.int (0 : Int32)) ∧ (255 : Int32) < c0) ∨ (v = some (.int (1 : Int32)) ∧ (255 : Int32) < c1) ∨ (v = some (.int (2 : Int32)) ∧ (255 : Int32) < c2) ∨ (v = some (.int (3 : Int32)) ∧ (255 : Int32) < c3))
theorem ef_own_u_cmp4 (m : MethodId) (x0 : Nat) (x1 : Int32) (x2 : Nat) (x3 : Int32) (x4 : Int32) : entryFrame m #[(.ref x0), (.int x1), (.ref x2), (.int x3), (.int x4)] 7 = mkF m 0 #[vr x0, vi x1, vr x2, vi x3, vi x4, .unset, .unset] [] := by first | (simp [entryFrame, mkF, argsToLocals, Value.category]; done) | rfl
set_option maxRecDepth 65536 in
set_option maxHeartbeats 40000000 in
theorem own_u_cmp4 (l : Launch) (Z : State) (a0 : Array Value) (hW : own_W Z a0) (b1 d1 : Nat) (k1 k2 : ClassId) (c0 c1 c2 c3 : Int32) (h0 : Heap) (n0 : Nat) (Z0 : n0 ≤ h0.size) (O0 : Old Z n0 h0) (V1 : Arv Z h0 b1 k1 .char (4 : Int32) [(.int c0), (.int c1), (.int c2), (.int c3)] (.int (0 : Int32))) (V2 : Arv Z h0 d1 k2 .byte (4 : Int32) [(.int (0 : Int32)), (.int (0 : Int32)), (.int (0 : Int32)), (.int (0 : Int32))] (.int (0 : Int32))) (g2 : n0 ≤ d1) (hbd : b1 ≠ d1) :
    MetFree l (⟨"java/lang/StringUTF16", "compress", "([CI[BII)I"⟩ : MethodName) (head1 (Jvm.Cond.code (⟨"java/lang/StringUTF16", "compress", "([CI[BII)I"⟩ : MethodName) jdk_52_method_21_code 7 (some .int) :: []) ({ frames := 0, cells := 0, slots := 0, locals := 0 } : Room)) (fun a U => a = #[(.ref b1), (.int (0 : Int32)), (.ref d1), (.int (0 : Int32)), (.int (4 : Int32))] ∧ Z.Warmed39 U.vm ∧ U.heap = h0) (fun _ _ _ _ _ => True) (fun _ U o U' => ∃ v L, o = .returned v ∧ own_u_cmp4_Q Z b1 d1 k1 k2 c0 c1 c2 c3 h0 n0 v U'.heap L ∧ FrameEnd U o U' L ({ frames := 0, cells := 0, slots := 0, locals := 0 } : Room).cells ({ frames := 0, cells := 0, slots := 0, locals := 0 } : Room).slots) := by
  refine MetFree.of_bodySF (plainFor_of_name pn_java_lang_StringUTF16) hisR ?_
  intro p e s m args below meth c s₁ Bd hml0 hP hK
  obtain ⟨rfl, hZ, hh⟩ := hP
  obtain ⟨hw, ⟨G1, O2, P5⟩, ⟨G3, O4, rG3⟩, Oa, Oh, Ol⟩ := id hW
  have hx := Bd.exec
  have hby := Bd.bytes
  have hml : c.maxLocals = 7 := hml0
  have hown : s.vm.findClass "java/lang/StringUTF16" = some m.cls := findClass_of_methodNamed Bd.named
  have hnm := (name_of_methodNamed Bd.named Bd.method).1
  have X0 : Stand p l e ({ frames := 0, cells := 0, slots := 0, locals := 0 } : Room) s m #[(.ref b1), (.int (0 : Int32)), (.ref d1), (.int (0 : Int32)), (.int (4 : Int32))] below meth c s₁ [] 0 0 := Stand.of_body Bd
  have e0 : s₁.heap = h0 := by rw [← hh, Bd.state]; rfl
  have N0 := Fr.nil n0
  have K0 := Keep.refl h0 [d1]
  have lt1 := own_lt V1.lt
  have lt2 := own_lt V2.lt
  show own_Fin p e below (s₁.setTop (entryFrame m #[(.ref b1), (.int (0 : Int32)), (.ref d1), (.int (0 : Int32)), (.int (4 : Int32))] 7)) _
  refine own_gs (castTop (ef_own_u_cmp4 m b1 (0 : Int32) d1 (0 : Int32) (4 : Int32)) (Steps.refl _)) ?_
  show own_Fin p e below (s₁.setTop (mkF m 0 #[vr b1, vi (0 : Int32), vr d1, vi (0 : Int32), vi (4 : Int32), uu, uu] [])) _
  refine own_gs (cur' := s₁.setTop (mkF m 12 #[vr b1, vi (0 : Int32), vr d1, vi (0 : Int32), vi (4 : Int32), vi (0 : Int32), uu] [(.int (0 : Int32)), (.ref b1)])) ?_ ?_
  · refine XS.iconst X0.here hx rfl (hb hby d_jdk_52_m_21_0) ?_
    refine XS.istore X0.here hx rfl (hb hby d_jdk_52_m_21_1) rfl (l' := #[vr b1, vi (0 : Int32), vr d1, vi (0 : Int32), vi (4 : Int32), vi (0 : Int32), uu]) rfl ?_
    refine XS.iload X0.here hx rfl (hb hby d_jdk_52_m_21_3) rfl ?_
    show Steps p.tables e below (s₁.setTop (mkF m 5 #[vr b1, vi (0 : Int32), vr d1, vi (0 : Int32), vi (4 : Int32), vi (0 : Int32), uu] [(.int (0 : Int32))])) _
    refine XS.iload X0.here hx rfl (hb hby d_jdk_52_m_21_5) rfl ?_
    refine XS.icmpNo X0.here hx rfl (hb hby d_jdk_52_m_21_7) rfl (tlt ((by decide) : (0 : Int32) < (4 : Int32))).2.1 ?_
    refine XS.aloadN X0.here hx rfl (hb hby d_jdk_52_m_21_10) rfl rfl ?_
    show Steps p.tables e below (s₁.setTop (mkF m 11 #[vr b1, vi (0 : Int32), vr d1, vi (0 : Int32), vi (4 : Int32), vi (0 : Int32), uu] [(.ref b1)])) _
    refine XS.iloadN X0.here hx rfl (hb hby d_jdk_52_m_21_11) rfl ?_
    exact Steps.refl _
  obtain ⟨cl11, Ar11, q11, S11, M11, Hs11, G11⟩ := id V1
  have hin11 : ¬ ((0 : Int32) < 0 ∨ cl11.slots.size ≤ ((0 : Int32)).toNatClampNeg) := inb_of S11 ⟨by decide, by decide⟩
  have hat11 : cl11.slots[((0 : Int32)).toNatClampNeg]? = some (.int c0) := Has.at Hs11 hin11 rfl
  refine own_go (X0.caload hx (j := (0 : Int32)) (v := (.int c0)) (by rw [e0]; exact Ar11.1) (State.isArrayOf_alike hZ.alike Ar11.2.1) Ar11.2.2 hin11 hat11 (g := (mkF m 12 #[vr b1, vi (0 : Int32), vr d1, vi (0 : Int32), vi (4 : Int32), vi (0 : Int32), uu] [(.int (0 : Int32)), (.ref b1)])) rfl rfl (hb hby d_jdk_52_m_21_12)) ?_
  show own_Fin p e below (s₁.setTop (mkF m 13 #[vr b1, vi (0 : Int32), vr d1, vi (0 : Int32), vi (4 : Int32), vi (0 : Int32), uu] [(.int c0)])) _
  refine own_gs (cur' := s₁.setTop (mkF m 20 #[vr b1, vi (0 : Int32), vr d1, vi (0 : Int32), vi (4 : Int32), vi (0 : Int32), vi c0] [(.int (255 : Int32)), (.int c0)])) ?_ ?_
  · refine XS.istore X0.here hx rfl (hb hby d_jdk_52_m_21_13) rfl (l' := #[vr b1, vi (0 : Int32), vr d1, vi (0 : Int32), vi (4 : Int32), vi (0 : Int32), vi c0]) rfl ?_
    refine XS.iload X0.here hx rfl (hb hby d_jdk_52_m_21_15) rfl ?_
    refine XS.sipush X0.here hx rfl (hb hby d_jdk_52_m_21_17) ?_
    exact Steps.refl _
  by_cases hc20_12 : (255 : Int32) < c0
  · refine own_gs (cur' := s₁.setTop (mkF m 25 #[vr b1, vi (0 : Int32), vr d1, vi (0 : Int32), vi (4 : Int32), vi (0 : Int32), vi c0] [(.int (0 : Int32))])) ?_ ?_
    · refine XS.icmpNo X0.here hx rfl (hb hby d_jdk_52_m_21_20) rfl (tlt (hc20_12 : (255 : Int32) < c0)).2.2.2 ?_
      refine XS.iload X0.here hx rfl (hb hby d_jdk_52_m_21_23) rfl ?_
      exact Steps.refl _
    obtain ⟨fs, hr, hrun, hended, hW1, hsame⟩ := X0.leave (v := (some (.int (0 : Int32)))) (fun h => by rw [Bd.returns] at h; cases h)
    refine ⟨_, _, retI X0 hx Bd.returns (hb hby d_jdk_52_m_21_25) hr, hrun, hended, _, _, rfl, ?_, ⟨_, rfl⟩, hW1, hsame.mono (by decide) (by decide)⟩
    show own_u_cmp4_Q Z b1 d1 k1 k2 c0 c1 c2 c3 h0 n0 (some (.int (0 : Int32))) s₁.heap _
    rw [e0]
    exact ⟨N0, K0, Or.inr (Or.inl ⟨rfl, hc20_12⟩)⟩
  · refine own_gs (cur' := s₁.setTop (mkF m 31 #[vr b1, vi (0 : Int32), vr d1, vi (0 : Int32), vi (4 : Int32), vi (0 : Int32), vi c0] [(.int (c0.toInt8.toInt32)), (.int (0 : Int32)), (.ref d1)])) ?_ ?_
    · refine XS.icmpYes X0.here hx rfl (pc0 := 20) (pc' := 26) rfl (hb hby d_jdk_52_m_21_20) rfl (flt (hc20_12 : ¬ ((255 : Int32) < c0))).2.2.2 (by decide) (by decide) ?_
      refine XS.aloadN X0.here hx rfl (hb hby d_jdk_52_m_21_26) rfl rfl ?_
      refine XS.iloadN X0.here hx rfl (hb hby d_jdk_52_m_21_27) rfl ?_
      show Steps p.tables e below (s₁.setTop (mkF m 28 #[vr b1, vi (0 : Int32), vr d1, vi (0 : Int32), vi (4 : Int32), vi (0 : Int32), vi c0] [(.int (0 : Int32)), (.ref d1)])) _
      refine XS.iload X0.here hx rfl (hb hby d_jdk_52_m_21_28) rfl ?_
      refine XS.i2b X0.here hx rfl (hb hby d_jdk_52_m_21_30) rfl ?_
      exact Steps.refl _
    obtain ⟨cl13, Ar13, q13, S13, M13, Hs13, G13⟩ := id V2
    have hin13 : ¬ ((0 : Int32) < 0 ∨ cl13.slots.size ≤ ((0 : Int32)).toNatClampNeg) := inb_of S13 ⟨by decide, by decide⟩
    obtain ⟨T13, h13, X13, e13, W13, st13⟩ := stB X0 hx hZ e0 Ar13 (j := (0 : Int32)) hin13 (g := (mkF m 31 #[vr b1, vi (0 : Int32), vr d1, vi (0 : Int32), vi (4 : Int32), vi (0 : Int32), vi c0] [(.int (c0.toInt8.toInt32)), (.int (0 : Int32)), (.ref d1)])) rfl rfl (hb hby d_jdk_52_m_21_31)
    have V13 := Arv.set Ar13 q13 S13 M13 Hs13 G13 (fits_nar_byte _) W13 0 rfl (Nat.le_of_ble_eq_true rfl)
    refine own_go st13 ?_
    show own_Fin p e below (T13.setTop (mkF m 32 #[vr b1, vi (0 : Int32), vr d1, vi (0 : Int32), vi (4 : Int32), vi (0 : Int32), vi c0] [])) _
    have z14 := W13.size
    have K14 := K0.wr W13 (Or.inl (List.mem_of_getElem? (i := 0) rfl))
    have O14 := O0.wr W13 (by omega)
    have N14 := Fr.snoc X13 N0 (by omega)
    refine own_gs (cur' := T13.setTop (mkF m 12 #[vr b1, vi (1 : Int32), vr d1, vi (1 : Int32), vi (4 : Int32), vi (1 : Int32), vi c0] [(.int (1 : Int32)), (.ref b1)])) ?_ ?_
    · refine XS.iinc X13.here hx rfl (hb hby d_jdk_52_m_21_32) rfl (l' := #[vr b1, vi (1 : Int32), vr d1, vi (0 : Int32), vi (4 : Int32), vi (0 : Int32), vi c0]) rfl ?_
      refine XS.iinc X13.here hx rfl (hb hby d_jdk_52_m_21_35) rfl (l' := #[vr b1, vi (1 : Int32), vr d1, vi (1 : Int32), vi (4 : Int32), vi (0 : Int32), vi c0]) rfl ?_
      refine XS.iinc X13.here hx rfl (hb hby d_jdk_52_m_21_38) rfl (l' := #[vr b1, vi (1 : Int32), vr d1, vi (1 : Int32), vi (4 : Int32), vi (1 : Int32), vi c0]) rfl ?_
      show Steps p.tables e below (T13.setTop (mkF m 41 #[vr b1, vi (1 : Int32), vr d1, vi (1 : Int32), vi (4 : Int32), vi (1 : Int32), vi c0] [])) _
      refine XS.goto X13.here hx rfl (pc0 := 41) (pc' := 3) rfl (hb hby d_jdk_52_m_21_41) (by decide) (by decide) ?_
      refine XS.iload X13.here hx rfl (hb hby d_jdk_52_m_21_3) rfl ?_
      refine XS.iload X13.here hx rfl (hb hby d_jdk_52_m_21_5) rfl ?_
      show Steps p.tables e below (T13.setTop (mkF m 7 #[vr b1, vi (1 : Int32), vr d1, vi (1 : Int32), vi (4 : Int32), vi (1 : Int32), vi c0] [(.int (4 : Int32)), (.int (1 : Int32))])) _
      refine XS.icmpNo X13.here hx rfl (hb hby d_jdk_52_m_21_7) rfl (tlt ((by decide) : (1 : Int32) < (4 : Int32))).2.1 ?_
      refine XS.aloadN X13.here hx rfl (hb hby d_jdk_52_m_21_10) rfl rfl ?_
      refine XS.iloadN X13.here hx rfl (hb hby d_jdk_52_m_21_11) rfl ?_
      exact Steps.refl _
    have f16 := (V1.other W13 (own_ne (a := b1) (b := d1) (by omega)))
    obtain ⟨cl15, Ar15, q15, S15, M15, Hs15, G15⟩ := id f16
    have hin15 : ¬ ((1 : Int32) < 0 ∨ cl15.slots.size ≤ ((1 : Int32)).toNatClampNeg) := inb_of S15 ⟨by decide, by decide⟩
    have hat15 : cl15.slots[((1 : Int32)).toNatClampNeg]? = some (.int c1) := Has.at Hs15 hin15 rfl
    refine own_go (X13.caload hx (j := (1 : Int32)) (v := (.int c1)) (by rw [e13]; exact Ar15.1) (State.isArrayOf_alike hZ.alike Ar15.2.1) Ar15.2.2 hin15 hat15 (g := (mkF m 12 #[vr b1, vi (1 : Int32), vr d1, vi (1 : Int32), vi (4 : Int32), vi (1 : Int32), vi c0] [(.int (1 : Int32)), (.ref b1)])) rfl rfl (hb hby d_jdk_52_m_21_12)) ?_
    show own_Fin p e below (T13.setTop (mkF m 13 #[vr b1, vi (1 : Int32), vr d1, vi (1 : Int32), vi (4 : Int32), vi (1 : Int32), vi c0] [(.int c1)])) _
    refine own_gs (cur' := T13.setTop (mkF m 20 #[vr b1, vi (1 : Int32), vr d1, vi (1 : Int32), vi (4 : Int32), vi (1 : Int32), vi c1] [(.int (255 : Int32)), (.int c1)])) ?_ ?_
    · refine XS.istore X13.here hx rfl (hb hby d_jdk_52_m_21_13) rfl (l' := #[vr b1, vi (1 : Int32), vr d1, vi (1 : Int32), vi (4 : Int32), vi (1 : Int32), vi c1]) rfl ?_
      refine XS.iload X13.here hx rfl (hb hby d_jdk_52_m_21_15) rfl ?_
      refine XS.sipush X13.here hx rfl (hb hby d_jdk_52_m_21_17) ?_
      exact Steps.refl _
    by_cases hc20_17 : (255 : Int32) < c1
    · refine own_gs (cur' := T13.setTop (mkF m 25 #[vr b1, vi (1 : Int32), vr d1, vi (1 : Int32), vi (4 : Int32), vi (1 : Int32), vi c1] [(.int (1 : Int32))])) ?_ ?_
      · refine XS.icmpNo X13.here hx rfl (hb hby d_jdk_52_m_21_20) rfl (tlt (hc20_17 : (255 : Int32) < c1)).2.2.2 ?_
        refine XS.iload X13.here hx rfl (hb hby d_jdk_52_m_21_23) rfl ?_
        exact Steps.refl _
      obtain ⟨fs, hr, hrun, hended, hW1, hsame⟩ := X13.leave (v := (some (.int (1 : Int32)))) (fun h => by rw [Bd.returns] at h; cases h)
      refine ⟨_, _, retI X13 hx Bd.returns (hb hby d_jdk_52_m_21_25) hr, hrun, hended, _, _, rfl, ?_, ⟨_, rfl⟩, hW1, hsame.mono (by decide) (by decide)⟩
      show own_u_cmp4_Q Z b1 d1 k1 k2 c0 c1 c2 c3 h0 n0 (some (.int (1 : Int32))) T13.heap _
      rw [e13]
      exact ⟨N14, K14, Or.inr (Or.inr (Or.inl ⟨rfl, hc20_17⟩))⟩
    · refine own_gs (cur' := T13.setTop (mkF m 31 #[vr b1, vi (1 : Int32), vr d1, vi (1 : Int32), vi (4 : Int32), vi (1 : Int32), vi c1] [(.int (c1.toInt8.toInt32)), (.int (1 : Int32)), (.ref d1)])) ?_ ?_
      · refine XS.icmpYes X13.here hx rfl (pc0 := 20) (pc' := 26) rfl (hb hby d_jdk_52_m_21_20) rfl (flt (hc20_17 : ¬ ((255 : Int32) < c1))).2.2.2 (by decide) (by decide) ?_
        refine XS.aloadN X13.here hx rfl (hb hby d_jdk_52_m_21_26) rfl rfl ?_
        refine XS.iloadN X13.here hx rfl (hb hby d_jdk_52_m_21_27) rfl ?_
        show Steps p.tables e below (T13.setTop (mkF m 28 #[vr b1, vi (1 : Int32), vr d1, vi (1 : Int32), vi (4 : Int32), vi (1 : Int32), vi c1] [(.int (1 : Int32)), (.ref d1)])) _
        refine XS.iload X13.here hx rfl (hb hby d_jdk_52_m_21_28) rfl ?_
        refine XS.i2b X13.here hx rfl (hb hby d_jdk_52_m_21_30) rfl ?_
        exact Steps.refl _
      obtain ⟨cl18, Ar18, q18, S18, M18, Hs18, G18⟩ := id V13
      have hin18 : ¬ ((1 : Int32) < 0 ∨ cl18.slots.size ≤ ((1 : Int32)).toNatClampNeg) := inb_of S18 ⟨by decide, by decide⟩
      obtain ⟨T18, h18, X18, e18, W18, st18⟩ := stB X13 hx hZ e13 Ar18 (j := (1 : Int32)) hin18 (g := (mkF m 31 #[vr b1, vi (1 : Int32), vr d1, vi (1 : Int32), vi (4 : Int32), vi (1 : Int32), vi c1] [(.int (c1.toInt8.toInt32)), (.int (1 : Int32)), (.ref d1)])) rfl rfl (hb hby d_jdk_52_m_21_31)
      have V18 := Arv.set Ar18 q18 S18 M18 Hs18 G18 (fits_nar_byte _) W18 1 rfl (Nat.le_of_ble_eq_true rfl)
      refine own_go st18 ?_
      show own_Fin p e below (T18.setTop (mkF m 32 #[vr b1, vi (1 : Int32), vr d1, vi (1 : Int32), vi (4 : Int32), vi (1 : Int32), vi c1] [])) _
      have z19 := W18.size
      have K19 := K14.wr W18 (Or.inl (List.mem_of_getElem? (i := 0) rfl))
      have O19 := O14.wr W18 (by omega)
      have N19 := Fr.snoc X18 N14 (by omega)
      refine own_gs (cur' := T18.setTop (mkF m 12 #[vr b1, vi (2 : Int32), vr d1, vi (2 : Int32), vi (4 : Int32), vi (2 : Int32), vi c1] [(.int (2 : Int32)), (.ref b1)])) ?_ ?_
      · refine XS.iinc X18.here hx rfl (hb hby d_jdk_52_m_21_32) rfl (l' := #[vr b1, vi (2 : Int32), vr d1, vi (1 : Int32), vi (4 : Int32), vi (1 : Int32), vi c1]) rfl ?_
        refine XS.iinc X18.here hx rfl (hb hby d_jdk_52_m_21_35) rfl (l' := #[vr b1, vi (2 : Int32), vr d1, vi (2 : Int32), vi (4 : Int32), vi (1 : Int32), vi c1]) rfl ?_
        refine XS.iinc X18.here hx rfl (hb hby d_jdk_52_m_21_38) rfl (l' := #[vr b1, vi (2 : Int32), vr d1, vi (2 : Int32), vi (4 : Int32), vi (2 : Int32), vi c1]) rfl ?_
        show Steps p.tables e below (T18.setTop (mkF m 41 #[vr b1, vi (2 : Int32), vr d1, vi (2 : Int32), vi (4 : Int32), vi (2 : Int32), vi c1] [])) _
        refine XS.goto X18.here hx rfl (pc0 := 41) (pc' := 3) rfl (hb hby d_jdk_52_m_21_41) (by decide) (by decide) ?_
        refine XS.iload X18.here hx rfl (hb hby d_jdk_52_m_21_3) rfl ?_
        refine XS.iload X18.here hx rfl (hb hby d_jdk_52_m_21_5) rfl ?_
        show Steps p.tables e below (T18.setTop (mkF m 7 #[vr b1, vi (2 : Int32), vr d1, vi (2 : Int32), vi (4 : Int32), vi (2 : Int32), vi c1] [(.int (4 : Int32)), (.int (2 : Int32))])) _
        refine XS.icmpNo X18.here hx rfl (hb hby d_jdk_52_m_21_7) rfl (tlt ((by decide) : (2 : Int32) < (4 : Int32))).2.1 ?_
        refine XS.aloadN X18.here hx rfl (hb hby d_jdk_52_m_21_10) rfl rfl ?_
        refine XS.iloadN X18.here hx rfl (hb hby d_jdk_52_m_21_11) rfl ?_
        exact Steps.refl _
      have f21 := (f16.other W18 (own_ne (a := b1) (b := d1) (by omega)))
      obtain ⟨cl20, Ar20, q20, S20, M20, Hs20, G20⟩ := id f21
      have hin20 : ¬ ((2 : Int32) < 0 ∨ cl20.slots.size ≤ ((2 : Int32)).toNatClampNeg) := inb_of S20 ⟨by decide, by decide⟩
      have hat20 : cl20.slots[((2 : Int32)).toNatClampNeg]? = some (.int c2) := Has.at Hs20 hin20 rfl
      refine own_go (X18.caload hx (j := (2 : Int32)) (v := (.int c2)) (by rw [e18]; exact Ar20.1) (State.isArrayOf_alike hZ.alike Ar20.2.1) Ar20.2.2 hin20 hat20 (g := (mkF m 12 #[vr b1, vi (2 : Int32), vr d1, vi (2 : Int32), vi (4 : Int32), vi (2 : Int32), vi c1] [(.int (2 : Int32)), (.ref b1)])) rfl rfl (hb hby d_jdk_52_m_21_12)) ?_
      show own_Fin p e below (T18.setTop (mkF m 13 #[vr b1, vi (2 : Int32), vr d1, vi (2 : Int32), vi (4 : Int32), vi (2 : Int32), vi c1] [(.int c2)])) _
      refine own_gs (cur' := T18.setTop (mkF m 20 #[vr b1, vi (2 : Int32), vr d1, vi (2 : Int32), vi (4 : Int32), vi (2 : Int32), vi c2] [(.int (255 : Int32)), (.int c2)])) ?_ ?_
      · refine XS.istore X18.here hx rfl (hb hby d_jdk_52_m_21_13) rfl (l' := #[vr b1, vi (2 : Int32), vr d1, vi (2 : Int32), vi (4 : Int32), vi (2 : Int32), vi c2]) rfl ?_
        refine XS.iload X18.here hx rfl (hb hby d_jdk_52_m_21_15) rfl ?_
        refine XS.sipush X18.here hx rfl (hb hby d_jdk_52_m_21_17) ?_
        exact Steps.refl _
      by_cases hc20_22 : (255 : Int32) < c2
      · refine own_gs (cur' := T18.setTop (mkF m 25 #[vr b1, vi (2 : Int32), vr d1, vi (2 : Int32), vi (4 : Int32), vi (2 : Int32), vi c2] [(.int (2 : Int32))])) ?_ ?_
        · refine XS.icmpNo X18.here hx rfl (hb hby d_jdk_52_m_21_20) rfl (tlt (hc20_22 : (255 : Int32) < c2)).2.2.2 ?_
          refine XS.iload X18.here hx rfl (hb hby d_jdk_52_m_21_23) rfl ?_
          exact Steps.refl _
        obtain ⟨fs, hr, hrun, hended, hW1, hsame⟩ := X18.leave (v := (some (.int (2 : Int32)))) (fun h => by rw [Bd.returns] at h; cases h)
        refine ⟨_, _, retI X18 hx Bd.returns (hb hby d_jdk_52_m_21_25) hr, hrun, hended, _, _, rfl, ?_, ⟨_, rfl⟩, hW1, hsame.mono (by decide) (by decide)⟩
        show own_u_cmp4_Q Z b1 d1 k1 k2 c0 c1 c2 c3 h0 n0 (some (.int (2 : Int32))) T18.heap _
        rw [e18]
        exact ⟨N19, K19, Or.inr (Or.inr (Or.inr (Or.inl ⟨rfl, hc20_22⟩)))⟩
      · refine own_gs (cur' := T18.setTop (mkF m 31 #[vr b1, vi (2 : Int32), vr d1, vi (2 : Int32), vi (4 : Int32), vi (2 : Int32), vi c2] [(.int (c2.toInt8.toInt32)), (.int (2 : Int32)), (.ref d1)])) ?_ ?_
        · refine XS.icmpYes X18.here hx rfl (pc0 := 20) (pc' := 26) rfl (hb hby d_jdk_52_m_21_20) rfl (flt (hc20_22 : ¬ ((255 : Int32) < c2))).2.2.2 (by decide) (by decide) ?_
          refine XS.aloadN X18.here hx rfl (hb hby d_jdk_52_m_21_26) rfl rfl ?_
          refine XS.iloadN X18.here hx rfl (hb hby d_jdk_52_m_21_27) rfl ?_
          show Steps p.tables e below (T18.setTop (mkF m 28 #[vr b1, vi (2 : Int32), vr d1, vi (2 : Int32), vi (4 : Int32), vi (2 : Int32), vi c2] [(.int (2 : Int32)), (.ref d1)])) _
          refine XS.iload X18.here hx rfl (hb hby d_jdk_52_m_21_28) rfl ?_
          refine XS.i2b X18.here hx rfl (hb hby d_jdk_52_m_21_30) rfl ?_
          exact Steps.refl _
        obtain ⟨cl23, Ar23, q23, S23, M23, Hs23, G23⟩ := id V18
        have hin23 : ¬ ((2 : Int32) < 0 ∨ cl23.slots.size ≤ ((2 : Int32)).toNatClampNeg) := inb_of S23 ⟨by decide, by decide⟩
        obtain ⟨T23, h23, X23, e23, W23, st23⟩ := stB X18 hx hZ e18 Ar23 (j := (2 : Int32)) hin23 (g := (mkF m 31 #[vr b1, vi (2 : Int32), vr d1, vi (2 : Int32), vi (4 : Int32), vi (2 : Int32), vi c2] [(.int (c2.toInt8.toInt32)), (.int (2 : Int32)), (.ref d1)])) rfl rfl (hb hby d_jdk_52_m_21_31)
        have V23 := Arv.set Ar23 q23 S23 M23 Hs23 G23 (fits_nar_byte _) W23 2 rfl (Nat.le_of_ble_eq_true rfl)
        refine own_go st23 ?_
        show own_Fin p e below (T23.setTop (mkF m 32 #[vr b1, vi (2 : Int32), vr d1, vi (2 : Int32), vi (4 : Int32), vi (2 : Int32), vi c2] [])) _
        have z24 := W23.size
        have K24 := K19.wr W23 (Or.inl (List.mem_of_getElem? (i := 0) rfl))
        have O24 := O19.wr W23 (by omega)
        have N24 := Fr.snoc X23 N19 (by omega)
        refine own_gs (cur' := T23.setTop (mkF m 12 #[vr b1, vi (3 : Int32), vr d1, vi (3 : Int32), vi (4 : Int32), vi (3 : Int32), vi c2] [(.int (3 : Int32)), (.ref b1)])) ?_ ?_
        · refine XS.iinc X23.here hx rfl (hb hby d_jdk_52_m_21_32) rfl (l' := #[vr b1, vi (3 : Int32), vr d1, vi (2 : Int32), vi (4 : Int32), vi (2 : Int32), vi c2]) rfl ?_
          refine XS.iinc X23.here hx rfl (hb hby d_jdk_52_m_21_35) rfl (l' := #[vr b1, vi (3 : Int32), vr d1, vi (3 : Int32), vi (4 : Int32), vi (2 : Int32), vi c2]) rfl ?_
          refine XS.iinc X23.here hx rfl (hb hby d_jdk_52_m_21_38) rfl (l' := #[vr b1, vi (3 : Int32), vr d1, vi (3 : Int32), vi (4 : Int32), vi (3 : Int32), vi c2]) rfl ?_
          show Steps p.tables e below (T23.setTop (mkF m 41 #[vr b1, vi (3 : Int32), vr d1, vi (3 : Int32), vi (4 : Int32), vi (3 : Int32), vi c2] [])) _
          refine XS.goto X23.here hx rfl (pc0 := 41) (pc' := 3) rfl (hb hby d_jdk_52_m_21_41) (by decide) (by decide) ?_
          refine XS.iload X23.here hx rfl (hb hby d_jdk_52_m_21_3) rfl ?_
          refine XS.iload X23.here hx rfl (hb hby d_jdk_52_m_21_5) rfl ?_
          show Steps p.tables e below (T23.setTop (mkF m 7 #[vr b1, vi (3 : Int32), vr d1, vi (3 : Int32), vi (4 : Int32), vi (3 : Int32), vi c2] [(.int (4 : Int32)), (.int (3 : Int32))])) _
          refine XS.icmpNo X23.here hx rfl (hb hby d_jdk_52_m_21_7) rfl (tlt ((by decide) : (3 : Int32) < (4 : Int32))).2.1 ?_
          refine XS.aloadN X23.here hx rfl (hb hby d_jdk_52_m_21_10) rfl rfl ?_
          refine XS.iloadN X23.here hx rfl (hb hby d_jdk_52_m_21_11) rfl ?_
          exact Steps.refl _
        have f26 := (f21.other W23 (own_ne (a := b1) (b := d1) (by omega)))
        obtain ⟨cl25, Ar25, q25, S25, M25, Hs25, G25⟩ := id f26
        have hin25 : ¬ ((3 : Int32) < 0 ∨ cl25.slots.size ≤ ((3 : Int32)).toNatClampNeg) := inb_of S25 ⟨by decide, by decide⟩
        have hat25 : cl25.slots[((3 : Int32)).toNatClampNeg]? = some (.int c3) := Has.at Hs25 hin25 rfl
        refine own_go (X23.caload hx (j := (3 : Int32)) (v := (.int c3)) (by rw [e23]; exact Ar25.1) (State.isArrayOf_alike hZ.alike Ar25.2.1) Ar25.2.2 hin25 hat25 (g := (mkF m 12 #[vr b1, vi (3 : Int32), vr d1, vi (3 : Int32), vi (4 : Int32), vi (3 : Int32), vi c2] [(.int (3 : Int32)), (.ref b1)])) rfl rfl (hb hby d_jdk_52_m_21_12)) ?_
        show own_Fin p e below (T23.setTop (mkF m 13 #[vr b1, vi (3 : Int32), vr d1, vi (3 : Int32), vi (4 : Int32), vi (3 : Int32), vi c2] [(.int c3)])) _
        refine own_gs (cur' := T23.setTop (mkF m 20 #[vr b1, vi (3 : Int32), vr d1, vi (3 : Int32), vi (4 : Int32), vi (3 : Int32), vi c3] [(.int (255 : Int32)), (.int c3)])) ?_ ?_
        · refine XS.istore X23.here hx rfl (hb hby d_jdk_52_m_21_13) rfl (l' := #[vr b1, vi (3 : Int32), vr d1, vi (3 : Int32), vi (4 : Int32), vi (3 : Int32), vi c3]) rfl ?_
          refine XS.iload X23.here hx rfl (hb hby d_jdk_52_m_21_15) rfl ?_
          refine XS.sipush X23.here hx rfl (hb hby d_jdk_52_m_21_17) ?_
          exact Steps.refl _
        by_cases hc20_27 : (255 : Int32) < c3
        · refine own_gs (cur' := T23.setTop (mkF m 25 #[vr b1, vi (3 : Int32), vr d1, vi (3 : Int32), vi (4 : Int32), vi (3 : Int32), vi c3] [(.int (3 : Int32))])) ?_ ?_
          · refine XS.icmpNo X23.here hx rfl (hb hby d_jdk_52_m_21_20) rfl (tlt (hc20_27 : (255 : Int32) < c3)).2.2.2 ?_
            refine XS.iload X23.here hx rfl (hb hby d_jdk_52_m_21_23) rfl ?_
            exact Steps.refl _
          obtain ⟨fs, hr, hrun, hended, hW1, hsame⟩ := X23.leave (v := (some (.int (3 : Int32)))) (fun h => by rw [Bd.returns] at h; cases h)
          refine ⟨_, _, retI X23 hx Bd.returns (hb hby d_jdk_52_m_21_25) hr, hrun, hended, _, _, rfl, ?_, ⟨_, rfl⟩, hW1, hsame.mono (by decide) (by decide)⟩
          show own_u_cmp4_Q Z b1 d1 k1 k2 c0 c1 c2 c3 h0 n0 (some (.int (3 : Int32))) T23.heap _
          rw [e23]
          exact ⟨N24, K24, Or.inr (Or.inr (Or.inr (Or.inr ⟨rfl, hc20_27⟩)))⟩
        · refine own_gs (cur' := T23.setTop (mkF m 31 #[vr b1, vi (3 : Int32), vr d1, vi (3 : Int32), vi (4 : Int32), vi (3 : Int32), vi c3] [(.int (c3.toInt8.toInt32)), (.int (3 : Int32)), (.ref d1)])) ?_ ?_
          · refine XS.icmpYes X23.here hx rfl (pc0 := 20) (pc' := 26) rfl (hb hby d_jdk_52_m_21_20) rfl (flt (hc20_27 : ¬ ((255 : Int32) < c3))).2.2.2 (by decide) (by decide) ?_
            refine XS.aloadN X23.here hx rfl (hb hby d_jdk_52_m_21_26) rfl rfl ?_
            refine XS.iloadN X23.here hx rfl (hb hby d_jdk_52_m_21_27) rfl ?_
            show Steps p.tables e below (T23.setTop (mkF m 28 #[vr b1, vi (3 : Int32), vr d1, vi (3 : Int32), vi (4 : Int32), vi (3 : Int32), vi c3] [(.int (3 : Int32)), (.ref d1)])) _
            refine XS.iload X23.here hx rfl (hb hby d_jdk_52_m_21_28) rfl ?_
            refine XS.i2b X23.here hx rfl (hb hby d_jdk_52_m_21_30) rfl ?_
            exact Steps.refl _
          obtain ⟨cl28, Ar28, q28, S28, M28, Hs28, G28⟩ := id V23
          have hin28 : ¬ ((3 : Int32) < 0 ∨ cl28.slots.size ≤ ((3 : Int32)).toNatClampNeg) := inb_of S28 ⟨by decide, by decide⟩
          obtain ⟨T28, h28, X28, e28, W28, st28⟩ := stB X23 hx hZ e23 Ar28 (j := (3 : Int32)) hin28 (g := (mkF m 31 #[vr b1, vi (3 : Int32), vr d1, vi (3 : Int32), vi (4 : Int32), vi (3 : Int32), vi c3] [(.int (c3.toInt8.toInt32)), (.int (3 : Int32)), (.ref d1)])) rfl rfl (hb hby d_jdk_52_m_21_31)
          have V28 := Arv.set Ar28 q28 S28 M28 Hs28 G28 (fits_nar_byte _) W28 3 rfl (Nat.le_of_ble_eq_true rfl)
          refine own_go st28 ?_
          show own_Fin p e below (T28.setTop (mkF m 32 #[vr b1, vi (3 : Int32), vr d1, vi (3 : Int32), vi (4 : Int32), vi (3 : Int32), vi c3] [])) _
          have z29 := W28.size
          have K29 := K24.wr W28 (Or.inl (List.mem_of_getElem? (i := 0) rfl))
          have O29 := O24.wr W28 (by omega)
          have N29 := Fr.snoc X28 N24 (by omega)
          have Vf := V28
          simp only [own_b2] at Vf
          have hal : ∀ c ∈ ([c0, c1, c2, c3] : List Int32), ¬ (255 : Int32) < c := by
            intro c hc
            simp only [List.mem_cons, List.not_mem_nil, or_false] at hc
            rcases hc with rfl | rfl | rfl | rfl
            · exact hc20_12
            · exact hc20_17
            · exact hc20_22
            · exact hc20_27
          refine own_gs (cur' := T28.setTop (mkF m 46 #[vr b1, vi (4 : Int32), vr d1, vi (4 : Int32), vi (4 : Int32), vi (4 : Int32), vi c3] [(.int (4 : Int32))])) ?_ ?_
          · refine XS.iinc X28.here hx rfl (hb hby d_jdk_52_m_21_32) rfl (l' := #[vr b1, vi (4 : Int32), vr d1, vi (3 : Int32), vi (4 : Int32), vi (3 : Int32), vi c3]) rfl ?_
            refine XS.iinc X28.here hx rfl (hb hby d_jdk_52_m_21_35) rfl (l' := #[vr b1, vi (4 : Int32), vr d1, vi (4 : Int32), vi (4 : Int32), vi (3 : Int32), vi c3]) rfl ?_
            refine XS.iinc X28.here hx rfl (hb hby d_jdk_52_m_21_38) rfl (l' := #[vr b1, vi (4 : Int32), vr d1, vi (4 : Int32), vi (4 : Int32), vi (4 : Int32), vi c3]) rfl ?_
            show Steps p.tables e below (T28.setTop (mkF m 41 #[vr b1, vi (4 : Int32), vr d1, vi (4 : Int32), vi (4 : Int32), vi (4 : Int32), vi c3] [])) _
            refine XS.goto X28.here hx rfl (pc0 := 41) (pc' := 3) rfl (hb hby d_jdk_52_m_21_41) (by decide) (by decide) ?_
            refine XS.iload X28.here hx rfl (hb hby d_jdk_52_m_21_3) rfl ?_
            refine XS.iload X28.here hx rfl (hb hby d_jdk_52_m_21_5) rfl ?_
            show Steps p.tables e below (T28.setTop (mkF m 7 #[vr b1, vi (4 : Int32), vr d1, vi (4 : Int32), vi (4 : Int32), vi (4 : Int32), vi c3] [(.int (4 : Int32)), (.int (4 : Int32))])) _
            refine XS.icmpYes X28.here hx rfl (pc0 := 7) (pc' := 44) rfl (hb hby d_jdk_52_m_21_7) rfl (flt ((by decide) : ¬ ((4 : Int32) < (4 : Int32)))).2.1 (by decide) (by decide) ?_
            refine XS.iload X28.here hx rfl (hb hby d_jdk_52_m_21_44) rfl ?_
            exact Steps.refl _
          obtain ⟨fs, hr, hrun, hended, hW1, hsame⟩ := X28.leave (v := (some (.int (4 : Int32)))) (fun h => by rw [Bd.returns] at h; cases h)
          refine ⟨_, _, retI X28 hx Bd.returns (hb hby d_jdk_52_m_21_46) hr, hrun, hended, _, _, rfl, ?_, ⟨_, rfl⟩, hW1, hsame.mono (by decide) (by decide)⟩
          show own_u_cmp4_Q Z b1 d1 k1 k2 c0 c1 c2 c3 h0 n0 (some (.int (4 : Int32))) T28.heap _
          rw [e28]
          exact ⟨N29, K29, Or.inl ⟨rfl, hal, Vf⟩⟩
def own_u_cmpr4_Q (Z : State) (b1 : Nat) (k1 : ClassId) (c0 c1 c2 c3 : Int32) (h0 : Heap) (n0 : Nat) (v : Option Value) (h : Heap) (L : List Loc) : Prop := ∃ (t : Nat) (kb : ClassId), v = some (.ref t) ∧ Fr n0 L ∧ Keep h0 h [] ∧ h0.size ≤ t ∧ (((∀ c ∈ ([c0, c1, c2, c3] : List Int32), ¬ (255 : Int32) < c) ∧ Arv Z h t kb .byte (4 : Int32) [(.int (StrChars.lo8 c0)), (.int (StrChars.lo8 c1)), (.int (StrChars.lo8 c2)), (.int (StrChars.lo8 c3))] (.int (0 : Int32))) ∨ ((∃ c ∈ ([c0, c1, c2, c3] : List Int32), (255 : Int32) < c) ∧ Arv Z h t kb .byte (8 : Int32) (StrChars.Road.wideBytes [c0, c1, c2, c3]) (.int (0 : Int32))))
theorem ef_own_u_cmpr4 (m : MethodId) (x0 : Nat) (x1 : Int32) (x2 : Int32) : entryFrame m #[(.ref x0), (.int x1), (.int x2)] 6 = mkF m 0 #[vr x0, vi x1, vi x2, .unset, .unset, .unset] [] := by first | (simp [entryFrame, mkF, argsToLocals, Value.category]; done) | rfl
set_option maxRecDepth 65536 in
set_option maxHeartbeats 40000000 in
theorem own_u_cmpr4 (l : Launch) (Z : State) (a0 : Array Value) (hW : own_W Z a0) (b1 : Nat) (k1 : ClassId) (c0 c1 c2 c3 : Int32) (h0 : Heap) (n0 : Nat) (Z0 : n0 ≤ h0.size) (O0 : Old Z n0 h0) (V1 : Arv Z h0 b1 k1 .char (4 : Int32) [(.int c0), (.int c1), (.int c2), (.int c3)] (.int (0 : Int32))) (hb0 : ¬ c0 < 0 ∧ ¬ (65535 : Int32) < c0) (hb1 : ¬ c1 < 0 ∧ ¬ (65535 : Int32) < c1) (hb2 : ¬ c2 < 0 ∧ ¬ (65535 : Int32) < c2) (hb3 : ¬ c3 < 0 ∧ ¬ (65535 : Int32) < c3) :
    MetFree l (⟨"java/lang/StringUTF16", "compress", "([CII)[B"⟩ : MethodName) (head1 (Jvm.Cond.code (⟨"java/lang/StringUTF16", "compress", "([CII)[B"⟩ : MethodName) jdk_52_method_16_code 6 (some (.array .byte)) :: []) ({ frames := 3, cells := 2, slots := 12, locals := 40 } : Room)) (fun a U => a = #[(.ref b1), (.int (0 : Int32)), (.int (4 : Int32))] ∧ Z.Warmed39 U.vm ∧ U.heap = h0) (fun _ _ _ _ _ => True) (fun _ U o U' => ∃ v L, o = .returned v ∧ own_u_cmpr4_Q Z b1 k1 c0 c1 c2 c3 h0 n0 v U'.heap L ∧ FrameEnd U o U' L ({ frames := 3, cells := 2, slots := 12, locals := 40 } : Room).cells ({ frames := 3, cells := 2, slots := 12, locals := 40 } : Room).slots) := by
  refine MetFree.of_bodySF (plainFor_of_name pn_java_lang_StringUTF16) hisR ?_
  intro p e s m args below meth c s₁ Bd hml0 hP hK
  obtain ⟨rfl, hZ, hh⟩ := hP
  obtain ⟨hw, ⟨G1, O2, P5⟩, ⟨G3, O4, rG3⟩, Oa, Oh, Ol⟩ := id hW
  have hx := Bd.exec
  have hby := Bd.bytes
  have hml : c.maxLocals = 6 := hml0
  have hown : s.vm.findClass "java/lang/StringUTF16" = some m.cls := findClass_of_methodNamed Bd.named
  have hnm := (name_of_methodNamed Bd.named Bd.method).1
  have X0 : Stand p l e ({ frames := 3, cells := 2, slots := 12, locals := 40 } : Room) s m #[(.ref b1), (.int (0 : Int32)), (.int (4 : Int32))] below meth c s₁ [] 0 0 := Stand.of_body Bd
  have e0 : s₁.heap = h0 := by rw [← hh, Bd.state]; rfl
  have N0 := Fr.nil n0
  have K0 := Keep.refl h0 []
  have lt1 := own_lt V1.lt
  show own_Fin p e below (s₁.setTop (entryFrame m #[(.ref b1), (.int (0 : Int32)), (.int (4 : Int32))] 6)) _
  refine own_gs (castTop (ef_own_u_cmpr4 m b1 (0 : Int32) (4 : Int32)) (Steps.refl _)) ?_
  show own_Fin p e below (s₁.setTop (mkF m 0 #[vr b1, vi (0 : Int32), vi (4 : Int32), uu, uu, uu] [])) _
  refine own_gs (cur' := s₁.setTop (mkF m 1 #[vr b1, vi (0 : Int32), vi (4 : Int32), uu, uu, uu] [(.int (4 : Int32))])) ?_ ?_
  · refine XS.iloadN X0.here hx rfl (hb hby d_jdk_52_m_16_0) rfl ?_
    exact Steps.refl _
  obtain ⟨T11, h11, k11, X11, e11, E11, A11, st11⟩ := newP X0 hx hZ (hw _ (List.mem_of_getElem? (i := 16) rfl)) e0 (g := (mkF m 1 #[vr b1, vi (0 : Int32), vi (4 : Int32), uu, uu, uu] [(.int (4 : Int32))])) rfl (hb hby d_jdk_52_m_16_1) rfl (by decide) (cap := 4) (by decide) (by decide) (by decide) (by decide)
  obtain ⟨b11, g11⟩ : ∃ z, z = h0.size := ⟨_, rfl⟩
  rw [← g11] at A11 st11
  have lt11 := own_lt A11.lt
  refine own_go st11 ?_
  show own_Fin p e below (T11.setTop (mkF m 3 #[vr b1, vi (0 : Int32), vi (4 : Int32), uu, uu, uu] [(.ref b11)])) _
  have z12 := E11.1
  have K12 := K0.ext E11
  have O12 := O0.ext E11
  have V11 : Arv Z h11 b11 k11 .byte (4 : Int32) [(.int (0 : Int32)), (.int (0 : Int32)), (.int (0 : Int32)), (.int (0 : Int32))] (.int (0 : Int32)) := (Arv.new A11 (by decide)).pad (pad_rep [] (.int (0 : Int32)) 4)
  have f13 := (V1.ext E11)
  refine own_gs (cur' := T11.setTop (mkF m 9 #[vr b1, vi (0 : Int32), vi (4 : Int32), vr b11, uu, uu] [(.int (4 : Int32)), (.int (0 : Int32)), (.ref b11), (.int (0 : Int32)), (.ref b1)])) ?_ ?_
  · refine XS.astoreN X11.here hx rfl (hb hby d_jdk_52_m_16_3) rfl rfl (l' := #[vr b1, vi (0 : Int32), vi (4 : Int32), vr b11, uu, uu]) rfl ?_
    refine XS.aloadN X11.here hx rfl (hb hby d_jdk_52_m_16_4) rfl rfl ?_
    refine XS.iloadN X11.here hx rfl (hb hby d_jdk_52_m_16_5) rfl ?_
    show Steps p.tables e below (T11.setTop (mkF m 6 #[vr b1, vi (0 : Int32), vi (4 : Int32), vr b11, uu, uu] [(.int (0 : Int32)), (.ref b1)])) _
    refine XS.aloadN X11.here hx rfl (hb hby d_jdk_52_m_16_6) rfl rfl ?_
    refine XS.iconst X11.here hx rfl (hb hby d_jdk_52_m_16_7) ?_
    refine XS.iloadN X11.here hx rfl (hb hby d_jdk_52_m_16_8) rfl ?_
    exact Steps.refl _
  obtain ⟨_, _, ⟨T14, L14, k14, n14⟩, -, X14, ⟨Lc14, hQ14, l14, y14, z14⟩, st14⟩ := Jvm.LawKit.callS X11 hx (y := (⟨"java/lang/StringUTF16", "compress", "([CI[BII)I"⟩ : MethodName)) hown (mvT hZ (hw _ (List.mem_of_getElem? (i := 28) rfl))) (mvT hZ (hw _ (List.mem_of_getElem? (i := 29) rfl))) (mvT hZ (hw _ (List.mem_of_getElem? (i := 26) rfl))) (mvT hZ (hw _ (List.mem_of_getElem? (i := 30) rfl))) (by decide) (backOf (W := 0) (own_u_cmp4 l Z a0 hW b1 b11 k1 k11 c0 c1 c2 c3 h11 n0 (by omega) O12 f13 V11 (by omega) (by omega)) hZ (hw _ (List.mem_of_getElem? (i := 30) rfl)) (hw _ (List.mem_of_getElem? (i := 26) rfl)) (by decide) (by decide)) (g := (mkF m 9 #[vr b1, vi (0 : Int32), vi (4 : Int32), vr b11, uu, uu] [(.int (4 : Int32)), (.int (0 : Int32)), (.ref b11), (.int (0 : Int32)), (.ref b1)])) rfl (by rw [hml]; rfl) (argsL := [(.ref b1), (.int (0 : Int32)), (.ref b11), (.int (0 : Int32)), (.int (4 : Int32))]) (rest := []) (lenOf pd_10 rfl) rfl (by show 2 * 0 + _ ≤ _; exact Nat.le_of_eq rfl) (hb hby d_jdk_52_m_16_9) (fun _ _ => ⟨rfl, e11, (by decide : 1 + 0 ≤ 2), (by decide : 4 + 0 ≤ 12)⟩)
  dsimp only [Pt.U, Pt.locs, Pt.cells, Pt.slots] at X14 l14 y14 z14 st14 hQ14
  subst l14 y14 z14
  obtain ⟨Nq14, Kq14, hor⟩ := hQ14
  have N14 := Fr.app N0 Nq14
  have z15 := Kq14.1
  have K15 := K12.trans Kq14 (allS (Or.inr (by omega)) all0)
  have O15 := O12.keep Kq14 (allS (by omega) all0)
  rcases hor with ⟨rfl, hal, Vl⟩ | ⟨rfl, hbig⟩ | ⟨rfl, hbig⟩ | ⟨rfl, hbig⟩ | ⟨rfl, hbig⟩
  · refine own_go st14 ?_
    show own_Fin p e below (T14.setTop (mkF m 12 #[vr b1, vi (0 : Int32), vi (4 : Int32), vr b11, uu, uu] [(.int (4 : Int32))])) _
    refine own_gs (cur' := T14.setTop (mkF m 58 #[vr b1, vi (0 : Int32), vi (4 : Int32), vr b11, vi (4 : Int32), uu] [(.ref b11)])) ?_ ?_
    · refine XS.istore X14.here hx rfl (hb hby d_jdk_52_m_16_12) rfl (l' := #[vr b1, vi (0 : Int32), vi (4 : Int32), vr b11, vi (4 : Int32), uu]) rfl ?_
      refine XS.iload X14.here hx rfl (hb hby d_jdk_52_m_16_14) rfl ?_
      refine XS.iloadN X14.here hx rfl (hb hby d_jdk_52_m_16_16) rfl ?_
      show Steps p.tables e below (T14.setTop (mkF m 17 #[vr b1, vi (0 : Int32), vi (4 : Int32), vr b11, vi (4 : Int32), uu] [(.int (4 : Int32)), (.int (4 : Int32))])) _
      refine XS.icmpYes X14.here hx rfl (pc0 := 17) (pc' := 57) rfl (hb hby d_jdk_52_m_16_17) rfl (teq ((by decide) : (4 : Int32) = (4 : Int32))).1 (by decide) (by decide) ?_
      refine XS.aloadN X14.here hx rfl (hb hby d_jdk_52_m_16_57) rfl rfl ?_
      exact Steps.refl _
    obtain ⟨fs, hr, hrun, hended, hW1, hsame⟩ := X14.leave (v := (some (.ref b11))) (fun h => by rw [Bd.returns] at h; cases h)
    refine ⟨_, _, X14.areturnOut hx rfl Bd.returns rfl (hb hby d_jdk_52_m_16_58) hr, hrun, hended, _, _, rfl, ?_, ⟨_, rfl⟩, hW1, hsame.mono (by decide) (by decide)⟩
    show own_u_cmpr4_Q Z b1 k1 c0 c1 c2 c3 h0 n0 (some (.ref b11)) T14.heap _
    exact ⟨_, _, rfl, N14, K15, (by omega), Or.inl ⟨hal, Vl⟩⟩
  · refine own_go st14 ?_
    show own_Fin p e below (T14.setTop (mkF m 12 #[vr b1, vi (0 : Int32), vi (4 : Int32), vr b11, uu, uu] [(.int (0 : Int32))])) _
    have f16 := (f13.keep Kq14 (ninS (own_ne (a := b1) (b := b11) (by omega)) nin0))
    refine own_gs (cur' := T14.setTop (mkF m 23 #[vr b1, vi (0 : Int32), vi (4 : Int32), vr b11, vi (0 : Int32), uu] [(.int (4 : Int32)), (.int (0 : Int32)), (.ref b1)])) ?_ ?_
    · refine XS.istore X14.here hx rfl (hb hby d_jdk_52_m_16_12) rfl (l' := #[vr b1, vi (0 : Int32), vi (4 : Int32), vr b11, vi (0 : Int32), uu]) rfl ?_
      refine XS.iload X14.here hx rfl (hb hby d_jdk_52_m_16_14) rfl ?_
      refine XS.iloadN X14.here hx rfl (hb hby d_jdk_52_m_16_16) rfl ?_
      show Steps p.tables e below (T14.setTop (mkF m 17 #[vr b1, vi (0 : Int32), vi (4 : Int32), vr b11, vi (0 : Int32), uu] [(.int (4 : Int32)), (.int (0 : Int32))])) _
      refine XS.icmpNo X14.here hx rfl (hb hby d_jdk_52_m_16_17) rfl (feq ((by decide) : ¬ ((0 : Int32) = (4 : Int32)))).1 ?_
      refine XS.aloadN X14.here hx rfl (hb hby d_jdk_52_m_16_20) rfl rfl ?_
      refine XS.iloadN X14.here hx rfl (hb hby d_jdk_52_m_16_21) rfl ?_
      show Steps p.tables e below (T14.setTop (mkF m 22 #[vr b1, vi (0 : Int32), vi (4 : Int32), vr b11, vi (0 : Int32), uu] [(.int (0 : Int32)), (.ref b1)])) _
      refine XS.iloadN X14.here hx rfl (hb hby d_jdk_52_m_16_22) rfl ?_
      exact Steps.refl _
    obtain ⟨_, _, ⟨T17, L17, k17, n17⟩, -, X17, ⟨Lc17, hQ17, l17, y17, z17⟩, st17⟩ := Jvm.LawKit.callS X14 hx (y := (⟨"java/lang/StringUTF16", "toBytes", "([CII)[B"⟩ : MethodName)) hown (mvT hZ (hw _ (List.mem_of_getElem? (i := 74) rfl))) (mvT hZ (hw _ (List.mem_of_getElem? (i := 75) rfl))) (mvT hZ (hw _ (List.mem_of_getElem? (i := 26) rfl))) (mvT hZ (hw _ (List.mem_of_getElem? (i := 76) rfl))) (by decide) (backOf (W := 0) (own_u_tob4 l Z a0 hW b1 k1 c0 c1 c2 c3 T14.heap n0 (by omega) O15 f16) hZ (hw _ (List.mem_of_getElem? (i := 76) rfl)) (hw _ (List.mem_of_getElem? (i := 26) rfl)) (by decide) (by decide)) (g := (mkF m 23 #[vr b1, vi (0 : Int32), vi (4 : Int32), vr b11, vi (0 : Int32), uu] [(.int (4 : Int32)), (.int (0 : Int32)), (.ref b1)])) rfl (by rw [hml]; rfl) (argsL := [(.ref b1), (.int (0 : Int32)), (.int (4 : Int32))]) (rest := []) (lenOf pd_11 rfl) rfl (by show 2 * 0 + _ ≤ _; exact Nat.le_of_eq rfl) (hb hby d_jdk_52_m_16_23) (fun _ _ => ⟨rfl, rfl, (by decide : 1 + 1 ≤ 2), (by decide : 4 + 8 ≤ 12)⟩)
    dsimp only [Pt.U, Pt.locs, Pt.cells, Pt.slots] at X17 l17 y17 z17 st17 hQ17
    subst l17 y17 z17
    obtain ⟨t17, kb17, rfl, Nq17, Kq17, Vt17, ge17⟩ := hQ17
    have N17 := Fr.app N14 Nq17
    have z18 := Kq17.1
    have K18 := K15.trans Kq17 all0
    have O18 := O15.keep Kq17 all0
    have lt17 := own_lt Vt17.lt
    refine own_go st17 ?_
    show own_Fin p e below (T17.setTop (mkF m 26 #[vr b1, vi (0 : Int32), vi (4 : Int32), vr b11, vi (0 : Int32), uu] [(.ref t17)])) _
    refine own_gs (cur' := T17.setTop (mkF m 32 #[vr b1, vi (0 : Int32), vi (4 : Int32), vr b11, vi (0 : Int32), vr t17] [(.int (0 : Int32)), (.ref t17)])) ?_ ?_
    · refine XS.astore X17.here hx rfl (hb hby d_jdk_52_m_16_26) rfl rfl (l' := #[vr b1, vi (0 : Int32), vi (4 : Int32), vr b11, vi (0 : Int32), vr t17]) rfl ?_
      refine XS.aload X17.here hx rfl (hb hby d_jdk_52_m_16_28) rfl rfl ?_
      refine XS.iload X17.here hx rfl (hb hby d_jdk_52_m_16_30) rfl ?_
      exact Steps.refl _
    obtain ⟨_, _, ⟨T19, L19, k19, n19⟩, -, X19, ⟨Lc19, hQ19, l19, y19, z19⟩, st19⟩ := Jvm.LawKit.callS X17 hx (y := (⟨"java/lang/StringUTF16", "getChar", "([BI)C"⟩ : MethodName)) hown (mvT hZ (hw _ (List.mem_of_getElem? (i := 90) rfl))) (mvT hZ (hw _ (List.mem_of_getElem? (i := 91) rfl))) (mvT hZ (hw _ (List.mem_of_getElem? (i := 26) rfl))) (mvT hZ (hw _ (List.mem_of_getElem? (i := 92) rfl))) (by decide) (backOf (W := 0) (own_u_getc l Z a0 hW t17 kb17 4 0 (StrChars.Road.wideBytes [c0, c1, c2, c3]) (StrChars.lo8 c0) (StrChars.hi8 c0) T17.heap n0 (by omega) O18 (by decide) (by decide) Vt17 rfl rfl) hZ (hw _ (List.mem_of_getElem? (i := 92) rfl)) (hw _ (List.mem_of_getElem? (i := 26) rfl)) (by decide) (by decide)) (g := (mkF m 32 #[vr b1, vi (0 : Int32), vi (4 : Int32), vr b11, vi (0 : Int32), vr t17] [(.int (0 : Int32)), (.ref t17)])) rfl (by rw [hml]; rfl) (argsL := [(.ref t17), (.int (0 : Int32))]) (rest := []) (lenOf pd_5 rfl) rfl (by show 2 * 0 + _ ≤ _; exact Nat.le_of_eq rfl) (hb hby d_jdk_52_m_16_32) (fun _ _ => ⟨rfl, rfl, (by decide : 2 + 0 ≤ 2), (by decide : 12 + 0 ≤ 12)⟩)
    dsimp only [Pt.U, Pt.locs, Pt.cells, Pt.slots] at X19 l19 y19 z19 st19 hQ19
    subst l19 y19 z19
    obtain ⟨rfl, Nq19, eh19⟩ := hQ19
    have N19 := Fr.app N17 Nq19
    rw [StrChars.pair_says hb0.1 hb0.2] at st19
    refine own_go st19 ?_
    show own_Fin p e below (T19.setTop (mkF m 35 #[vr b1, vi (0 : Int32), vi (4 : Int32), vr b11, vi (0 : Int32), vr t17] [(.int c0)])) _
    refine own_gs (cur' := T19.setTop (mkF m 56 #[vr b1, vi (0 : Int32), vi (4 : Int32), vr b11, vi (0 : Int32), vr t17] [(.ref t17)])) ?_ ?_
    · refine XS.sipush X19.here hx rfl (hb hby d_jdk_52_m_16_35) ?_
      refine XS.icmpYes X19.here hx rfl (pc0 := 38) (pc' := 54) rfl (hb hby d_jdk_52_m_16_38) rfl (tlt (hbig : (255 : Int32) < c0)).2.2.1 (by decide) (by decide) ?_
      refine XS.aload X19.here hx rfl (hb hby d_jdk_52_m_16_54) rfl rfl ?_
      exact Steps.refl _
    obtain ⟨fs, hr, hrun, hended, hW1, hsame⟩ := X19.leave (v := (some (.ref t17))) (fun h => by rw [Bd.returns] at h; cases h)
    refine ⟨_, _, X19.areturnOut hx rfl Bd.returns rfl (hb hby d_jdk_52_m_16_56) hr, hrun, hended, _, _, rfl, ?_, ⟨_, rfl⟩, hW1, hsame.mono (by decide) (by decide)⟩
    show own_u_cmpr4_Q Z b1 k1 c0 c1 c2 c3 h0 n0 (some (.ref t17)) T19.heap _
    rw [eh19]
    exact ⟨_, _, rfl, N19, K18, (by omega), Or.inr ⟨⟨_, List.mem_of_getElem? (i := 0) rfl, hbig⟩, Vt17⟩⟩
  · refine own_go st14 ?_
    show own_Fin p e below (T14.setTop (mkF m 12 #[vr b1, vi (0 : Int32), vi (4 : Int32), vr b11, uu, uu] [(.int (1 : Int32))])) _
    have f20 := (f13.keep Kq14 (ninS (own_ne (a := b1) (b := b11) (by omega)) nin0))
    refine own_gs (cur' := T14.setTop (mkF m 23 #[vr b1, vi (0 : Int32), vi (4 : Int32), vr b11, vi (1 : Int32), uu] [(.int (4 : Int32)), (.int (0 : Int32)), (.ref b1)])) ?_ ?_
    · refine XS.istore X14.here hx rfl (hb hby d_jdk_52_m_16_12) rfl (l' := #[vr b1, vi (0 : Int32), vi (4 : Int32), vr b11, vi (1 : Int32), uu]) rfl ?_
      refine XS.iload X14.here hx rfl (hb hby d_jdk_52_m_16_14) rfl ?_
      refine XS.iloadN X14.here hx rfl (hb hby d_jdk_52_m_16_16) rfl ?_
      show Steps p.tables e below (T14.setTop (mkF m 17 #[vr b1, vi (0 : Int32), vi (4 : Int32), vr b11, vi (1 : Int32), uu] [(.int (4 : Int32)), (.int (1 : Int32))])) _
      refine XS.icmpNo X14.here hx rfl (hb hby d_jdk_52_m_16_17) rfl (feq ((by decide) : ¬ ((1 : Int32) = (4 : Int32)))).1 ?_
      refine XS.aloadN X14.here hx rfl (hb hby d_jdk_52_m_16_20) rfl rfl ?_
      refine XS.iloadN X14.here hx rfl (hb hby d_jdk_52_m_16_21) rfl ?_
      show Steps p.tables e below (T14.setTop (mkF m 22 #[vr b1, vi (0 : Int32), vi (4 : Int32), vr b11, vi (1 : Int32), uu] [(.int (0 : Int32)), (.ref b1)])) _
      refine XS.iloadN X14.here hx rfl (hb hby d_jdk_52_m_16_22) rfl ?_
      exact Steps.refl _
    obtain ⟨_, _, ⟨T21, L21, k21, n21⟩, -, X21, ⟨Lc21, hQ21, l21, y21, z21⟩, st21⟩ := Jvm.LawKit.callS X14 hx (y := (⟨"java/lang/StringUTF16", "toBytes", "([CII)[B"⟩ : MethodName)) hown (mvT hZ (hw _ (List.mem_of_getElem? (i := 74) rfl))) (mvT hZ (hw _ (List.mem_of_getElem? (i := 75) rfl))) (mvT hZ (hw _ (List.mem_of_getElem? (i := 26) rfl))) (mvT hZ (hw _ (List.mem_of_getElem? (i := 76) rfl))) (by decide) (backOf (W := 0) (own_u_tob4 l Z a0 hW b1 k1 c0 c1 c2 c3 T14.heap n0 (by omega) O15 f20) hZ (hw _ (List.mem_of_getElem? (i := 76) rfl)) (hw _ (List.mem_of_getElem? (i := 26) rfl)) (by decide) (by decide)) (g := (mkF m 23 #[vr b1, vi (0 : Int32), vi (4 : Int32), vr b11, vi (1 : Int32), uu] [(.int (4 : Int32)), (.int (0 : Int32)), (.ref b1)])) rfl (by rw [hml]; rfl) (argsL := [(.ref b1), (.int (0 : Int32)), (.int (4 : Int32))]) (rest := []) (lenOf pd_11 rfl) rfl (by show 2 * 0 + _ ≤ _; exact Nat.le_of_eq rfl) (hb hby d_jdk_52_m_16_23) (fun _ _ => ⟨rfl, rfl, (by decide : 1 + 1 ≤ 2), (by decide : 4 + 8 ≤ 12)⟩)
    dsimp only [Pt.U, Pt.locs, Pt.cells, Pt.slots] at X21 l21 y21 z21 st21 hQ21
    subst l21 y21 z21
    obtain ⟨t21, kb21, rfl, Nq21, Kq21, Vt21, ge21⟩ := hQ21
    have N21 := Fr.app N14 Nq21
    have z22 := Kq21.1
    have K22 := K15.trans Kq21 all0
    have O22 := O15.keep Kq21 all0
    have lt21 := own_lt Vt21.lt
    refine own_go st21 ?_
    show own_Fin p e below (T21.setTop (mkF m 26 #[vr b1, vi (0 : Int32), vi (4 : Int32), vr b11, vi (1 : Int32), uu] [(.ref t21)])) _
    refine own_gs (cur' := T21.setTop (mkF m 32 #[vr b1, vi (0 : Int32), vi (4 : Int32), vr b11, vi (1 : Int32), vr t21] [(.int (1 : Int32)), (.ref t21)])) ?_ ?_
    · refine XS.astore X21.here hx rfl (hb hby d_jdk_52_m_16_26) rfl rfl (l' := #[vr b1, vi (0 : Int32), vi (4 : Int32), vr b11, vi (1 : Int32), vr t21]) rfl ?_
      refine XS.aload X21.here hx rfl (hb hby d_jdk_52_m_16_28) rfl rfl ?_
      refine XS.iload X21.here hx rfl (hb hby d_jdk_52_m_16_30) rfl ?_
      exact Steps.refl _
    obtain ⟨_, _, ⟨T23, L23, k23, n23⟩, -, X23, ⟨Lc23, hQ23, l23, y23, z23⟩, st23⟩ := Jvm.LawKit.callS X21 hx (y := (⟨"java/lang/StringUTF16", "getChar", "([BI)C"⟩ : MethodName)) hown (mvT hZ (hw _ (List.mem_of_getElem? (i := 90) rfl))) (mvT hZ (hw _ (List.mem_of_getElem? (i := 91) rfl))) (mvT hZ (hw _ (List.mem_of_getElem? (i := 26) rfl))) (mvT hZ (hw _ (List.mem_of_getElem? (i := 92) rfl))) (by decide) (backOf (W := 0) (own_u_getc l Z a0 hW t21 kb21 4 1 (StrChars.Road.wideBytes [c0, c1, c2, c3]) (StrChars.lo8 c1) (StrChars.hi8 c1) T21.heap n0 (by omega) O22 (by decide) (by decide) Vt21 rfl rfl) hZ (hw _ (List.mem_of_getElem? (i := 92) rfl)) (hw _ (List.mem_of_getElem? (i := 26) rfl)) (by decide) (by decide)) (g := (mkF m 32 #[vr b1, vi (0 : Int32), vi (4 : Int32), vr b11, vi (1 : Int32), vr t21] [(.int (1 : Int32)), (.ref t21)])) rfl (by rw [hml]; rfl) (argsL := [(.ref t21), (.int (1 : Int32))]) (rest := []) (lenOf pd_5 rfl) rfl (by show 2 * 0 + _ ≤ _; exact Nat.le_of_eq rfl) (hb hby d_jdk_52_m_16_32) (fun _ _ => ⟨rfl, rfl, (by decide : 2 + 0 ≤ 2), (by decide : 12 + 0 ≤ 12)⟩)
    dsimp only [Pt.U, Pt.locs, Pt.cells, Pt.slots] at X23 l23 y23 z23 st23 hQ23
    subst l23 y23 z23
    obtain ⟨rfl, Nq23, eh23⟩ := hQ23
    have N23 := Fr.app N21 Nq23
    rw [StrChars.pair_says hb1.1 hb1.2] at st23
    refine own_go st23 ?_
    show own_Fin p e below (T23.setTop (mkF m 35 #[vr b1, vi (0 : Int32), vi (4 : Int32), vr b11, vi (1 : Int32), vr t21] [(.int c1)])) _
    refine own_gs (cur' := T23.setTop (mkF m 56 #[vr b1, vi (0 : Int32), vi (4 : Int32), vr b11, vi (1 : Int32), vr t21] [(.ref t21)])) ?_ ?_
    · refine XS.sipush X23.here hx rfl (hb hby d_jdk_52_m_16_35) ?_
      refine XS.icmpYes X23.here hx rfl (pc0 := 38) (pc' := 54) rfl (hb hby d_jdk_52_m_16_38) rfl (tlt (hbig : (255 : Int32) < c1)).2.2.1 (by decide) (by decide) ?_
      refine XS.aload X23.here hx rfl (hb hby d_jdk_52_m_16_54) rfl rfl ?_
      exact Steps.refl _
    obtain ⟨fs, hr, hrun, hended, hW1, hsame⟩ := X23.leave (v := (some (.ref t21))) (fun h => by rw [Bd.returns] at h; cases h)
    refine ⟨_, _, X23.areturnOut hx rfl Bd.returns rfl (hb hby d_jdk_52_m_16_56) hr, hrun, hended, _, _, rfl, ?_, ⟨_, rfl⟩, hW1, hsame.mono (by decide) (by decide)⟩
    show own_u_cmpr4_Q Z b1 k1 c0 c1 c2 c3 h0 n0 (some (.ref t21)) T23.heap _
    rw [eh23]
    exact ⟨_, _, rfl, N23, K22, (by omega), Or.inr ⟨⟨_, List.mem_of_getElem? (i := 1) rfl, hbig⟩, Vt21⟩⟩
  · refine own_go st14 ?_
    show own_Fin p e below (T14.setTop (mkF m 12 #[vr b1, vi (0 : Int32), vi (4 : Int32), vr b11, uu, uu] [(.int (2 : Int32))])) _
    have f24 := (f13.keep Kq14 (ninS (own_ne (a := b1) (b := b11) (by omega)) nin0))
    refine own_gs (cur' := T14.setTop (mkF m 23 #[vr b1, vi (0 : Int32), vi (4 : Int32), vr b11, vi (2 : Int32), uu] [(.int (4 : Int32)), (.int (0 : Int32)), (.ref b1)])) ?_ ?_
    · refine XS.istore X14.here hx rfl (hb hby d_jdk_52_m_16_12) rfl (l' := #[vr b1, vi (0 : Int32), vi (4 : Int32), vr b11, vi (2 : Int32), uu]) rfl ?_
      refine XS.iload X14.here hx rfl (hb hby d_jdk_52_m_16_14) rfl ?_
      refine XS.iloadN X14.here hx rfl (hb hby d_jdk_52_m_16_16) rfl ?_
      show Steps p.tables e below (T14.setTop (mkF m 17 #[vr b1, vi (0 : Int32), vi (4 : Int32), vr b11, vi (2 : Int32), uu] [(.int (4 : Int32)), (.int (2 : Int32))])) _
      refine XS.icmpNo X14.here hx rfl (hb hby d_jdk_52_m_16_17) rfl (feq ((by decide) : ¬ ((2 : Int32) = (4 : Int32)))).1 ?_
      refine XS.aloadN X14.here hx rfl (hb hby d_jdk_52_m_16_20) rfl rfl ?_
      refine XS.iloadN X14.here hx rfl (hb hby d_jdk_52_m_16_21) rfl ?_
      show Steps p.tables e below (T14.setTop (mkF m 22 #[vr b1, vi (0 : Int32), vi (4 : Int32), vr b11, vi (2 : Int32), uu] [(.int (0 : Int32)), (.ref b1)])) _
      refine XS.iloadN X14.here hx rfl (hb hby d_jdk_52_m_16_22) rfl ?_
      exact Steps.refl _
    obtain ⟨_, _, ⟨T25, L25, k25, n25⟩, -, X25, ⟨Lc25, hQ25, l25, y25, z25⟩, st25⟩ := Jvm.LawKit.callS X14 hx (y := (⟨"java/lang/StringUTF16", "toBytes", "([CII)[B"⟩ : MethodName)) hown (mvT hZ (hw _ (List.mem_of_getElem? (i := 74) rfl))) (mvT hZ (hw _ (List.mem_of_getElem? (i := 75) rfl))) (mvT hZ (hw _ (List.mem_of_getElem? (i := 26) rfl))) (mvT hZ (hw _ (List.mem_of_getElem? (i := 76) rfl))) (by decide) (backOf (W := 0) (own_u_tob4 l Z a0 hW b1 k1 c0 c1 c2 c3 T14.heap n0 (by omega) O15 f24) hZ (hw _ (List.mem_of_getElem? (i := 76) rfl)) (hw _ (List.mem_of_getElem? (i := 26) rfl)) (by decide) (by decide)) (g := (mkF m 23 #[vr b1, vi (0 : Int32), vi (4 : Int32), vr b11, vi (2 : Int32), uu] [(.int (4 : Int32)), (.int (0 : Int32)), (.ref b1)])) rfl (by rw [hml]; rfl) (argsL := [(.ref b1), (.int (0 : Int32)), (.int (4 : Int32))]) (rest := []) (lenOf pd_11 rfl) rfl (by show 2 * 0 + _ ≤ _; exact Nat.le_of_eq rfl) (hb hby d_jdk_52_m_16_23) (fun _ _ => ⟨rfl, rfl, (by decide : 1 + 1 ≤ 2), (by decide : 4 + 8 ≤ 12)⟩)
    dsimp only [Pt.U, Pt.locs, Pt.cells, Pt.slots] at X25 l25 y25 z25 st25 hQ25
    subst l25 y25 z25
    obtain ⟨t25, kb25, rfl, Nq25, Kq25, Vt25, ge25⟩ := hQ25
    have N25 := Fr.app N14 Nq25
    have z26 := Kq25.1
    have K26 := K15.trans Kq25 all0
    have O26 := O15.keep Kq25 all0
    have lt25 := own_lt Vt25.lt
    refine own_go st25 ?_
    show own_Fin p e below (T25.setTop (mkF m 26 #[vr b1, vi (0 : Int32), vi (4 : Int32), vr b11, vi (2 : Int32), uu] [(.ref t25)])) _
    refine own_gs (cur' := T25.setTop (mkF m 32 #[vr b1, vi (0 : Int32), vi (4 : Int32), vr b11, vi (2 : Int32), vr t25] [(.int (2 : Int32)), (.ref t25)])) ?_ ?_
    · refine XS.astore X25.here hx rfl (hb hby d_jdk_52_m_16_26) rfl rfl (l' := #[vr b1, vi (0 : Int32), vi (4 : Int32), vr b11, vi (2 : Int32), vr t25]) rfl ?_
      refine XS.aload X25.here hx rfl (hb hby d_jdk_52_m_16_28) rfl rfl ?_
      refine XS.iload X25.here hx rfl (hb hby d_jdk_52_m_16_30) rfl ?_
      exact Steps.refl _
    obtain ⟨_, _, ⟨T27, L27, k27, n27⟩, -, X27, ⟨Lc27, hQ27, l27, y27, z27⟩, st27⟩ := Jvm.LawKit.callS X25 hx (y := (⟨"java/lang/StringUTF16", "getChar", "([BI)C"⟩ : MethodName)) hown (mvT hZ (hw _ (List.mem_of_getElem? (i := 90) rfl))) (mvT hZ (hw _ (List.mem_of_getElem? (i := 91) rfl))) (mvT hZ (hw _ (List.mem_of_getElem? (i := 26) rfl))) (mvT hZ (hw _ (List.mem_of_getElem? (i := 92) rfl))) (by decide) (backOf (W := 0) (own_u_getc l Z a0 hW t25 kb25 4 2 (StrChars.Road.wideBytes [c0, c1, c2, c3]) (StrChars.lo8 c2) (StrChars.hi8 c2) T25.heap n0 (by omega) O26 (by decide) (by decide) Vt25 rfl rfl) hZ (hw _ (List.mem_of_getElem? (i := 92) rfl)) (hw _ (List.mem_of_getElem? (i := 26) rfl)) (by decide) (by decide)) (g := (mkF m 32 #[vr b1, vi (0 : Int32), vi (4 : Int32), vr b11, vi (2 : Int32), vr t25] [(.int (2 : Int32)), (.ref t25)])) rfl (by rw [hml]; rfl) (argsL := [(.ref t25), (.int (2 : Int32))]) (rest := []) (lenOf pd_5 rfl) rfl (by show 2 * 0 + _ ≤ _; exact Nat.le_of_eq rfl) (hb hby d_jdk_52_m_16_32) (fun _ _ => ⟨rfl, rfl, (by decide : 2 + 0 ≤ 2), (by decide : 12 + 0 ≤ 12)⟩)
    dsimp only [Pt.U, Pt.locs, Pt.cells, Pt.slots] at X27 l27 y27 z27 st27 hQ27
    subst l27 y27 z27
    obtain ⟨rfl, Nq27, eh27⟩ := hQ27
    have N27 := Fr.app N25 Nq27
    rw [StrChars.pair_says hb2.1 hb2.2] at st27
    refine own_go st27 ?_
    show own_Fin p e below (T27.setTop (mkF m 35 #[vr b1, vi (0 : Int32), vi (4 : Int32), vr b11, vi (2 : Int32), vr t25] [(.int c2)])) _
    refine own_gs (cur' := T27.setTop (mkF m 56 #[vr b1, vi (0 : Int32), vi (4 : Int32), vr b11, vi (2 : Int32), vr t25] [(.ref t25)])) ?_ ?_
    · refine XS.sipush X27.here hx rfl (hb hby d_jdk_52_m_16_35) ?_
      refine XS.icmpYes X27.here hx rfl (pc0 := 38) (pc' := 54) rfl (hb hby d_jdk_52_m_16_38) rfl (tlt (hbig : (255 : Int32) < c2)).2.2.1 (by decide) (by decide) ?_
      refine XS.aload X27.here hx rfl (hb hby d_jdk_52_m_16_54) rfl rfl ?_
      exact Steps.refl _
    obtain ⟨fs, hr, hrun, hended, hW1, hsame⟩ := X27.leave (v := (some (.ref t25))) (fun h => by rw [Bd.returns] at h; cases h)
    refine ⟨_, _, X27.areturnOut hx rfl Bd.returns rfl (hb hby d_jdk_52_m_16_56) hr, hrun, hended, _, _, rfl, ?_, ⟨_, rfl⟩, hW1, hsame.mono (by decide) (by decide)⟩
    show own_u_cmpr4_Q Z b1 k1 c0 c1 c2 c3 h0 n0 (some (.ref t25)) T27.heap _
    rw [eh27]
    exact ⟨_, _, rfl, N27, K26, (by omega), Or.inr ⟨⟨_, List.mem_of_getElem? (i := 2) rfl, hbig⟩, Vt25⟩⟩
  · refine own_go st14 ?_
    show own_Fin p e below (T14.setTop (mkF m 12 #[vr b1, vi (0 : Int32), vi (4 : Int32), vr b11, uu, uu] [(.int (3 : Int32))])) _
    have f28 := (f13.keep Kq14 (ninS (own_ne (a := b1) (b := b11) (by omega)) nin0))
    refine own_gs (cur' := T14.setTop (mkF m 23 #[vr b1, vi (0 : Int32), vi (4 : Int32), vr b11, vi (3 : Int32), uu] [(.int (4 : Int32)), (.int (0 : Int32)), (.ref b1)])) ?_ ?_
    · refine XS.istore X14.here hx rfl (hb hby d_jdk_52_m_16_12) rfl (l' := #[vr b1, vi (0 : Int32), vi (4 : Int32), vr b11, vi (3 : Int32), uu]) rfl ?_
      refine XS.iload X14.here hx rfl (hb hby d_jdk_52_m_16_14) rfl ?_
      refine XS.iloadN X14.here hx rfl (hb hby d_jdk_52_m_16_16) rfl ?_
      show Steps p.tables e below (T14.setTop (mkF m 17 #[vr b1, vi (0 : Int32), vi (4 : Int32), vr b11, vi (3 : Int32), uu] [(.int (4 : Int32)), (.int (3 : Int32))])) _
      refine XS.icmpNo X14.here hx rfl (hb hby d_jdk_52_m_16_17) rfl (feq ((by decide) : ¬ ((3 : Int32) = (4 : Int32)))).1 ?_
      refine XS.aloadN X14.here hx rfl (hb hby d_jdk_52_m_16_20) rfl rfl ?_
      refine XS.iloadN X14.here hx rfl (hb hby d_jdk_52_m_16_21) rfl ?_
      show Steps p.tables e below (T14.setTop (mkF m 22 #[vr b1, vi (0 : Int32), vi (4 : Int32), vr b11, vi (3 : Int32), uu] [(.int (0 : Int32)), (.ref b1)])) _
      refine XS.iloadN X14.here hx rfl (hb hby d_jdk_52_m_16_22) rfl ?_
      exact Steps.refl _
    obtain ⟨_, _, ⟨T29, L29, k29, n29⟩, -, X29, ⟨Lc29, hQ29, l29, y29, z29⟩, st29⟩ := Jvm.LawKit.callS X14 hx (y := (⟨"java/lang/StringUTF16", "toBytes", "([CII)[B"⟩ : MethodName)) hown (mvT hZ (hw _ (List.mem_of_getElem? (i := 74) rfl))) (mvT hZ (hw _ (List.mem_of_getElem? (i := 75) rfl))) (mvT hZ (hw _ (List.mem_of_getElem? (i := 26) rfl))) (mvT hZ (hw _ (List.mem_of_getElem? (i := 76) rfl))) (by decide) (backOf (W := 0) (own_u_tob4 l Z a0 hW b1 k1 c0 c1 c2 c3 T14.heap n0 (by omega) O15 f28) hZ (hw _ (List.mem_of_getElem? (i := 76) rfl)) (hw _ (List.mem_of_getElem? (i := 26) rfl)) (by decide) (by decide)) (g := (mkF m 23 #[vr b1, vi (0 : Int32), vi (4 : Int32), vr b11, vi (3 : Int32), uu] [(.int (4 : Int32)), (.int (0 : Int32)), (.ref b1)])) rfl (by rw [hml]; rfl) (argsL := [(.ref b1), (.int (0 : Int32)), (.int (4 : Int32))]) (rest := []) (lenOf pd_11 rfl) rfl (by show 2 * 0 + _ ≤ _; exact Nat.le_of_eq rfl) (hb hby d_jdk_52_m_16_23) (fun _ _ => ⟨rfl, rfl, (by decide : 1 + 1 ≤ 2), (by decide : 4 + 8 ≤ 12)⟩)
    dsimp only [Pt.U, Pt.locs, Pt.cells, Pt.slots] at X29 l29 y29 z29 st29 hQ29
    subst l29 y29 z29
    obtain ⟨t29, kb29, rfl, Nq29, Kq29, Vt29, ge29⟩ := hQ29
    have N29 := Fr.app N14 Nq29
    have z30 := Kq29.1
    have K30 := K15.trans Kq29 all0
    have O30 := O15.keep Kq29 all0
    have lt29 := own_lt Vt29.lt
    refine own_go st29 ?_
    show own_Fin p e below (T29.setTop (mkF m 26 #[vr b1, vi (0 : Int32), vi (4 : Int32), vr b11, vi (3 : Int32), uu] [(.ref t29)])) _
    refine own_gs (cur' := T29.setTop (mkF m 32 #[vr b1, vi (0 : Int32), vi (4 : Int32), vr b11, vi (3 : Int32), vr t29] [(.int (3 : Int32)), (.ref t29)])) ?_ ?_
    · refine XS.astore X29.here hx rfl (hb hby d_jdk_52_m_16_26) rfl rfl (l' := #[vr b1, vi (0 : Int32), vi (4 : Int32), vr b11, vi (3 : Int32), vr t29]) rfl ?_
      refine XS.aload X29.here hx rfl (hb hby d_jdk_52_m_16_28) rfl rfl ?_
      refine XS.iload X29.here hx rfl (hb hby d_jdk_52_m_16_30) rfl ?_
      exact Steps.refl _
    obtain ⟨_, _, ⟨T31, L31, k31, n31⟩, -, X31, ⟨Lc31, hQ31, l31, y31, z31⟩, st31⟩ := Jvm.LawKit.callS X29 hx (y := (⟨"java/lang/StringUTF16", "getChar", "([BI)C"⟩ : MethodName)) hown (mvT hZ (hw _ (List.mem_of_getElem? (i := 90) rfl))) (mvT hZ (hw _ (List.mem_of_getElem? (i := 91) rfl))) (mvT hZ (hw _ (List.mem_of_getElem? (i := 26) rfl))) (mvT hZ (hw _ (List.mem_of_getElem? (i := 92) rfl))) (by decide) (backOf (W := 0) (own_u_getc l Z a0 hW t29 kb29 4 3 (StrChars.Road.wideBytes [c0, c1, c2, c3]) (StrChars.lo8 c3) (StrChars.hi8 c3) T29.heap n0 (by omega) O30 (by decide) (by decide) Vt29 rfl rfl) hZ (hw _ (List.mem_of_getElem? (i := 92) rfl)) (hw _ (List.mem_of_getElem? (i := 26) rfl)) (by decide) (by decide)) (g := (mkF m 32 #[vr b1, vi (0 : Int32), vi (4 : Int32), vr b11, vi (3 : Int32), vr t29] [(.int (3 : Int32)), (.ref t29)])) rfl (by rw [hml]; rfl) (argsL := [(.ref t29), (.int (3 : Int32))]) (rest := []) (lenOf pd_5 rfl) rfl (by show 2 * 0 + _ ≤ _; exact Nat.le_of_eq rfl) (hb hby d_jdk_52_m_16_32) (fun _ _ => ⟨rfl, rfl, (by decide : 2 + 0 ≤ 2), (by decide : 12 + 0 ≤ 12)⟩)
    dsimp only [Pt.U, Pt.locs, Pt.cells, Pt.slots] at X31 l31 y31 z31 st31 hQ31
    subst l31 y31 z31
    obtain ⟨rfl, Nq31, eh31⟩ := hQ31
    have N31 := Fr.app N29 Nq31
    rw [StrChars.pair_says hb3.1 hb3.2] at st31
    refine own_go st31 ?_
    show own_Fin p e below (T31.setTop (mkF m 35 #[vr b1, vi (0 : Int32), vi (4 : Int32), vr b11, vi (3 : Int32), vr t29] [(.int c3)])) _
    refine own_gs (cur' := T31.setTop (mkF m 56 #[vr b1, vi (0 : Int32), vi (4 : Int32), vr b11, vi (3 : Int32), vr t29] [(.ref t29)])) ?_ ?_
    · refine XS.sipush X31.here hx rfl (hb hby d_jdk_52_m_16_35) ?_
      refine XS.icmpYes X31.here hx rfl (pc0 := 38) (pc' := 54) rfl (hb hby d_jdk_52_m_16_38) rfl (tlt (hbig : (255 : Int32) < c3)).2.2.1 (by decide) (by decide) ?_
      refine XS.aload X31.here hx rfl (hb hby d_jdk_52_m_16_54) rfl rfl ?_
      exact Steps.refl _
    obtain ⟨fs, hr, hrun, hended, hW1, hsame⟩ := X31.leave (v := (some (.ref t29))) (fun h => by rw [Bd.returns] at h; cases h)
    refine ⟨_, _, X31.areturnOut hx rfl Bd.returns rfl (hb hby d_jdk_52_m_16_56) hr, hrun, hended, _, _, rfl, ?_, ⟨_, rfl⟩, hW1, hsame.mono (by decide) (by decide)⟩
    show own_u_cmpr4_Q Z b1 k1 c0 c1 c2 c3 h0 n0 (some (.ref t29)) T31.heap _
    rw [eh31]
    exact ⟨_, _, rfl, N31, K30, (by omega), Or.inr ⟨⟨_, List.mem_of_getElem? (i := 3) rfl, hbig⟩, Vt29⟩⟩
def own_u_cfa4_0_Q (Z : State) (t1 : Nat) (k1 : ClassId) (vs : List Value) (h0 : Heap) (n0 : Nat) (v : Option Value) (h : Heap) (L : List Loc) : Prop := v = (some (.int (0 : Int32))) ∧ Fr n0 L ∧ h = h0
theorem ef_own_u_cfa4_0 (m : MethodId) (x0 : Nat) (x1 : Int32) : entryFrame m #[(.ref x0), (.int x1)] 2 = mkF m 0 #[vr x0, vi x1] [] := by first | (simp [entryFrame, mkF, argsToLocals, Value.category]; done) | rfl
set_option maxRecDepth 65536 in
set_option maxHeartbeats 40000000 in
theorem own_u_cfa4_0 (l : Launch) (Z : State) (a0 : Array Value) (hW : own_W Z a0) (t1 : Nat) (k1 : ClassId) (vs : List Value) (h0 : Heap) (n0 : Nat) (Z0 : n0 ≤ h0.size) (O0 : Old Z n0 h0) (V1 : Arv Z h0 t1 k1 .byte (4 : Int32) vs (.int (0 : Int32))) :
    MetFree l (⟨"java/lang/StringUTF16", "coderFromArrayLen", "([BI)B"⟩ : MethodName) (head1 (Jvm.Cond.code (⟨"java/lang/StringUTF16", "coderFromArrayLen", "([BI)B"⟩ : MethodName) jdk_52_method_15_code 2 (some .byte) :: []) ({ frames := 0, cells := 0, slots := 0, locals := 0 } : Room)) (fun a U => a = #[(.ref t1), (.int (4 : Int32))] ∧ Z.Warmed39 U.vm ∧ U.heap = h0) (fun _ _ _ _ _ => True) (fun _ U o U' => ∃ v L, o = .returned v ∧ own_u_cfa4_0_Q Z t1 k1 vs h0 n0 v U'.heap L ∧ FrameEnd U o U' L ({ frames := 0, cells := 0, slots := 0, locals := 0 } : Room).cells ({ frames := 0, cells := 0, slots := 0, locals := 0 } : Room).slots) := by
  refine MetFree.of_bodySF (plainFor_of_name pn_java_lang_StringUTF16) hisR ?_
  intro p e s m args below meth c s₁ Bd hml0 hP hK
  obtain ⟨rfl, hZ, hh⟩ := hP
  obtain ⟨hw, ⟨G1, O2, P5⟩, ⟨G3, O4, rG3⟩, Oa, Oh, Ol⟩ := id hW
  have hx := Bd.exec
  have hby := Bd.bytes
  have hml : c.maxLocals = 2 := hml0
  have hown : s.vm.findClass "java/lang/StringUTF16" = some m.cls := findClass_of_methodNamed Bd.named
  have hnm := (name_of_methodNamed Bd.named Bd.method).1
  have X0 : Stand p l e ({ frames := 0, cells := 0, slots := 0, locals := 0 } : Room) s m #[(.ref t1), (.int (4 : Int32))] below meth c s₁ [] 0 0 := Stand.of_body Bd
  have e0 : s₁.heap = h0 := by rw [← hh, Bd.state]; rfl
  have N0 := Fr.nil n0
  have K0 := Keep.refl h0 []
  show own_Fin p e below (s₁.setTop (entryFrame m #[(.ref t1), (.int (4 : Int32))] 2)) _
  refine own_gs (castTop (ef_own_u_cfa4_0 m t1 (4 : Int32)) (Steps.refl _)) ?_
  show own_Fin p e below (s₁.setTop (mkF m 0 #[vr t1, vi (4 : Int32)] [])) _
  refine own_gs (cur' := s₁.setTop (mkF m 2 #[vr t1, vi (4 : Int32)] [(.ref t1), (.int (4 : Int32))])) ?_ ?_
  · refine XS.iloadN X0.here hx rfl (hb hby d_jdk_52_m_15_0) rfl ?_
    refine XS.aloadN X0.here hx rfl (hb hby d_jdk_52_m_15_1) rfl rfl ?_
    exact Steps.refl _
  obtain ⟨cl11, Ar11, q11, S11, M11, Hs11, G11⟩ := id V1
  refine own_go (X0.arraylength hx (by rw [e0]; exact Ar11.1) (State.isArrayOf_alike hZ.alike Ar11.2.1) (g := (mkF m 2 #[vr t1, vi (4 : Int32)] [(.ref t1), (.int (4 : Int32))])) rfl rfl (hb hby d_jdk_52_m_15_2)) ?_
  rw [len_of S11 M11]
  show own_Fin p e below (s₁.setTop (mkF m 3 #[vr t1, vi (4 : Int32)] [(.int (4 : Int32)), (.int (4 : Int32))])) _
  refine own_gs (cur' := s₁.setTop (mkF m 8 #[vr t1, vi (4 : Int32)] [(.int (0 : Int32))])) ?_ ?_
  · refine XS.isub X0.here hx rfl (hb hby d_jdk_52_m_15_3) rfl ?_
    refine XS.bipush X0.here hx rfl (hb hby d_jdk_52_m_15_4) ?_
    refine XS.iushr X0.here hx rfl (hb hby d_jdk_52_m_15_6) rfl ?_
    show Steps p.tables e below (s₁.setTop (mkF m 7 #[vr t1, vi (4 : Int32)] [(.int (0 : Int32))])) _
    refine XS.i2b X0.here hx rfl (hb hby d_jdk_52_m_15_7) rfl ?_
    exact Steps.refl _
  obtain ⟨fs, hr, hrun, hended, hW1, hsame⟩ := X0.leave (v := (some (.int (0 : Int32)))) (fun h => by rw [Bd.returns] at h; cases h)
  refine ⟨_, _, retN X0 hx (t := .byte) Bd.returns (by simp) (hb hby d_jdk_52_m_15_8) hr, hrun, hended, _, _, rfl, ?_, ⟨_, rfl⟩, hW1, hsame.mono (by decide) (by decide)⟩
  show own_u_cfa4_0_Q Z t1 k1 vs h0 n0 (some (.int (0 : Int32))) s₁.heap _
  rw [e0]
  exact ⟨rfl, N0, rfl⟩
def own_u_cfa4_1_Q (Z : State) (t1 : Nat) (k1 : ClassId) (vs : List Value) (h0 : Heap) (n0 : Nat) (v : Option Value) (h : Heap) (L : List Loc) : Prop := v = (some (.int (1 : Int32))) ∧ Fr n0 L ∧ h = h0
theorem ef_own_u_cfa4_1 (m : MethodId) (x0 : Nat) (x1 : Int32) : entryFrame m #[(.ref x0), (.int x1)] 2 = mkF m 0 #[vr x0, vi x1] [] := by first | (simp [entryFrame, mkF, argsToLocals, Value.category]; done) | rfl
set_option maxRecDepth 65536 in
set_option maxHeartbeats 40000000 in
theorem own_u_cfa4_1 (l : Launch) (Z : State) (a0 : Array Value) (hW : own_W Z a0) (t1 : Nat) (k1 : ClassId) (vs : List Value) (h0 : Heap) (n0 : Nat) (Z0 : n0 ≤ h0.size) (O0 : Old Z n0 h0) (V1 : Arv Z h0 t1 k1 .byte (8 : Int32) vs (.int (0 : Int32))) :
    MetFree l (⟨"java/lang/StringUTF16", "coderFromArrayLen", "([BI)B"⟩ : MethodName) (head1 (Jvm.Cond.code (⟨"java/lang/StringUTF16", "coderFromArrayLen", "([BI)B"⟩ : MethodName) jdk_52_method_15_code 2 (some .byte) :: []) ({ frames := 0, cells := 0, slots := 0, locals := 0 } : Room)) (fun a U => a = #[(.ref t1), (.int (4 : Int32))] ∧ Z.Warmed39 U.vm ∧ U.heap = h0) (fun _ _ _ _ _ => True) (fun _ U o U' => ∃ v L, o = .returned v ∧ own_u_cfa4_1_Q Z t1 k1 vs h0 n0 v U'.heap L ∧ FrameEnd U o U' L ({ frames := 0, cells := 0, slots := 0, locals := 0 } : Room).cells ({ frames := 0, cells := 0, slots := 0, locals := 0 } : Room).slots) := by
  refine MetFree.of_bodySF (plainFor_of_name pn_java_lang_StringUTF16) hisR ?_
  intro p e s m args below meth c s₁ Bd hml0 hP hK
  obtain ⟨rfl, hZ, hh⟩ := hP
  obtain ⟨hw, ⟨G1, O2, P5⟩, ⟨G3, O4, rG3⟩, Oa, Oh, Ol⟩ := id hW
  have hx := Bd.exec
  have hby := Bd.bytes
  have hml : c.maxLocals = 2 := hml0
  have hown : s.vm.findClass "java/lang/StringUTF16" = some m.cls := findClass_of_methodNamed Bd.named
  have hnm := (name_of_methodNamed Bd.named Bd.method).1
  have X0 : Stand p l e ({ frames := 0, cells := 0, slots := 0, locals := 0 } : Room) s m #[(.ref t1), (.int (4 : Int32))] below meth c s₁ [] 0 0 := Stand.of_body Bd
  have e0 : s₁.heap = h0 := by rw [← hh, Bd.state]; rfl
  have N0 := Fr.nil n0
  have K0 := Keep.refl h0 []
  show own_Fin p e below (s₁.setTop (entryFrame m #[(.ref t1), (.int (4 : Int32))] 2)) _
  refine own_gs (castTop (ef_own_u_cfa4_1 m t1 (4 : Int32)) (Steps.refl _)) ?_
  show own_Fin p e below (s₁.setTop (mkF m 0 #[vr t1, vi (4 : Int32)] [])) _
  refine own_gs (cur' := s₁.setTop (mkF m 2 #[vr t1, vi (4 : Int32)] [(.ref t1), (.int (4 : Int32))])) ?_ ?_
  · refine XS.iloadN X0.here hx rfl (hb hby d_jdk_52_m_15_0) rfl ?_
    refine XS.aloadN X0.here hx rfl (hb hby d_jdk_52_m_15_1) rfl rfl ?_
    exact Steps.refl _
  obtain ⟨cl11, Ar11, q11, S11, M11, Hs11, G11⟩ := id V1
  refine own_go (X0.arraylength hx (by rw [e0]; exact Ar11.1) (State.isArrayOf_alike hZ.alike Ar11.2.1) (g := (mkF m 2 #[vr t1, vi (4 : Int32)] [(.ref t1), (.int (4 : Int32))])) rfl rfl (hb hby d_jdk_52_m_15_2)) ?_
  rw [len_of S11 M11]
  show own_Fin p e below (s₁.setTop (mkF m 3 #[vr t1, vi (4 : Int32)] [(.int (8 : Int32)), (.int (4 : Int32))])) _
  refine own_gs (cur' := s₁.setTop (mkF m 8 #[vr t1, vi (4 : Int32)] [(.int (1 : Int32))])) ?_ ?_
  · refine XS.isub X0.here hx rfl (hb hby d_jdk_52_m_15_3) rfl ?_
    refine XS.bipush X0.here hx rfl (hb hby d_jdk_52_m_15_4) ?_
    refine XS.iushr X0.here hx rfl (hb hby d_jdk_52_m_15_6) rfl ?_
    show Steps p.tables e below (s₁.setTop (mkF m 7 #[vr t1, vi (4 : Int32)] [(.int (1 : Int32))])) _
    refine XS.i2b X0.here hx rfl (hb hby d_jdk_52_m_15_7) rfl ?_
    exact Steps.refl _
  obtain ⟨fs, hr, hrun, hended, hW1, hsame⟩ := X0.leave (v := (some (.int (1 : Int32)))) (fun h => by rw [Bd.returns] at h; cases h)
  refine ⟨_, _, retN X0 hx (t := .byte) Bd.returns (by simp) (hb hby d_jdk_52_m_15_8) hr, hrun, hended, _, _, rfl, ?_, ⟨_, rfl⟩, hW1, hsame.mono (by decide) (by decide)⟩
  show own_u_cfa4_1_Q Z t1 k1 vs h0 n0 (some (.int (1 : Int32))) s₁.heap _
  rw [e0]
  exact ⟨rfl, N0, rfl⟩
def own_u_new4_4_Q (Z : State) (x1 b1 : Nat) (v0 c0_ : Value) (k1 : ClassId) (c0 c1 c2 c3 : Int32) (h0 : Heap) (n0 : Nat) (v : Option Value) (h : Heap) (L : List Loc) : Prop := v = none ∧ Fr n0 L ∧ Keep h0 h [x1] ∧ ∃ t : Nat, x1 ≠ t ∧ own_Str Z h x1 t [c0, c1, c2, c3]
theorem ef_own_u_new4_4 (m : MethodId) (x0 : Nat) (x1 : Nat) (x2 : Int32) (x3 : Int32) : entryFrame m #[(.ref x0), (.ref x1), (.int x2), (.int x3), .null] 6 = mkF m 0 #[vr x0, vr x1, vi x2, vi x3, vn, .unset] [] := by first | (simp [entryFrame, mkF, argsToLocals, Value.category]; done) | rfl
set_option maxRecDepth 65536 in
set_option maxHeartbeats 40000000 in
theorem own_u_new4_4 (l : Launch) (Z : State) (a0 : Array Value) (hW : own_W Z a0) (x1 b1 : Nat) (v0 c0_ : Value) (k1 : ClassId) (c0 c1 c2 c3 : Int32) (h0 : Heap) (n0 : Nat) (Z0 : n0 ≤ h0.size) (O0 : Old Z n0 h0) (E1 : Exa Z h0 x1 "java/lang/String") (Fv1 : Fld Z h0 x1 "java/lang/String" "value" "[B" v0) (Fc1 : Fld Z h0 x1 "java/lang/String" "coder" "B" c0_) (g1 : n0 ≤ x1) (V1 : Arv Z h0 b1 k1 .char (4 : Int32) [(.int c0), (.int c1), (.int c2), (.int c3)] (.int (0 : Int32))) (hb0 : ¬ c0 < 0 ∧ ¬ (65535 : Int32) < c0) (hb1 : ¬ c1 < 0 ∧ ¬ (65535 : Int32) < c1) (hb2 : ¬ c2 < 0 ∧ ¬ (65535 : Int32) < c2) (hb3 : ¬ c3 < 0 ∧ ¬ (65535 : Int32) < c3) :
    MetFree l (⟨"java/lang/String", "<init>", "([CIILjava/lang/Void;)V"⟩ : MethodName) (head1 (Jvm.Cond.code (⟨"java/lang/String", "<init>", "([CIILjava/lang/Void;)V"⟩ : MethodName) jdk_42_method_149_code 6 none :: []) ({ frames := 4, cells := 2, slots := 12, locals := 57 } : Room)) (fun a U => a = #[(.ref x1), (.ref b1), (.int (0 : Int32)), (.int (4 : Int32)), .null] ∧ Z.Warmed39 U.vm ∧ U.heap = h0) (fun _ _ _ _ _ => True) (fun _ U o U' => ∃ v L, o = .returned v ∧ own_u_new4_4_Q Z x1 b1 v0 c0_ k1 c0 c1 c2 c3 h0 n0 v U'.heap L ∧ FrameEnd U o U' L ({ frames := 4, cells := 2, slots := 12, locals := 57 } : Room).cells ({ frames := 4, cells := 2, slots := 12, locals := 57 } : Room).slots) := by
  refine MetFree.of_bodySF (plainFor_of_name pn_java_lang_String) hisR ?_
  intro p e s m args below meth c s₁ Bd hml0 hP hK
  obtain ⟨rfl, hZ, hh⟩ := hP
  obtain ⟨hw, ⟨G1, O2, P5⟩, ⟨G3, O4, rG3⟩, Oa, Oh, Ol⟩ := id hW
  have hx := Bd.exec
  have hby := Bd.bytes
  have hml : c.maxLocals = 6 := hml0
  have hown : s.vm.findClass "java/lang/String" = some m.cls := findClass_of_methodNamed Bd.named
  have hnm := (name_of_methodNamed Bd.named Bd.method).1
  have X0 : Stand p l e ({ frames := 4, cells := 2, slots := 12, locals := 57 } : Room) s m #[(.ref x1), (.ref b1), (.int (0 : Int32)), (.int (4 : Int32)), .null] below meth c s₁ [] 0 0 := Stand.of_body Bd
  have e0 : s₁.heap = h0 := by rw [← hh, Bd.state]; rfl
  have N0 := Fr.nil n0
  have K0 := Keep.refl h0 [x1]
  have lt1 := own_lt E1.lt
  have lt1 := own_lt V1.lt
  have hbd : ∀ c ∈ ([c0, c1, c2, c3] : List Int32), ¬ c < 0 ∧ ¬ (65535 : Int32) < c := by
    intro c hc
    simp only [List.mem_cons, List.not_mem_nil, or_false] at hc
    rcases hc with rfl | rfl | rfl | rfl
    · exact hb0
    · exact hb1
    · exact hb2
    · exact hb3
  show own_Fin p e below (s₁.setTop (entryFrame m #[(.ref x1), (.ref b1), (.int (0 : Int32)), (.int (4 : Int32)), .null] 6)) _
  refine own_gs (castTop (ef_own_u_new4_4 m x1 b1 (0 : Int32) (4 : Int32)) (Steps.refl _)) ?_
  show own_Fin p e below (s₁.setTop (mkF m 0 #[vr x1, vr b1, vi (0 : Int32), vi (4 : Int32), vn, uu] [])) _
  refine own_gs (cur' := s₁.setTop (mkF m 1 #[vr x1, vr b1, vi (0 : Int32), vi (4 : Int32), vn, uu] [(.ref x1)])) ?_ ?_
  · refine XS.aloadN X0.here hx rfl (hb hby d_jdk_42_m_149_0) rfl rfl ?_
    exact Steps.refl _
  obtain ⟨T11, X11, e11, st11⟩ := initO X0 hx hZ hown (hw _ (List.mem_of_getElem? (i := 12) rfl)) (hw _ (List.mem_of_getElem? (i := 13) rfl)) (hw _ (List.mem_of_getElem? (i := 14) rfl)) e0 (g := (mkF m 1 #[vr x1, vr b1, vi (0 : Int32), vi (4 : Int32), vn, uu] [(.ref x1)])) rfl (by rw [hml]; rfl) rfl (hb hby d_jdk_42_m_149_1) (by decide) (W := 0) (by show 2 * 0 + _ ≤ _; exact Nat.le_of_eq rfl) (by decide)
  refine own_go st11 ?_
  show own_Fin p e below (T11.setTop (mkF m 4 #[vr x1, vr b1, vi (0 : Int32), vi (4 : Int32), vn, uu] [])) _
  refine own_gs (cur' := T11.setTop (mkF m 27 #[vr x1, vr b1, vi (0 : Int32), vi (4 : Int32), vn, uu] [])) ?_ ?_
  · refine XS.iloadN X11.here hx rfl (hb hby d_jdk_42_m_149_4) rfl ?_
    refine XS.ifYes X11.here hx rfl (pc0 := 5) (pc' := 27) rfl (hb hby d_jdk_42_m_149_5) rfl ((if0 _ _).trans (feq ((by decide) : ¬ ((4 : Int32) = (0 : Int32)))).2) (by decide) (by decide) ?_
    exact Steps.refl _
  obtain ⟨T12, X12, e12, st12⟩ := getS2 X11 hx hZ hown (host := "") (Or.inl (hw _ (List.mem_of_getElem? (i := 23) rfl))) Via.refl e11 (O2.ext O0.2) (g := (mkF m 27 #[vr x1, vr b1, vi (0 : Int32), vi (4 : Int32), vn, uu] [])) rfl (hb hby d_jdk_42_m_149_27)
  refine own_go st12 ?_
  show own_Fin p e below (T12.setTop (mkF m 30 #[vr x1, vr b1, vi (0 : Int32), vi (4 : Int32), vn, uu] [(.int G1)])) _
  refine own_gs (cur' := T12.setTop (mkF m 36 #[vr x1, vr b1, vi (0 : Int32), vi (4 : Int32), vn, uu] [(.int (4 : Int32)), (.int (0 : Int32)), (.ref b1)])) ?_ ?_
  · refine XS.ifNo X12.here hx rfl (hb hby d_jdk_42_m_149_30) rfl ((if0 _ _).trans (feq (P5 : ¬ (G1 = (0 : Int32)))).1) ?_
    refine XS.aloadN X12.here hx rfl (hb hby d_jdk_42_m_149_33) rfl rfl ?_
    refine XS.iloadN X12.here hx rfl (hb hby d_jdk_42_m_149_34) rfl ?_
    show Steps p.tables e below (T12.setTop (mkF m 35 #[vr x1, vr b1, vi (0 : Int32), vi (4 : Int32), vn, uu] [(.int (0 : Int32)), (.ref b1)])) _
    refine XS.iloadN X12.here hx rfl (hb hby d_jdk_42_m_149_35) rfl ?_
    exact Steps.refl _
  obtain ⟨_, _, ⟨T13, L13, k13, n13⟩, -, X13, ⟨Lc13, hQ13, l13, y13, z13⟩, st13⟩ := Jvm.LawKit.callS X12 hx (y := (⟨"java/lang/StringUTF16", "compress", "([CII)[B"⟩ : MethodName)) hown (mvT hZ (hw _ (List.mem_of_getElem? (i := 24) rfl))) (mvT hZ (hw _ (List.mem_of_getElem? (i := 25) rfl))) (mvT hZ (hw _ (List.mem_of_getElem? (i := 26) rfl))) (mvT hZ (hw _ (List.mem_of_getElem? (i := 27) rfl))) (by decide) (backOf (W := 0) (own_u_cmpr4 l Z a0 hW b1 k1 c0 c1 c2 c3 h0 n0 (by omega) O0 V1 hb0 hb1 hb2 hb3) hZ (hw _ (List.mem_of_getElem? (i := 27) rfl)) (hw _ (List.mem_of_getElem? (i := 26) rfl)) (by decide) (by decide)) (g := (mkF m 36 #[vr x1, vr b1, vi (0 : Int32), vi (4 : Int32), vn, uu] [(.int (4 : Int32)), (.int (0 : Int32)), (.ref b1)])) rfl (by rw [hml]; rfl) (argsL := [(.ref b1), (.int (0 : Int32)), (.int (4 : Int32))]) (rest := []) (lenOf pd_11 rfl) rfl (by show 2 * 0 + _ ≤ _; exact Nat.le_of_eq rfl) (hb hby d_jdk_42_m_149_36) (fun _ _ => ⟨rfl, e12, (by decide : 0 + 2 ≤ 2), (by decide : 0 + 12 ≤ 12)⟩)
  dsimp only [Pt.U, Pt.locs, Pt.cells, Pt.slots] at X13 l13 y13 z13 st13 hQ13
  subst l13 y13 z13
  obtain ⟨t13, kb13, rfl, Nq13, Kq13, ge13, hor⟩ := hQ13
  have N13 := Fr.app N0 Nq13
  have z14 := Kq13.1
  have K14 := K0.trans Kq13 all0
  have O14 := O0.keep Kq13 all0
  rcases hor with ⟨hal, Vt⟩ | ⟨hbig, Vt⟩
  · have ltt := own_lt Vt.lt
    refine own_go st13 ?_
    show own_Fin p e below (T13.setTop (mkF m 39 #[vr x1, vr b1, vi (0 : Int32), vi (4 : Int32), vn, uu] [(.ref t13)])) _
    refine own_gs (cur' := T13.setTop (mkF m 45 #[vr x1, vr b1, vi (0 : Int32), vi (4 : Int32), vn, vr t13] [(.int (4 : Int32)), (.ref t13), (.ref x1)])) ?_ ?_
    · refine XS.astore X13.here hx rfl (hb hby d_jdk_42_m_149_39) rfl rfl (l' := #[vr x1, vr b1, vi (0 : Int32), vi (4 : Int32), vn, vr t13]) rfl ?_
      refine XS.aloadN X13.here hx rfl (hb hby d_jdk_42_m_149_41) rfl rfl ?_
      refine XS.aload X13.here hx rfl (hb hby d_jdk_42_m_149_42) rfl rfl ?_
      show Steps p.tables e below (T13.setTop (mkF m 44 #[vr x1, vr b1, vi (0 : Int32), vi (4 : Int32), vn, vr t13] [(.ref t13), (.ref x1)])) _
      refine XS.iloadN X13.here hx rfl (hb hby d_jdk_42_m_149_44) rfl ?_
      exact Steps.refl _
    obtain ⟨_, _, ⟨T15, L15, k15, n15⟩, -, X15, ⟨Lc15, hQ15, l15, y15, z15⟩, st15⟩ := Jvm.LawKit.callS X13 hx (y := (⟨"java/lang/StringUTF16", "coderFromArrayLen", "([BI)B"⟩ : MethodName)) hown (mvT hZ (hw _ (List.mem_of_getElem? (i := 31) rfl))) (mvT hZ (hw _ (List.mem_of_getElem? (i := 32) rfl))) (mvT hZ (hw _ (List.mem_of_getElem? (i := 26) rfl))) (mvT hZ (hw _ (List.mem_of_getElem? (i := 33) rfl))) (by decide) (backOf (W := 1) (own_u_cfa4_0 l Z a0 hW t13 kb13 _ T13.heap n0 (by omega) O14 Vt) hZ (hw _ (List.mem_of_getElem? (i := 33) rfl)) (hw _ (List.mem_of_getElem? (i := 26) rfl)) (by decide) (by decide)) (g := (mkF m 45 #[vr x1, vr b1, vi (0 : Int32), vi (4 : Int32), vn, vr t13] [(.int (4 : Int32)), (.ref t13), (.ref x1)])) rfl (by rw [hml]; rfl) (argsL := [(.ref t13), (.int (4 : Int32))]) (rest := [(.ref x1)]) (lenOf pd_12 rfl) rfl (by show 2 * 0 + _ ≤ _; exact Nat.le_of_eq rfl) (hb hby d_jdk_42_m_149_45) (fun _ _ => ⟨rfl, rfl, (by decide : 2 + 0 ≤ 2), (by decide : 12 + 0 ≤ 12)⟩)
    dsimp only [Pt.U, Pt.locs, Pt.cells, Pt.slots] at X15 l15 y15 z15 st15 hQ15
    subst l15 y15 z15
    obtain ⟨rfl, Nq15, eh15⟩ := hQ15
    have N15 := Fr.app N13 Nq15
    refine own_go st15 ?_
    show own_Fin p e below (T15.setTop (mkF m 48 #[vr x1, vr b1, vi (0 : Int32), vi (4 : Int32), vn, vr t13] [(.int (0 : Int32)), (.ref x1)])) _
    have f17 := (Fc1.keep Kq13 nin0)
    have f18 := (E1.keep Kq13)
    obtain ⟨T16, h16, X16, e16, W16, st16⟩ := putF X15 hx hZ hown (host := "") (Or.inl (hw _ (List.mem_of_getElem? (i := 22) rfl))) Via.refl eh15 f17 f18 (Or.inr ⟨(hw _ (List.mem_of_getElem? (i := 18) rfl)), rfl, hnm⟩) (hw _ (List.mem_of_getElem? (i := 2) rfl)) (ty := .byte) (by decide) rfl rfl (g := (mkF m 48 #[vr x1, vr b1, vi (0 : Int32), vi (4 : Int32), vn, vr t13] [(.int (0 : Int32)), (.ref x1)])) rfl rfl (hb hby d_jdk_42_m_149_48)
    have F16 := f17.same W16
    refine own_go st16 ?_
    show own_Fin p e below (T16.setTop (mkF m 51 #[vr x1, vr b1, vi (0 : Int32), vi (4 : Int32), vn, vr t13] [])) _
    have z19 := W16.size
    have K19 := K14.wr W16 (Or.inl (List.mem_of_getElem? (i := 0) rfl))
    have O19 := O14.wr W16 (by omega)
    have N19 := Fr.snoc X16 N15 (by omega)
    refine own_gs (cur' := T16.setTop (mkF m 54 #[vr x1, vr b1, vi (0 : Int32), vi (4 : Int32), vn, vr t13] [(.ref t13), (.ref x1)])) ?_ ?_
    · refine XS.aloadN X16.here hx rfl (hb hby d_jdk_42_m_149_51) rfl rfl ?_
      refine XS.aload X16.here hx rfl (hb hby d_jdk_42_m_149_52) rfl rfl ?_
      exact Steps.refl _
    have f21 := ((Fv1.keep Kq13 nin0).other W16 (Or.inr (slot_ne (Or.inr (hw _ (List.mem_of_getElem? (i := 17) rfl))) (Or.inr (hw _ (List.mem_of_getElem? (i := 18) rfl))) (by decide) (t := (.array .byte)) (t' := .byte) (by decide) (by decide))))
    have f22 := (f18.wr W16)
    obtain ⟨T20, h20, X20, e20, W20, st20⟩ := putF X16 hx hZ hown (host := "") (Or.inl (hw _ (List.mem_of_getElem? (i := 21) rfl))) Via.refl e16 f21 f22 (Or.inr ⟨(hw _ (List.mem_of_getElem? (i := 17) rfl)), rfl, hnm⟩) (hw _ (List.mem_of_getElem? (i := 2) rfl)) (ty := (.array .byte)) (by decide) rfl rfl (g := (mkF m 54 #[vr x1, vr b1, vi (0 : Int32), vi (4 : Int32), vn, vr t13] [(.ref t13), (.ref x1)])) rfl rfl (hb hby d_jdk_42_m_149_54)
    have F20 := f21.same W20
    refine own_go st20 ?_
    show own_Fin p e below (T20.setTop (mkF m 57 #[vr x1, vr b1, vi (0 : Int32), vi (4 : Int32), vn, vr t13] [])) _
    have z23 := W20.size
    have K23 := K19.wr W20 (Or.inl (List.mem_of_getElem? (i := 0) rfl))
    have O23 := O19.wr W20 (by omega)
    have N23 := Fr.snoc X20 N19 (by omega)
    have f24 := (f22.wr W20)
    have f25 := (F16.other W20 (Or.inr (slot_ne (Or.inr (hw _ (List.mem_of_getElem? (i := 18) rfl))) (Or.inr (hw _ (List.mem_of_getElem? (i := 17) rfl))) (by decide) (t := .byte) (t' := (.array .byte)) (by decide) (by decide))))
    have f26 := ((Vt.other W16 (own_ne (a := t13) (b := x1) (by omega))).other W20 (own_ne (a := t13) (b := x1) (by omega)))
    obtain ⟨fs, hr, hrun, hended, hW1, hsame⟩ := X20.leave (v := none) (fun _ => rfl)
    refine ⟨_, _, X20.returnOut hx Bd.returns (hb hby d_jdk_42_m_149_57) hr, hrun, hended, _, _, rfl, ?_, ⟨_, rfl⟩, hW1, hsame.mono (by decide) (by decide)⟩
    show own_u_new4_4_Q Z x1 b1 v0 c0_ k1 c0 c1 c2 c3 h0 n0 none T20.heap _
    rw [e20]
    exact ⟨rfl, N23, K23, t13, (by omega), ⟨_, _, _, _, f24, F20, f25, f26, Or.inl ⟨rfl, rfl, rfl, hal⟩, hbd, Nat.le_of_ble_eq_true rfl⟩⟩
  · have ltt := own_lt Vt.lt
    refine own_go st13 ?_
    show own_Fin p e below (T13.setTop (mkF m 39 #[vr x1, vr b1, vi (0 : Int32), vi (4 : Int32), vn, uu] [(.ref t13)])) _
    refine own_gs (cur' := T13.setTop (mkF m 45 #[vr x1, vr b1, vi (0 : Int32), vi (4 : Int32), vn, vr t13] [(.int (4 : Int32)), (.ref t13), (.ref x1)])) ?_ ?_
    · refine XS.astore X13.here hx rfl (hb hby d_jdk_42_m_149_39) rfl rfl (l' := #[vr x1, vr b1, vi (0 : Int32), vi (4 : Int32), vn, vr t13]) rfl ?_
      refine XS.aloadN X13.here hx rfl (hb hby d_jdk_42_m_149_41) rfl rfl ?_
      refine XS.aload X13.here hx rfl (hb hby d_jdk_42_m_149_42) rfl rfl ?_
      show Steps p.tables e below (T13.setTop (mkF m 44 #[vr x1, vr b1, vi (0 : Int32), vi (4 : Int32), vn, vr t13] [(.ref t13), (.ref x1)])) _
      refine XS.iloadN X13.here hx rfl (hb hby d_jdk_42_m_149_44) rfl ?_
      exact Steps.refl _
    obtain ⟨_, _, ⟨T27, L27, k27, n27⟩, -, X27, ⟨Lc27, hQ27, l27, y27, z27⟩, st27⟩ := Jvm.LawKit.callS X13 hx (y := (⟨"java/lang/StringUTF16", "coderFromArrayLen", "([BI)B"⟩ : MethodName)) hown (mvT hZ (hw _ (List.mem_of_getElem? (i := 31) rfl))) (mvT hZ (hw _ (List.mem_of_getElem? (i := 32) rfl))) (mvT hZ (hw _ (List.mem_of_getElem? (i := 26) rfl))) (mvT hZ (hw _ (List.mem_of_getElem? (i := 33) rfl))) (by decide) (backOf (W := 1) (own_u_cfa4_1 l Z a0 hW t13 kb13 _ T13.heap n0 (by omega) O14 Vt) hZ (hw _ (List.mem_of_getElem? (i := 33) rfl)) (hw _ (List.mem_of_getElem? (i := 26) rfl)) (by decide) (by decide)) (g := (mkF m 45 #[vr x1, vr b1, vi (0 : Int32), vi (4 : Int32), vn, vr t13] [(.int (4 : Int32)), (.ref t13), (.ref x1)])) rfl (by rw [hml]; rfl) (argsL := [(.ref t13), (.int (4 : Int32))]) (rest := [(.ref x1)]) (lenOf pd_12 rfl) rfl (by show 2 * 0 + _ ≤ _; exact Nat.le_of_eq rfl) (hb hby d_jdk_42_m_149_45) (fun _ _ => ⟨rfl, rfl, (by decide : 2 + 0 ≤ 2), (by decide : 12 + 0 ≤ 12)⟩)
    dsimp only [Pt.U, Pt.locs, Pt.cells, Pt.slots] at X27 l27 y27 z27 st27 hQ27
    subst l27 y27 z27
    obtain ⟨rfl, Nq27, eh27⟩ := hQ27
    have N27 := Fr.app N13 Nq27
    refine own_go st27 ?_
    show own_Fin p e below (T27.setTop (mkF m 48 #[vr x1, vr b1, vi (0 : Int32), vi (4 : Int32), vn, vr t13] [(.int (1 : Int32)), (.ref x1)])) _
    have f29 := (Fc1.keep Kq13 nin0)
    have f30 := (E1.keep Kq13)
    obtain ⟨T28, h28, X28, e28, W28, st28⟩ := putF X27 hx hZ hown (host := "") (Or.inl (hw _ (List.mem_of_getElem? (i := 22) rfl))) Via.refl eh27 f29 f30 (Or.inr ⟨(hw _ (List.mem_of_getElem? (i := 18) rfl)), rfl, hnm⟩) (hw _ (List.mem_of_getElem? (i := 2) rfl)) (ty := .byte) (by decide) rfl rfl (g := (mkF m 48 #[vr x1, vr b1, vi (0 : Int32), vi (4 : Int32), vn, vr t13] [(.int (1 : Int32)), (.ref x1)])) rfl rfl (hb hby d_jdk_42_m_149_48)
    have F28 := f29.same W28
    refine own_go st28 ?_
    show own_Fin p e below (T28.setTop (mkF m 51 #[vr x1, vr b1, vi (0 : Int32), vi (4 : Int32), vn, vr t13] [])) _
    have z31 := W28.size
    have K31 := K14.wr W28 (Or.inl (List.mem_of_getElem? (i := 0) rfl))
    have O31 := O14.wr W28 (by omega)
    have N31 := Fr.snoc X28 N27 (by omega)
    refine own_gs (cur' := T28.setTop (mkF m 54 #[vr x1, vr b1, vi (0 : Int32), vi (4 : Int32), vn, vr t13] [(.ref t13), (.ref x1)])) ?_ ?_
    · refine XS.aloadN X28.here hx rfl (hb hby d_jdk_42_m_149_51) rfl rfl ?_
      refine XS.aload X28.here hx rfl (hb hby d_jdk_42_m_149_52) rfl rfl ?_
      exact Steps.refl _
    have f33 := ((Fv1.keep Kq13 nin0).other W28 (Or.inr (slot_ne (Or.inr (hw _ (List.mem_of_getElem? (i := 17) rfl))) (Or.inr (hw _ (List.mem_of_getElem? (i := 18) rfl))) (by decide) (t := (.array .byte)) (t' := .byte) (by decide) (by decide))))
    have f34 := (f30.wr W28)
    obtain ⟨T32, h32, X32, e32, W32, st32⟩ := putF X28 hx hZ hown (host := "") (Or.inl (hw _ (List.mem_of_getElem? (i := 21) rfl))) Via.refl e28 f33 f34 (Or.inr ⟨(hw _ (List.mem_of_getElem? (i := 17) rfl)), rfl, hnm⟩) (hw _ (List.mem_of_getElem? (i := 2) rfl)) (ty := (.array .byte)) (by decide) rfl rfl (g := (mkF m 54 #[vr x1, vr b1, vi (0 : Int32), vi (4 : Int32), vn, vr t13] [(.ref t13), (.ref x1)])) rfl rfl (hb hby d_jdk_42_m_149_54)
    have F32 := f33.same W32
    refine own_go st32 ?_
    show own_Fin p e below (T32.setTop (mkF m 57 #[vr x1, vr b1, vi (0 : Int32), vi (4 : Int32), vn, vr t13] [])) _
    have z35 := W32.size
    have K35 := K31.wr W32 (Or.inl (List.mem_of_getElem? (i := 0) rfl))
    have O35 := O31.wr W32 (by omega)
    have N35 := Fr.snoc X32 N31 (by omega)
    have f36 := (f34.wr W32)
    have f37 := (F28.other W32 (Or.inr (slot_ne (Or.inr (hw _ (List.mem_of_getElem? (i := 18) rfl))) (Or.inr (hw _ (List.mem_of_getElem? (i := 17) rfl))) (by decide) (t := .byte) (t' := (.array .byte)) (by decide) (by decide))))
    have f38 := ((Vt.other W28 (own_ne (a := t13) (b := x1) (by omega))).other W32 (own_ne (a := t13) (b := x1) (by omega)))
    obtain ⟨fs, hr, hrun, hended, hW1, hsame⟩ := X32.leave (v := none) (fun _ => rfl)
    refine ⟨_, _, X32.returnOut hx Bd.returns (hb hby d_jdk_42_m_149_57) hr, hrun, hended, _, _, rfl, ?_, ⟨_, rfl⟩, hW1, hsame.mono (by decide) (by decide)⟩
    show own_u_new4_4_Q Z x1 b1 v0 c0_ k1 c0 c1 c2 c3 h0 n0 none T32.heap _
    rw [e32]
    exact ⟨rfl, N35, K35, t13, (by omega), ⟨_, _, _, _, f36, F32, f37, f38, Or.inr ⟨rfl, rfl, rfl, hbig⟩, hbd, Nat.le_of_ble_eq_true rfl⟩⟩
def own_u_new1_4_Q (Z : State) (x1 b1 : Nat) (v0 c0_ : Value) (k1 : ClassId) (c0 c1 c2 c3 : Int32) (h0 : Heap) (n0 : Nat) (v : Option Value) (h : Heap) (L : List Loc) : Prop := v = none ∧ Fr n0 L ∧ Keep h0 h [x1] ∧ ∃ t : Nat, x1 ≠ t ∧ own_Str Z h x1 t [c0, c1, c2, c3]
theorem ef_own_u_new1_4 (m : MethodId) (x0 : Nat) (x1 : Nat) : entryFrame m #[(.ref x0), (.ref x1)] 2 = mkF m 0 #[vr x0, vr x1] [] := by first | (simp [entryFrame, mkF, argsToLocals, Value.category]; done) | rfl
set_option maxRecDepth 65536 in
set_option maxHeartbeats 40000000 in
theorem own_u_new1_4 (l : Launch) (Z : State) (a0 : Array Value) (hW : own_W Z a0) (x1 b1 : Nat) (v0 c0_ : Value) (k1 : ClassId) (c0 c1 c2 c3 : Int32) (h0 : Heap) (n0 : Nat) (Z0 : n0 ≤ h0.size) (O0 : Old Z n0 h0) (E1 : Exa Z h0 x1 "java/lang/String") (Fv1 : Fld Z h0 x1 "java/lang/String" "value" "[B" v0) (Fc1 : Fld Z h0 x1 "java/lang/String" "coder" "B" c0_) (g1 : n0 ≤ x1) (V1 : Arv Z h0 b1 k1 .char (4 : Int32) [(.int c0), (.int c1), (.int c2), (.int c3)] (.int (0 : Int32))) (hb0 : ¬ c0 < 0 ∧ ¬ (65535 : Int32) < c0) (hb1 : ¬ c1 < 0 ∧ ¬ (65535 : Int32) < c1) (hb2 : ¬ c2 < 0 ∧ ¬ (65535 : Int32) < c2) (hb3 : ¬ c3 < 0 ∧ ¬ (65535 : Int32) < c3) :
    MetFree l (⟨"java/lang/String", "<init>", "([C)V"⟩ : MethodName) (head1 (Jvm.Cond.code (⟨"java/lang/String", "<init>", "([C)V"⟩ : MethodName) jdk_42_method_3_code 2 none :: []) ({ frames := 5, cells := 2, slots := 12, locals := 74 } : Room)) (fun a U => a = #[(.ref x1), (.ref b1)] ∧ Z.Warmed39 U.vm ∧ U.heap = h0) (fun _ _ _ _ _ => True) (fun _ U o U' => ∃ v L, o = .returned v ∧ own_u_new1_4_Q Z x1 b1 v0 c0_ k1 c0 c1 c2 c3 h0 n0 v U'.heap L ∧ FrameEnd U o U' L ({ frames := 5, cells := 2, slots := 12, locals := 74 } : Room).cells ({ frames := 5, cells := 2, slots := 12, locals := 74 } : Room).slots) := by
  refine MetFree.of_bodySF (plainFor_of_name pn_java_lang_String) hisR ?_
  intro p e s m args below meth c s₁ Bd hml0 hP hK
  obtain ⟨rfl, hZ, hh⟩ := hP
  obtain ⟨hw, ⟨G1, O2, P5⟩, ⟨G3, O4, rG3⟩, Oa, Oh, Ol⟩ := id hW
  have hx := Bd.exec
  have hby := Bd.bytes
  have hml : c.maxLocals = 2 := hml0
  have hown : s.vm.findClass "java/lang/String" = some m.cls := findClass_of_methodNamed Bd.named
  have hnm := (name_of_methodNamed Bd.named Bd.method).1
  have X0 : Stand p l e ({ frames := 5, cells := 2, slots := 12, locals := 74 } : Room) s m #[(.ref x1), (.ref b1)] below meth c s₁ [] 0 0 := Stand.of_body Bd
  have e0 : s₁.heap = h0 := by rw [← hh, Bd.state]; rfl
  have N0 := Fr.nil n0
  have K0 := Keep.refl h0 [x1]
  have lt1 := own_lt E1.lt
  have lt1 := own_lt V1.lt
  show own_Fin p e below (s₁.setTop (entryFrame m #[(.ref x1), (.ref b1)] 2)) _
  refine own_gs (castTop (ef_own_u_new1_4 m x1 b1) (Steps.refl _)) ?_
  show own_Fin p e below (s₁.setTop (mkF m 0 #[vr x1, vr b1] [])) _
  refine own_gs (cur' := s₁.setTop (mkF m 4 #[vr x1, vr b1] [(.ref b1), (.int (0 : Int32)), (.ref b1), (.ref x1)])) ?_ ?_
  · refine XS.aloadN X0.here hx rfl (hb hby d_jdk_42_m_3_0) rfl rfl ?_
    refine XS.aloadN X0.here hx rfl (hb hby d_jdk_42_m_3_1) rfl rfl ?_
    refine XS.iconst X0.here hx rfl (hb hby d_jdk_42_m_3_2) ?_
    show Steps p.tables e below (s₁.setTop (mkF m 3 #[vr x1, vr b1] [(.int (0 : Int32)), (.ref b1), (.ref x1)])) _
    refine XS.aloadN X0.here hx rfl (hb hby d_jdk_42_m_3_3) rfl rfl ?_
    exact Steps.refl _
  obtain ⟨cl11, Ar11, q11, S11, M11, Hs11, G11⟩ := id V1
  refine own_go (X0.arraylength hx (by rw [e0]; exact Ar11.1) (State.isArrayOf_alike hZ.alike Ar11.2.1) (g := (mkF m 4 #[vr x1, vr b1] [(.ref b1), (.int (0 : Int32)), (.ref b1), (.ref x1)])) rfl rfl (hb hby d_jdk_42_m_3_4)) ?_
  rw [len_of S11 M11]
  show own_Fin p e below (s₁.setTop (mkF m 5 #[vr x1, vr b1] [(.int (4 : Int32)), (.int (0 : Int32)), (.ref b1), (.ref x1)])) _
  refine own_gs (cur' := s₁.setTop (mkF m 6 #[vr x1, vr b1] [.null, (.int (4 : Int32)), (.int (0 : Int32)), (.ref b1), (.ref x1)])) ?_ ?_
  · refine XS.aconstNull X0.here hx rfl (hb hby d_jdk_42_m_3_5) ?_
    exact Steps.refl _
  obtain ⟨_, _, ⟨T12, L12, k12, n12⟩, -, X12, ⟨Lc12, hQ12, l12, y12, z12⟩, st12⟩ := X0.specialBack hx (y := (⟨"java/lang/String", "<init>", "([CIILjava/lang/Void;)V"⟩ : MethodName)) rfl hown (mvT hZ (hw _ (List.mem_of_getElem? (i := 8) rfl))) (mvT hZ (hw _ (List.mem_of_getElem? (i := 9) rfl))) (mvT hZ (hw _ (List.mem_of_getElem? (i := 11) rfl))) (by decide) (backOf (W := 0) (own_u_new4_4 l Z a0 hW x1 b1 v0 c0_ k1 c0 c1 c2 c3 h0 n0 (by omega) O0 E1 Fv1 Fc1 g1 V1 hb0 hb1 hb2 hb3) hZ (hw _ (List.mem_of_getElem? (i := 11) rfl)) (hw _ (List.mem_of_getElem? (i := 3) rfl)) (by decide) (by decide)) (g := (mkF m 6 #[vr x1, vr b1] [.null, (.int (4 : Int32)), (.int (0 : Int32)), (.ref b1), (.ref x1)])) rfl (by rw [hml]; rfl) (Steps.refl _) (a := x1) (argsL := [(.ref b1), (.int (0 : Int32)), (.int (4 : Int32)), .null]) (rest := []) (lenOf pd_0 rfl) rfl (by show 2 * 0 + _ ≤ _; exact Nat.le_of_eq rfl) (hb hby d_jdk_42_m_3_6) (fun _ _ => ⟨rfl, e0, (by decide : 0 + 2 ≤ 2), (by decide : 0 + 12 ≤ 12)⟩)
  dsimp only [Pt.U, Pt.locs, Pt.cells, Pt.slots] at X12 l12 y12 z12 st12 hQ12
  subst l12 y12 z12
  obtain ⟨rfl, Nq12, Kq12, tq, hne, F12⟩ := hQ12
  have N12 := Fr.app N0 Nq12
  have z13 := Kq12.1
  have K13 := K0.trans Kq12 (allS (Or.inl (List.mem_of_getElem? (i := 0) rfl)) all0)
  have O13 := O0.keep Kq12 (allS (by omega) all0)
  refine own_gs st12 ?_
  show own_Fin p e below (T12.setTop (mkF m 9 #[vr x1, vr b1] [])) _
  obtain ⟨fs, hr, hrun, hended, hW1, hsame⟩ := X12.leave (v := none) (fun _ => rfl)
  refine ⟨_, _, X12.returnOut hx Bd.returns (hb hby d_jdk_42_m_3_9) hr, hrun, hended, _, _, rfl, ?_, ⟨_, rfl⟩, hW1, hsame.mono (by decide) (by decide)⟩
  show own_u_new1_4_Q Z x1 b1 v0 c0_ k1 c0 c1 c2 c3 h0 n0 none T12.heap _
  exact ⟨rfl, N12, K13, tq, hne, F12⟩
def own_hash0_Q (Z : State) (a1 t1 : Nat)  (h0 : Heap) (n0 : Nat) (v : Option Value) (h : Heap) (L : List Loc) : Prop := v = (some (.long (own_fnv []))) ∧ Fr n0 L ∧ h = h0
theorem pn_com_example_idunn_idunn_PathHashes : plainName "com/example/idunn/idunn/PathHashes" = true := by first | (simp [plainName, overriddenIn]; done) | decide +kernel
theorem ef_own_hash0 (m : MethodId) (x0 : Nat) : entryFrame m #[(.ref x0)] 4 = mkF m 0 #[vr x0, .unset, .unset, .unset] [] := by first | (simp [entryFrame, mkF, argsToLocals, Value.category]; done) | rfl
theorem d_prog_25_m_4_0 : decode prog_25_method_4_code 0 = .ok (.ldc2_w 39, 3) := by decide +kernel
theorem d_prog_25_m_4_3 : decode prog_25_method_4_code 3 = .ok (.lstore_n 1, 1) := by decide +kernel
theorem d_prog_25_m_4_4 : decode prog_25_method_4_code 4 = .ok (.iconst 0, 1) := by decide +kernel
theorem d_prog_25_m_4_5 : decode prog_25_method_4_code 5 = .ok (.istore_n 3, 1) := by decide +kernel
theorem d_prog_25_m_4_6 : decode prog_25_method_4_code 6 = .ok (.iload_n 3, 1) := by decide +kernel
theorem d_prog_25_m_4_7 : decode prog_25_method_4_code 7 = .ok (.aload_n 0, 1) := by decide +kernel
theorem d_prog_25_m_4_8 : decode prog_25_method_4_code 8 = .ok (.invokevirtual 41, 3) := by decide +kernel
theorem pd_13 : parseMethodDescriptor "()I" = some ⟨[], some .int⟩ := by decide +kernel
theorem d_prog_25_m_4_11 : decode prog_25_method_4_code 11 = .ok (.if_icmp .ge 24, 3) := by decide +kernel
theorem d_prog_25_m_4_35 : decode prog_25_method_4_code 35 = .ok (.lload_n 1, 1) := by decide +kernel
theorem d_prog_25_m_4_36 : decode prog_25_method_4_code 36 = .ok (.lreturn, 1) := by decide +kernel
set_option maxRecDepth 65536 in
set_option maxHeartbeats 40000000 in
theorem own_hash0 (l : Launch) (Z : State) (a0 : Array Value) (hW : own_W Z a0) (a1 t1 : Nat)  (h0 : Heap) (n0 : Nat) (Z0 : n0 ≤ h0.size) (O0 : Old Z n0 h0) (F1 : own_Str Z h0 a1 t1 []) :
    MetFree l (⟨"com/example/idunn/idunn/PathHashes", "hash", "(Ljava/lang/String;)J"⟩ : MethodName) (head1 (Jvm.Cond.code (⟨"com/example/idunn/idunn/PathHashes", "hash", "(Ljava/lang/String;)J"⟩ : MethodName) prog_25_method_4_code 4 (some .long) :: []) ({ frames := 5, cells := 0, slots := 0, locals := 70 } : Room)) (fun a U => a = #[(.ref a1)] ∧ Z.Warmed39 U.vm ∧ U.heap = h0) (fun _ _ _ _ _ => True) (fun _ U o U' => ∃ v L, o = .returned v ∧ own_hash0_Q Z a1 t1 h0 n0 v U'.heap L ∧ FrameEnd U o U' L ({ frames := 5, cells := 0, slots := 0, locals := 70 } : Room).cells ({ frames := 5, cells := 0, slots := 0, locals := 70 } : Room).slots) := by
  refine MetFree.of_bodySF (plainFor_of_name pn_com_example_idunn_idunn_PathHashes) hisR ?_
  intro p e s m args below meth c s₁ Bd hml0 hP hK
  obtain ⟨rfl, hZ, hh⟩ := hP
  obtain ⟨hw, ⟨G1, O2, P5⟩, ⟨G3, O4, rG3⟩, Oa, Oh, Ol⟩ := id hW
  have hx := Bd.exec
  have hby := Bd.bytes
  have hml : c.maxLocals = 4 := hml0
  have hown : s.vm.findClass "com/example/idunn/idunn/PathHashes" = some m.cls := findClass_of_methodNamed Bd.named
  have hnm := (name_of_methodNamed Bd.named Bd.method).1
  have X0 : Stand p l e ({ frames := 5, cells := 0, slots := 0, locals := 70 } : Room) s m #[(.ref a1)] below meth c s₁ [] 0 0 := Stand.of_body Bd
  have e0 : s₁.heap = h0 := by rw [← hh, Bd.state]; rfl
  have N0 := Fr.nil n0
  have K0 := Keep.refl h0 []
  have E1 := F1.exa
  have lt1 := F1.lt
  show own_Fin p e below (s₁.setTop (entryFrame m #[(.ref a1)] 4)) _
  refine own_gs (castTop (ef_own_hash0 m a1) (Steps.refl _)) ?_
  show own_Fin p e below (s₁.setTop (mkF m 0 #[vr a1, uu, uu, uu] [])) _
  refine own_gs (cur' := s₁.setTop (mkF m 8 #[vr a1, vj (-3750763034362895579 : Int64), ss, vi (0 : Int32)] [(.ref a1), (.int (0 : Int32))])) ?_ ?_
  · refine X0.ldc2Long hx hown (mvT hZ (hw _ (List.mem_of_getElem? (i := 40) rfl))) (g := (mkF m 0 #[vr a1, uu, uu, uu] [])) rfl (hb hby d_prog_25_m_4_0) _ ?_
    refine XS.lstoreN X0.here hx rfl (hb hby d_prog_25_m_4_3) rfl (l' := #[vr a1, vj (-3750763034362895579 : Int64), ss, uu]) rfl ?_
    refine XS.iconst X0.here hx rfl (hb hby d_prog_25_m_4_4) ?_
    show Steps p.tables e below (s₁.setTop (mkF m 5 #[vr a1, vj (-3750763034362895579 : Int64), ss, uu] [(.int (0 : Int32))])) _
    refine XS.istoreN X0.here hx rfl (hb hby d_prog_25_m_4_5) rfl (l' := #[vr a1, vj (-3750763034362895579 : Int64), ss, vi (0 : Int32)]) rfl ?_
    refine XS.iloadN X0.here hx rfl (hb hby d_prog_25_m_4_6) rfl ?_
    refine XS.aloadN X0.here hx rfl (hb hby d_prog_25_m_4_7) rfl rfl ?_
    exact Steps.refl _
  obtain ⟨cq11, kq11, q11a, q11b, q11c⟩ := isOf hZ e0 E1
  obtain ⟨_, _, ⟨T11, L11, k11, n11⟩, -, X11, ⟨Lc11, hQ11, l11, y11, z11⟩, st11⟩ := X0.virtualBack hx (y := (⟨"java/lang/String", "length", "()I"⟩ : MethodName)) (z := (⟨"java/lang/String", "length", "()I"⟩ : MethodName)) hown (mvT hZ (hw _ (List.mem_of_getElem? (i := 41) rfl))) (mvT hZ (hw _ (List.mem_of_getElem? (i := 42) rfl))) (notFace_of_selects (args := #[]) (mvT hZ (hw _ (List.mem_of_getElem? (i := 44) rfl)))) (mvT hZ (hw _ (List.mem_of_getElem? (i := 44) rfl))) (mvT hZ (hw _ (List.mem_of_getElem? (i := 43) rfl))) (by decide) (own_lenB (W := 1) hZ hw F1 (O2.ext O0.2) P5 (by decide) (by decide)) q11a q11c (g := (mkF m 8 #[vr a1, vj (-3750763034362895579 : Int64), ss, vi (0 : Int32)] [(.ref a1), (.int (0 : Int32))])) rfl (by rw [hml]; rfl) (Steps.refl _) (argsL := []) (rest := [(.int (0 : Int32))]) (lenOf pd_13 rfl) rfl (by show 2 * 0 + _ ≤ _; exact Nat.le_of_eq rfl) (hb hby d_prog_25_m_4_8) (fun _ _ => ⟨rfl, e0, (by decide : 0 + 0 ≤ 0), (by decide : 0 + 0 ≤ 0)⟩)
  dsimp only [Pt.U, Pt.locs, Pt.cells, Pt.slots] at X11 l11 y11 z11 st11 hQ11
  subst l11 y11 z11
  obtain ⟨rfl, rfl, eh11⟩ := hQ11
  have N11 := Fr.app N0 (Fr.nil n0)
  refine own_gs st11 ?_
  show own_Fin p e below (T11.setTop (mkF m 11 #[vr a1, vj (-3750763034362895579 : Int64), ss, vi (0 : Int32)] [(.int (0 : Int32)), (.int (0 : Int32))])) _
  refine own_gs (cur' := T11.setTop (mkF m 36 #[vr a1, vj (-3750763034362895579 : Int64), ss, vi (0 : Int32)] [(.long (-3750763034362895579 : Int64))])) ?_ ?_
  · refine XS.icmpYes X11.here hx rfl (pc0 := 11) (pc' := 35) rfl (hb hby d_prog_25_m_4_11) rfl (flt ((by decide) : ¬ ((0 : Int32) < (0 : Int32)))).2.1 (by decide) (by decide) ?_
    refine XS.lloadN X11.here hx rfl (hb hby d_prog_25_m_4_35) rfl ?_
    exact Steps.refl _
  obtain ⟨fs, hr, hrun, hended, hW1, hsame⟩ := X11.leave (v := (some (.long (-3750763034362895579 : Int64)))) (fun h => by rw [Bd.returns] at h; cases h)
  refine ⟨_, _, X11.lreturnOut hx Bd.returns (hb hby d_prog_25_m_4_36) hr, hrun, hended, _, _, rfl, ?_, ⟨_, rfl⟩, hW1, hsame.mono (by decide) (by decide)⟩
  show own_hash0_Q Z a1 t1 h0 n0 (some (.long (-3750763034362895579 : Int64))) T11.heap _
  rw [eh11]
  exact ⟨rfl, N11, rfl⟩
def own_hash1_Q (Z : State) (a1 t1 : Nat) (c0 : Int32) (h0 : Heap) (n0 : Nat) (v : Option Value) (h : Heap) (L : List Loc) : Prop := v = (some (.long (own_fnv [c0]))) ∧ Fr n0 L ∧ h = h0
theorem ef_own_hash1 (m : MethodId) (x0 : Nat) : entryFrame m #[(.ref x0)] 4 = mkF m 0 #[vr x0, .unset, .unset, .unset] [] := by first | (simp [entryFrame, mkF, argsToLocals, Value.category]; done) | rfl
theorem d_prog_25_m_4_14 : decode prog_25_method_4_code 14 = .ok (.lload_n 1, 1) := by decide +kernel
theorem d_prog_25_m_4_15 : decode prog_25_method_4_code 15 = .ok (.aload_n 0, 1) := by decide +kernel
theorem d_prog_25_m_4_16 : decode prog_25_method_4_code 16 = .ok (.iload_n 3, 1) := by decide +kernel
theorem d_prog_25_m_4_17 : decode prog_25_method_4_code 17 = .ok (.invokevirtual 47, 3) := by decide +kernel
theorem pd_14 : parseMethodDescriptor "(I)C" = some ⟨[.int], some .char⟩ := by decide +kernel
theorem d_prog_25_m_4_20 : decode prog_25_method_4_code 20 = .ok (.i2l, 1) := by decide +kernel
theorem d_prog_25_m_4_21 : decode prog_25_method_4_code 21 = .ok (.lxor, 1) := by decide +kernel
theorem d_prog_25_m_4_22 : decode prog_25_method_4_code 22 = .ok (.lstore_n 1, 1) := by decide +kernel
theorem d_prog_25_m_4_23 : decode prog_25_method_4_code 23 = .ok (.lload_n 1, 1) := by decide +kernel
theorem d_prog_25_m_4_24 : decode prog_25_method_4_code 24 = .ok (.ldc2_w 51, 3) := by decide +kernel
theorem d_prog_25_m_4_27 : decode prog_25_method_4_code 27 = .ok (.lmul, 1) := by decide +kernel
theorem d_prog_25_m_4_28 : decode prog_25_method_4_code 28 = .ok (.lstore_n 1, 1) := by decide +kernel
theorem d_prog_25_m_4_29 : decode prog_25_method_4_code 29 = .ok (.iinc 3 1, 3) := by decide +kernel
theorem d_prog_25_m_4_32 : decode prog_25_method_4_code 32 = .ok (.goto (-26), 3) := by decide +kernel
set_option maxRecDepth 65536 in
set_option maxHeartbeats 40000000 in
theorem own_hash1 (l : Launch) (Z : State) (a0 : Array Value) (hW : own_W Z a0) (a1 t1 : Nat) (c0 : Int32) (h0 : Heap) (n0 : Nat) (Z0 : n0 ≤ h0.size) (O0 : Old Z n0 h0) (F1 : own_Str Z h0 a1 t1 [c0]) :
    MetFree l (⟨"com/example/idunn/idunn/PathHashes", "hash", "(Ljava/lang/String;)J"⟩ : MethodName) (head1 (Jvm.Cond.code (⟨"com/example/idunn/idunn/PathHashes", "hash", "(Ljava/lang/String;)J"⟩ : MethodName) prog_25_method_4_code 4 (some .long) :: []) ({ frames := 5, cells := 0, slots := 0, locals := 70 } : Room)) (fun a U => a = #[(.ref a1)] ∧ Z.Warmed39 U.vm ∧ U.heap = h0) (fun _ _ _ _ _ => True) (fun _ U o U' => ∃ v L, o = .returned v ∧ own_hash1_Q Z a1 t1 c0 h0 n0 v U'.heap L ∧ FrameEnd U o U' L ({ frames := 5, cells := 0, slots := 0, locals := 70 } : Room).cells ({ frames := 5, cells := 0, slots := 0, locals := 70 } : Room).slots) := by
  refine MetFree.of_bodySF (plainFor_of_name pn_com_example_idunn_idunn_PathHashes) hisR ?_
  intro p e s m args below meth c s₁ Bd hml0 hP hK
  obtain ⟨rfl, hZ, hh⟩ := hP
  obtain ⟨hw, ⟨G1, O2, P5⟩, ⟨G3, O4, rG3⟩, Oa, Oh, Ol⟩ := id hW
  have hx := Bd.exec
  have hby := Bd.bytes
  have hml : c.maxLocals = 4 := hml0
  have hown : s.vm.findClass "com/example/idunn/idunn/PathHashes" = some m.cls := findClass_of_methodNamed Bd.named
  have hnm := (name_of_methodNamed Bd.named Bd.method).1
  have X0 : Stand p l e ({ frames := 5, cells := 0, slots := 0, locals := 70 } : Room) s m #[(.ref a1)] below meth c s₁ [] 0 0 := Stand.of_body Bd
  have e0 : s₁.heap = h0 := by rw [← hh, Bd.state]; rfl
  have N0 := Fr.nil n0
  have K0 := Keep.refl h0 []
  have E1 := F1.exa
  have lt1 := F1.lt
  show own_Fin p e below (s₁.setTop (entryFrame m #[(.ref a1)] 4)) _
  refine own_gs (castTop (ef_own_hash1 m a1) (Steps.refl _)) ?_
  show own_Fin p e below (s₁.setTop (mkF m 0 #[vr a1, uu, uu, uu] [])) _
  refine own_gs (cur' := s₁.setTop (mkF m 8 #[vr a1, vj (-3750763034362895579 : Int64), ss, vi (0 : Int32)] [(.ref a1), (.int (0 : Int32))])) ?_ ?_
  · refine X0.ldc2Long hx hown (mvT hZ (hw _ (List.mem_of_getElem? (i := 40) rfl))) (g := (mkF m 0 #[vr a1, uu, uu, uu] [])) rfl (hb hby d_prog_25_m_4_0) _ ?_
    refine XS.lstoreN X0.here hx rfl (hb hby d_prog_25_m_4_3) rfl (l' := #[vr a1, vj (-3750763034362895579 : Int64), ss, uu]) rfl ?_
    refine XS.iconst X0.here hx rfl (hb hby d_prog_25_m_4_4) ?_
    show Steps p.tables e below (s₁.setTop (mkF m 5 #[vr a1, vj (-3750763034362895579 : Int64), ss, uu] [(.int (0 : Int32))])) _
    refine XS.istoreN X0.here hx rfl (hb hby d_prog_25_m_4_5) rfl (l' := #[vr a1, vj (-3750763034362895579 : Int64), ss, vi (0 : Int32)]) rfl ?_
    refine XS.iloadN X0.here hx rfl (hb hby d_prog_25_m_4_6) rfl ?_
    refine XS.aloadN X0.here hx rfl (hb hby d_prog_25_m_4_7) rfl rfl ?_
    exact Steps.refl _
  obtain ⟨cq11, kq11, q11a, q11b, q11c⟩ := isOf hZ e0 E1
  obtain ⟨_, _, ⟨T11, L11, k11, n11⟩, -, X11, ⟨Lc11, hQ11, l11, y11, z11⟩, st11⟩ := X0.virtualBack hx (y := (⟨"java/lang/String", "length", "()I"⟩ : MethodName)) (z := (⟨"java/lang/String", "length", "()I"⟩ : MethodName)) hown (mvT hZ (hw _ (List.mem_of_getElem? (i := 41) rfl))) (mvT hZ (hw _ (List.mem_of_getElem? (i := 42) rfl))) (notFace_of_selects (args := #[]) (mvT hZ (hw _ (List.mem_of_getElem? (i := 44) rfl)))) (mvT hZ (hw _ (List.mem_of_getElem? (i := 44) rfl))) (mvT hZ (hw _ (List.mem_of_getElem? (i := 43) rfl))) (by decide) (own_lenB (W := 1) hZ hw F1 (O2.ext O0.2) P5 (by decide) (by decide)) q11a q11c (g := (mkF m 8 #[vr a1, vj (-3750763034362895579 : Int64), ss, vi (0 : Int32)] [(.ref a1), (.int (0 : Int32))])) rfl (by rw [hml]; rfl) (Steps.refl _) (argsL := []) (rest := [(.int (0 : Int32))]) (lenOf pd_13 rfl) rfl (by show 2 * 0 + _ ≤ _; exact Nat.le_of_eq rfl) (hb hby d_prog_25_m_4_8) (fun _ _ => ⟨rfl, e0, (by decide : 0 + 0 ≤ 0), (by decide : 0 + 0 ≤ 0)⟩)
  dsimp only [Pt.U, Pt.locs, Pt.cells, Pt.slots] at X11 l11 y11 z11 st11 hQ11
  subst l11 y11 z11
  obtain ⟨rfl, rfl, eh11⟩ := hQ11
  have N11 := Fr.app N0 (Fr.nil n0)
  refine own_gs st11 ?_
  show own_Fin p e below (T11.setTop (mkF m 11 #[vr a1, vj (-3750763034362895579 : Int64), ss, vi (0 : Int32)] [(.int (1 : Int32)), (.int (0 : Int32))])) _
  refine own_gs (cur' := T11.setTop (mkF m 17 #[vr a1, vj (-3750763034362895579 : Int64), ss, vi (0 : Int32)] [(.int (0 : Int32)), (.ref a1), (.long (-3750763034362895579 : Int64))])) ?_ ?_
  · refine XS.icmpNo X11.here hx rfl (hb hby d_prog_25_m_4_11) rfl (tlt ((by decide) : (0 : Int32) < (1 : Int32))).2.1 ?_
    refine XS.lloadN X11.here hx rfl (hb hby d_prog_25_m_4_14) rfl ?_
    refine XS.aloadN X11.here hx rfl (hb hby d_prog_25_m_4_15) rfl rfl ?_
    show Steps p.tables e below (T11.setTop (mkF m 16 #[vr a1, vj (-3750763034362895579 : Int64), ss, vi (0 : Int32)] [(.ref a1), (.long (-3750763034362895579 : Int64))])) _
    refine XS.iloadN X11.here hx rfl (hb hby d_prog_25_m_4_16) rfl ?_
    exact Steps.refl _
  obtain ⟨cq12, kq12, q12a, q12b, q12c⟩ := isOf hZ eh11 E1
  obtain ⟨_, _, ⟨T12, L12, k12, n12⟩, -, X12, ⟨Lc12, hQ12, l12, y12, z12⟩, st12⟩ := X11.virtualBack hx (y := (⟨"java/lang/String", "charAt", "(I)C"⟩ : MethodName)) (z := (⟨"java/lang/String", "charAt", "(I)C"⟩ : MethodName)) hown (mvT hZ (hw _ (List.mem_of_getElem? (i := 51) rfl))) (mvT hZ (hw _ (List.mem_of_getElem? (i := 52) rfl))) (notFace_of_selects (args := #[]) (mvT hZ (hw _ (List.mem_of_getElem? (i := 54) rfl)))) (mvT hZ (hw _ (List.mem_of_getElem? (i := 54) rfl))) (mvT hZ (hw _ (List.mem_of_getElem? (i := 53) rfl))) (by decide) (own_chB (W := 2) hZ hW F1 (i := 0) (j := (0 : Int32)) (Nat.le_of_ble_eq_true rfl) rfl (n0 := n0) (by omega) O0 (by decide) (by decide)) q12a q12c (g := (mkF m 17 #[vr a1, vj (-3750763034362895579 : Int64), ss, vi (0 : Int32)] [(.int (0 : Int32)), (.ref a1), (.long (-3750763034362895579 : Int64))])) rfl (by rw [hml]; rfl) (Steps.refl _) (argsL := [(.int (0 : Int32))]) (rest := [(.long (-3750763034362895579 : Int64))]) (lenOf pd_14 rfl) rfl (by show 2 * 0 + _ ≤ _; exact Nat.le_of_eq rfl) (hb hby d_prog_25_m_4_17) (fun _ _ => ⟨rfl, eh11, (by decide : 0 + 0 ≤ 0), (by decide : 0 + 0 ≤ 0)⟩)
  dsimp only [Pt.U, Pt.locs, Pt.cells, Pt.slots] at X12 l12 y12 z12 st12 hQ12
  subst l12 y12 z12
  obtain ⟨rfl, Nq12, eh12⟩ := hQ12
  have N12 := Fr.app N11 Nq12
  refine own_gs st12 ?_
  show own_Fin p e below (T12.setTop (mkF m 20 #[vr a1, vj (-3750763034362895579 : Int64), ss, vi (0 : Int32)] [(.int c0), (.long (-3750763034362895579 : Int64))])) _
  refine own_gs (cur' := T12.setTop (mkF m 8 #[vr a1, vj (((-3750763034362895579 : Int64) ^^^ (c0.toInt64)) * (1099511628211 : Int64)), ss, vi (1 : Int32)] [(.ref a1), (.int (1 : Int32))])) ?_ ?_
  · refine XS.i2l X12.here hx rfl (hb hby d_prog_25_m_4_20) rfl ?_
    refine XS.lxor X12.here hx rfl (hb hby d_prog_25_m_4_21) rfl ?_
    refine XS.lstoreN X12.here hx rfl (hb hby d_prog_25_m_4_22) rfl (l' := #[vr a1, vj ((-3750763034362895579 : Int64) ^^^ (c0.toInt64)), ss, vi (0 : Int32)]) rfl ?_
    show Steps p.tables e below (T12.setTop (mkF m 23 #[vr a1, vj ((-3750763034362895579 : Int64) ^^^ (c0.toInt64)), ss, vi (0 : Int32)] [])) _
    refine XS.lloadN X12.here hx rfl (hb hby d_prog_25_m_4_23) rfl ?_
    refine X12.ldc2Long hx hown (mvT hZ (hw _ (List.mem_of_getElem? (i := 73) rfl))) (g := (mkF m 24 #[vr a1, vj ((-3750763034362895579 : Int64) ^^^ (c0.toInt64)), ss, vi (0 : Int32)] [(.long ((-3750763034362895579 : Int64) ^^^ (c0.toInt64)))])) rfl (hb hby d_prog_25_m_4_24) _ ?_
    refine XS.lmul X12.here hx rfl (hb hby d_prog_25_m_4_27) rfl ?_
    show Steps p.tables e below (T12.setTop (mkF m 28 #[vr a1, vj ((-3750763034362895579 : Int64) ^^^ (c0.toInt64)), ss, vi (0 : Int32)] [(.long (((-3750763034362895579 : Int64) ^^^ (c0.toInt64)) * (1099511628211 : Int64)))])) _
    refine XS.lstoreN X12.here hx rfl (hb hby d_prog_25_m_4_28) rfl (l' := #[vr a1, vj (((-3750763034362895579 : Int64) ^^^ (c0.toInt64)) * (1099511628211 : Int64)), ss, vi (0 : Int32)]) rfl ?_
    refine XS.iinc X12.here hx rfl (hb hby d_prog_25_m_4_29) rfl (l' := #[vr a1, vj (((-3750763034362895579 : Int64) ^^^ (c0.toInt64)) * (1099511628211 : Int64)), ss, vi (1 : Int32)]) rfl ?_
    refine XS.goto X12.here hx rfl (pc0 := 32) (pc' := 6) rfl (hb hby d_prog_25_m_4_32) (by decide) (by decide) ?_
    show Steps p.tables e below (T12.setTop (mkF m 6 #[vr a1, vj (((-3750763034362895579 : Int64) ^^^ (c0.toInt64)) * (1099511628211 : Int64)), ss, vi (1 : Int32)] [])) _
    refine XS.iloadN X12.here hx rfl (hb hby d_prog_25_m_4_6) rfl ?_
    refine XS.aloadN X12.here hx rfl (hb hby d_prog_25_m_4_7) rfl rfl ?_
    exact Steps.refl _
  obtain ⟨cq13, kq13, q13a, q13b, q13c⟩ := isOf hZ eh12 E1
  obtain ⟨_, _, ⟨T13, L13, k13, n13⟩, -, X13, ⟨Lc13, hQ13, l13, y13, z13⟩, st13⟩ := X12.virtualBack hx (y := (⟨"java/lang/String", "length", "()I"⟩ : MethodName)) (z := (⟨"java/lang/String", "length", "()I"⟩ : MethodName)) hown (mvT hZ (hw _ (List.mem_of_getElem? (i := 41) rfl))) (mvT hZ (hw _ (List.mem_of_getElem? (i := 42) rfl))) (notFace_of_selects (args := #[]) (mvT hZ (hw _ (List.mem_of_getElem? (i := 44) rfl)))) (mvT hZ (hw _ (List.mem_of_getElem? (i := 44) rfl))) (mvT hZ (hw _ (List.mem_of_getElem? (i := 43) rfl))) (by decide) (own_lenB (W := 1) hZ hw F1 (O2.ext O0.2) P5 (by decide) (by decide)) q13a q13c (g := (mkF m 8 #[vr a1, vj (((-3750763034362895579 : Int64) ^^^ (c0.toInt64)) * (1099511628211 : Int64)), ss, vi (1 : Int32)] [(.ref a1), (.int (1 : Int32))])) rfl (by rw [hml]; rfl) (Steps.refl _) (argsL := []) (rest := [(.int (1 : Int32))]) (lenOf pd_13 rfl) rfl (by show 2 * 0 + _ ≤ _; exact Nat.le_of_eq rfl) (hb hby d_prog_25_m_4_8) (fun _ _ => ⟨rfl, eh12, (by decide : 0 + 0 ≤ 0), (by decide : 0 + 0 ≤ 0)⟩)
  dsimp only [Pt.U, Pt.locs, Pt.cells, Pt.slots] at X13 l13 y13 z13 st13 hQ13
  subst l13 y13 z13
  obtain ⟨rfl, rfl, eh13⟩ := hQ13
  have N13 := Fr.app N12 (Fr.nil n0)
  refine own_gs st13 ?_
  show own_Fin p e below (T13.setTop (mkF m 11 #[vr a1, vj (((-3750763034362895579 : Int64) ^^^ (c0.toInt64)) * (1099511628211 : Int64)), ss, vi (1 : Int32)] [(.int (1 : Int32)), (.int (1 : Int32))])) _
  refine own_gs (cur' := T13.setTop (mkF m 36 #[vr a1, vj (((-3750763034362895579 : Int64) ^^^ (c0.toInt64)) * (1099511628211 : Int64)), ss, vi (1 : Int32)] [(.long (((-3750763034362895579 : Int64) ^^^ (c0.toInt64)) * (1099511628211 : Int64)))])) ?_ ?_
  · refine XS.icmpYes X13.here hx rfl (pc0 := 11) (pc' := 35) rfl (hb hby d_prog_25_m_4_11) rfl (flt ((by decide) : ¬ ((1 : Int32) < (1 : Int32)))).2.1 (by decide) (by decide) ?_
    refine XS.lloadN X13.here hx rfl (hb hby d_prog_25_m_4_35) rfl ?_
    exact Steps.refl _
  obtain ⟨fs, hr, hrun, hended, hW1, hsame⟩ := X13.leave (v := (some (.long (((-3750763034362895579 : Int64) ^^^ (c0.toInt64)) * (1099511628211 : Int64))))) (fun h => by rw [Bd.returns] at h; cases h)
  refine ⟨_, _, X13.lreturnOut hx Bd.returns (hb hby d_prog_25_m_4_36) hr, hrun, hended, _, _, rfl, ?_, ⟨_, rfl⟩, hW1, hsame.mono (by decide) (by decide)⟩
  show own_hash1_Q Z a1 t1 c0 h0 n0 (some (.long (((-3750763034362895579 : Int64) ^^^ (c0.toInt64)) * (1099511628211 : Int64)))) T13.heap _
  rw [eh13]
  exact ⟨rfl, N13, rfl⟩
def own_hash2_Q (Z : State) (a1 t1 : Nat) (c0 c1 : Int32) (h0 : Heap) (n0 : Nat) (v : Option Value) (h : Heap) (L : List Loc) : Prop := v = (some (.long (own_fnv [c0, c1]))) ∧ Fr n0 L ∧ h = h0
theorem ef_own_hash2 (m : MethodId) (x0 : Nat) : entryFrame m #[(.ref x0)] 4 = mkF m 0 #[vr x0, .unset, .unset, .unset] [] := by first | (simp [entryFrame, mkF, argsToLocals, Value.category]; done) | rfl
set_option maxRecDepth 65536 in
set_option maxHeartbeats 40000000 in
theorem own_hash2 (l : Launch) (Z : State) (a0 : Array Value) (hW : own_W Z a0) (a1 t1 : Nat) (c0 c1 : Int32) (h0 : Heap) (n0 : Nat) (Z0 : n0 ≤ h0.size) (O0 : Old Z n0 h0) (F1 : own_Str Z h0 a1 t1 [c0, c1]) :
    MetFree l (⟨"com/example/idunn/idunn/PathHashes", "hash", "(Ljava/lang/String;)J"⟩ : MethodName) (head1 (Jvm.Cond.code (⟨"com/example/idunn/idunn/PathHashes", "hash", "(Ljava/lang/String;)J"⟩ : MethodName) prog_25_method_4_code 4 (some .long) :: []) ({ frames := 5, cells := 0, slots := 0, locals := 70 } : Room)) (fun a U => a = #[(.ref a1)] ∧ Z.Warmed39 U.vm ∧ U.heap = h0) (fun _ _ _ _ _ => True) (fun _ U o U' => ∃ v L, o = .returned v ∧ own_hash2_Q Z a1 t1 c0 c1 h0 n0 v U'.heap L ∧ FrameEnd U o U' L ({ frames := 5, cells := 0, slots := 0, locals := 70 } : Room).cells ({ frames := 5, cells := 0, slots := 0, locals := 70 } : Room).slots) := by
  refine MetFree.of_bodySF (plainFor_of_name pn_com_example_idunn_idunn_PathHashes) hisR ?_
  intro p e s m args below meth c s₁ Bd hml0 hP hK
  obtain ⟨rfl, hZ, hh⟩ := hP
  obtain ⟨hw, ⟨G1, O2, P5⟩, ⟨G3, O4, rG3⟩, Oa, Oh, Ol⟩ := id hW
  have hx := Bd.exec
  have hby := Bd.bytes
  have hml : c.maxLocals = 4 := hml0
  have hown : s.vm.findClass "com/example/idunn/idunn/PathHashes" = some m.cls := findClass_of_methodNamed Bd.named
  have hnm := (name_of_methodNamed Bd.named Bd.method).1
  have X0 : Stand p l e ({ frames := 5, cells := 0, slots := 0, locals := 70 } : Room) s m #[(.ref a1)] below meth c s₁ [] 0 0 := Stand.of_body Bd
  have e0 : s₁.heap = h0 := by rw [← hh, Bd.state]; rfl
  have N0 := Fr.nil n0
  have K0 := Keep.refl h0 []
  have E1 := F1.exa
  have lt1 := F1.lt
  show own_Fin p e below (s₁.setTop (entryFrame m #[(.ref a1)] 4)) _
  refine own_gs (castTop (ef_own_hash2 m a1) (Steps.refl _)) ?_
  show own_Fin p e below (s₁.setTop (mkF m 0 #[vr a1, uu, uu, uu] [])) _
  refine own_gs (cur' := s₁.setTop (mkF m 8 #[vr a1, vj (-3750763034362895579 : Int64), ss, vi (0 : Int32)] [(.ref a1), (.int (0 : Int32))])) ?_ ?_
  · refine X0.ldc2Long hx hown (mvT hZ (hw _ (List.mem_of_getElem? (i := 40) rfl))) (g := (mkF m 0 #[vr a1, uu, uu, uu] [])) rfl (hb hby d_prog_25_m_4_0) _ ?_
    refine XS.lstoreN X0.here hx rfl (hb hby d_prog_25_m_4_3) rfl (l' := #[vr a1, vj (-3750763034362895579 : Int64), ss, uu]) rfl ?_
    refine XS.iconst X0.here hx rfl (hb hby d_prog_25_m_4_4) ?_
    show Steps p.tables e below (s₁.setTop (mkF m 5 #[vr a1, vj (-3750763034362895579 : Int64), ss, uu] [(.int (0 : Int32))])) _
    refine XS.istoreN X0.here hx rfl (hb hby d_prog_25_m_4_5) rfl (l' := #[vr a1, vj (-3750763034362895579 : Int64), ss, vi (0 : Int32)]) rfl ?_
    refine XS.iloadN X0.here hx rfl (hb hby d_prog_25_m_4_6) rfl ?_
    refine XS.aloadN X0.here hx rfl (hb hby d_prog_25_m_4_7) rfl rfl ?_
    exact Steps.refl _
  obtain ⟨cq11, kq11, q11a, q11b, q11c⟩ := isOf hZ e0 E1
  obtain ⟨_, _, ⟨T11, L11, k11, n11⟩, -, X11, ⟨Lc11, hQ11, l11, y11, z11⟩, st11⟩ := X0.virtualBack hx (y := (⟨"java/lang/String", "length", "()I"⟩ : MethodName)) (z := (⟨"java/lang/String", "length", "()I"⟩ : MethodName)) hown (mvT hZ (hw _ (List.mem_of_getElem? (i := 41) rfl))) (mvT hZ (hw _ (List.mem_of_getElem? (i := 42) rfl))) (notFace_of_selects (args := #[]) (mvT hZ (hw _ (List.mem_of_getElem? (i := 44) rfl)))) (mvT hZ (hw _ (List.mem_of_getElem? (i := 44) rfl))) (mvT hZ (hw _ (List.mem_of_getElem? (i := 43) rfl))) (by decide) (own_lenB (W := 1) hZ hw F1 (O2.ext O0.2) P5 (by decide) (by decide)) q11a q11c (g := (mkF m 8 #[vr a1, vj (-3750763034362895579 : Int64), ss, vi (0 : Int32)] [(.ref a1), (.int (0 : Int32))])) rfl (by rw [hml]; rfl) (Steps.refl _) (argsL := []) (rest := [(.int (0 : Int32))]) (lenOf pd_13 rfl) rfl (by show 2 * 0 + _ ≤ _; exact Nat.le_of_eq rfl) (hb hby d_prog_25_m_4_8) (fun _ _ => ⟨rfl, e0, (by decide : 0 + 0 ≤ 0), (by decide : 0 + 0 ≤ 0)⟩)
  dsimp only [Pt.U, Pt.locs, Pt.cells, Pt.slots] at X11 l11 y11 z11 st11 hQ11
  subst l11 y11 z11
  obtain ⟨rfl, rfl, eh11⟩ := hQ11
  have N11 := Fr.app N0 (Fr.nil n0)
  refine own_gs st11 ?_
  show own_Fin p e below (T11.setTop (mkF m 11 #[vr a1, vj (-3750763034362895579 : Int64), ss, vi (0 : Int32)] [(.int (2 : Int32)), (.int (0 : Int32))])) _
  refine own_gs (cur' := T11.setTop (mkF m 17 #[vr a1, vj (-3750763034362895579 : Int64), ss, vi (0 : Int32)] [(.int (0 : Int32)), (.ref a1), (.long (-3750763034362895579 : Int64))])) ?_ ?_
  · refine XS.icmpNo X11.here hx rfl (hb hby d_prog_25_m_4_11) rfl (tlt ((by decide) : (0 : Int32) < (2 : Int32))).2.1 ?_
    refine XS.lloadN X11.here hx rfl (hb hby d_prog_25_m_4_14) rfl ?_
    refine XS.aloadN X11.here hx rfl (hb hby d_prog_25_m_4_15) rfl rfl ?_
    show Steps p.tables e below (T11.setTop (mkF m 16 #[vr a1, vj (-3750763034362895579 : Int64), ss, vi (0 : Int32)] [(.ref a1), (.long (-3750763034362895579 : Int64))])) _
    refine XS.iloadN X11.here hx rfl (hb hby d_prog_25_m_4_16) rfl ?_
    exact Steps.refl _
  obtain ⟨cq12, kq12, q12a, q12b, q12c⟩ := isOf hZ eh11 E1
  obtain ⟨_, _, ⟨T12, L12, k12, n12⟩, -, X12, ⟨Lc12, hQ12, l12, y12, z12⟩, st12⟩ := X11.virtualBack hx (y := (⟨"java/lang/String", "charAt", "(I)C"⟩ : MethodName)) (z := (⟨"java/lang/String", "charAt", "(I)C"⟩ : MethodName)) hown (mvT hZ (hw _ (List.mem_of_getElem? (i := 51) rfl))) (mvT hZ (hw _ (List.mem_of_getElem? (i := 52) rfl))) (notFace_of_selects (args := #[]) (mvT hZ (hw _ (List.mem_of_getElem? (i := 54) rfl)))) (mvT hZ (hw _ (List.mem_of_getElem? (i := 54) rfl))) (mvT hZ (hw _ (List.mem_of_getElem? (i := 53) rfl))) (by decide) (own_chB (W := 2) hZ hW F1 (i := 0) (j := (0 : Int32)) (Nat.le_of_ble_eq_true rfl) rfl (n0 := n0) (by omega) O0 (by decide) (by decide)) q12a q12c (g := (mkF m 17 #[vr a1, vj (-3750763034362895579 : Int64), ss, vi (0 : Int32)] [(.int (0 : Int32)), (.ref a1), (.long (-3750763034362895579 : Int64))])) rfl (by rw [hml]; rfl) (Steps.refl _) (argsL := [(.int (0 : Int32))]) (rest := [(.long (-3750763034362895579 : Int64))]) (lenOf pd_14 rfl) rfl (by show 2 * 0 + _ ≤ _; exact Nat.le_of_eq rfl) (hb hby d_prog_25_m_4_17) (fun _ _ => ⟨rfl, eh11, (by decide : 0 + 0 ≤ 0), (by decide : 0 + 0 ≤ 0)⟩)
  dsimp only [Pt.U, Pt.locs, Pt.cells, Pt.slots] at X12 l12 y12 z12 st12 hQ12
  subst l12 y12 z12
  obtain ⟨rfl, Nq12, eh12⟩ := hQ12
  have N12 := Fr.app N11 Nq12
  refine own_gs st12 ?_
  show own_Fin p e below (T12.setTop (mkF m 20 #[vr a1, vj (-3750763034362895579 : Int64), ss, vi (0 : Int32)] [(.int c0), (.long (-3750763034362895579 : Int64))])) _
  refine own_gs (cur' := T12.setTop (mkF m 8 #[vr a1, vj (((-3750763034362895579 : Int64) ^^^ (c0.toInt64)) * (1099511628211 : Int64)), ss, vi (1 : Int32)] [(.ref a1), (.int (1 : Int32))])) ?_ ?_
  · refine XS.i2l X12.here hx rfl (hb hby d_prog_25_m_4_20) rfl ?_
    refine XS.lxor X12.here hx rfl (hb hby d_prog_25_m_4_21) rfl ?_
    refine XS.lstoreN X12.here hx rfl (hb hby d_prog_25_m_4_22) rfl (l' := #[vr a1, vj ((-3750763034362895579 : Int64) ^^^ (c0.toInt64)), ss, vi (0 : Int32)]) rfl ?_
    show Steps p.tables e below (T12.setTop (mkF m 23 #[vr a1, vj ((-3750763034362895579 : Int64) ^^^ (c0.toInt64)), ss, vi (0 : Int32)] [])) _
    refine XS.lloadN X12.here hx rfl (hb hby d_prog_25_m_4_23) rfl ?_
    refine X12.ldc2Long hx hown (mvT hZ (hw _ (List.mem_of_getElem? (i := 73) rfl))) (g := (mkF m 24 #[vr a1, vj ((-3750763034362895579 : Int64) ^^^ (c0.toInt64)), ss, vi (0 : Int32)] [(.long ((-3750763034362895579 : Int64) ^^^ (c0.toInt64)))])) rfl (hb hby d_prog_25_m_4_24) _ ?_
    refine XS.lmul X12.here hx rfl (hb hby d_prog_25_m_4_27) rfl ?_
    show Steps p.tables e below (T12.setTop (mkF m 28 #[vr a1, vj ((-3750763034362895579 : Int64) ^^^ (c0.toInt64)), ss, vi (0 : Int32)] [(.long (((-3750763034362895579 : Int64) ^^^ (c0.toInt64)) * (1099511628211 : Int64)))])) _
    refine XS.lstoreN X12.here hx rfl (hb hby d_prog_25_m_4_28) rfl (l' := #[vr a1, vj (((-3750763034362895579 : Int64) ^^^ (c0.toInt64)) * (1099511628211 : Int64)), ss, vi (0 : Int32)]) rfl ?_
    refine XS.iinc X12.here hx rfl (hb hby d_prog_25_m_4_29) rfl (l' := #[vr a1, vj (((-3750763034362895579 : Int64) ^^^ (c0.toInt64)) * (1099511628211 : Int64)), ss, vi (1 : Int32)]) rfl ?_
    refine XS.goto X12.here hx rfl (pc0 := 32) (pc' := 6) rfl (hb hby d_prog_25_m_4_32) (by decide) (by decide) ?_
    show Steps p.tables e below (T12.setTop (mkF m 6 #[vr a1, vj (((-3750763034362895579 : Int64) ^^^ (c0.toInt64)) * (1099511628211 : Int64)), ss, vi (1 : Int32)] [])) _
    refine XS.iloadN X12.here hx rfl (hb hby d_prog_25_m_4_6) rfl ?_
    refine XS.aloadN X12.here hx rfl (hb hby d_prog_25_m_4_7) rfl rfl ?_
    exact Steps.refl _
  obtain ⟨cq13, kq13, q13a, q13b, q13c⟩ := isOf hZ eh12 E1
  obtain ⟨_, _, ⟨T13, L13, k13, n13⟩, -, X13, ⟨Lc13, hQ13, l13, y13, z13⟩, st13⟩ := X12.virtualBack hx (y := (⟨"java/lang/String", "length", "()I"⟩ : MethodName)) (z := (⟨"java/lang/String", "length", "()I"⟩ : MethodName)) hown (mvT hZ (hw _ (List.mem_of_getElem? (i := 41) rfl))) (mvT hZ (hw _ (List.mem_of_getElem? (i := 42) rfl))) (notFace_of_selects (args := #[]) (mvT hZ (hw _ (List.mem_of_getElem? (i := 44) rfl)))) (mvT hZ (hw _ (List.mem_of_getElem? (i := 44) rfl))) (mvT hZ (hw _ (List.mem_of_getElem? (i := 43) rfl))) (by decide) (own_lenB (W := 1) hZ hw F1 (O2.ext O0.2) P5 (by decide) (by decide)) q13a q13c (g := (mkF m 8 #[vr a1, vj (((-3750763034362895579 : Int64) ^^^ (c0.toInt64)) * (1099511628211 : Int64)), ss, vi (1 : Int32)] [(.ref a1), (.int (1 : Int32))])) rfl (by rw [hml]; rfl) (Steps.refl _) (argsL := []) (rest := [(.int (1 : Int32))]) (lenOf pd_13 rfl) rfl (by show 2 * 0 + _ ≤ _; exact Nat.le_of_eq rfl) (hb hby d_prog_25_m_4_8) (fun _ _ => ⟨rfl, eh12, (by decide : 0 + 0 ≤ 0), (by decide : 0 + 0 ≤ 0)⟩)
  dsimp only [Pt.U, Pt.locs, Pt.cells, Pt.slots] at X13 l13 y13 z13 st13 hQ13
  subst l13 y13 z13
  obtain ⟨rfl, rfl, eh13⟩ := hQ13
  have N13 := Fr.app N12 (Fr.nil n0)
  refine own_gs st13 ?_
  show own_Fin p e below (T13.setTop (mkF m 11 #[vr a1, vj (((-3750763034362895579 : Int64) ^^^ (c0.toInt64)) * (1099511628211 : Int64)), ss, vi (1 : Int32)] [(.int (2 : Int32)), (.int (1 : Int32))])) _
  refine own_gs (cur' := T13.setTop (mkF m 17 #[vr a1, vj (((-3750763034362895579 : Int64) ^^^ (c0.toInt64)) * (1099511628211 : Int64)), ss, vi (1 : Int32)] [(.int (1 : Int32)), (.ref a1), (.long (((-3750763034362895579 : Int64) ^^^ (c0.toInt64)) * (1099511628211 : Int64)))])) ?_ ?_
  · refine XS.icmpNo X13.here hx rfl (hb hby d_prog_25_m_4_11) rfl (tlt ((by decide) : (1 : Int32) < (2 : Int32))).2.1 ?_
    refine XS.lloadN X13.here hx rfl (hb hby d_prog_25_m_4_14) rfl ?_
    refine XS.aloadN X13.here hx rfl (hb hby d_prog_25_m_4_15) rfl rfl ?_
    show Steps p.tables e below (T13.setTop (mkF m 16 #[vr a1, vj (((-3750763034362895579 : Int64) ^^^ (c0.toInt64)) * (1099511628211 : Int64)), ss, vi (1 : Int32)] [(.ref a1), (.long (((-3750763034362895579 : Int64) ^^^ (c0.toInt64)) * (1099511628211 : Int64)))])) _
    refine XS.iloadN X13.here hx rfl (hb hby d_prog_25_m_4_16) rfl ?_
    exact Steps.refl _
  obtain ⟨cq14, kq14, q14a, q14b, q14c⟩ := isOf hZ eh13 E1
  obtain ⟨_, _, ⟨T14, L14, k14, n14⟩, -, X14, ⟨Lc14, hQ14, l14, y14, z14⟩, st14⟩ := X13.virtualBack hx (y := (⟨"java/lang/String", "charAt", "(I)C"⟩ : MethodName)) (z := (⟨"java/lang/String", "charAt", "(I)C"⟩ : MethodName)) hown (mvT hZ (hw _ (List.mem_of_getElem? (i := 51) rfl))) (mvT hZ (hw _ (List.mem_of_getElem? (i := 52) rfl))) (notFace_of_selects (args := #[]) (mvT hZ (hw _ (List.mem_of_getElem? (i := 54) rfl)))) (mvT hZ (hw _ (List.mem_of_getElem? (i := 54) rfl))) (mvT hZ (hw _ (List.mem_of_getElem? (i := 53) rfl))) (by decide) (own_chB (W := 2) hZ hW F1 (i := 1) (j := (1 : Int32)) (Nat.le_of_ble_eq_true rfl) rfl (n0 := n0) (by omega) O0 (by decide) (by decide)) q14a q14c (g := (mkF m 17 #[vr a1, vj (((-3750763034362895579 : Int64) ^^^ (c0.toInt64)) * (1099511628211 : Int64)), ss, vi (1 : Int32)] [(.int (1 : Int32)), (.ref a1), (.long (((-3750763034362895579 : Int64) ^^^ (c0.toInt64)) * (1099511628211 : Int64)))])) rfl (by rw [hml]; rfl) (Steps.refl _) (argsL := [(.int (1 : Int32))]) (rest := [(.long (((-3750763034362895579 : Int64) ^^^ (c0.toInt64)) * (1099511628211 : Int64)))]) (lenOf pd_14 rfl) rfl (by show 2 * 0 + _ ≤ _; exact Nat.le_of_eq rfl) (hb hby d_prog_25_m_4_17) (fun _ _ => ⟨rfl, eh13, (by decide : 0 + 0 ≤ 0), (by decide : 0 + 0 ≤ 0)⟩)
  dsimp only [Pt.U, Pt.locs, Pt.cells, Pt.slots] at X14 l14 y14 z14 st14 hQ14
  subst l14 y14 z14
  obtain ⟨rfl, Nq14, eh14⟩ := hQ14
  have N14 := Fr.app N13 Nq14
  refine own_gs st14 ?_
  show own_Fin p e below (T14.setTop (mkF m 20 #[vr a1, vj (((-3750763034362895579 : Int64) ^^^ (c0.toInt64)) * (1099511628211 : Int64)), ss, vi (1 : Int32)] [(.int c1), (.long (((-3750763034362895579 : Int64) ^^^ (c0.toInt64)) * (1099511628211 : Int64)))])) _
  refine own_gs (cur' := T14.setTop (mkF m 8 #[vr a1, vj (((((-3750763034362895579 : Int64) ^^^ (c0.toInt64)) * (1099511628211 : Int64)) ^^^ (c1.toInt64)) * (1099511628211 : Int64)), ss, vi (2 : Int32)] [(.ref a1), (.int (2 : Int32))])) ?_ ?_
  · refine XS.i2l X14.here hx rfl (hb hby d_prog_25_m_4_20) rfl ?_
    refine XS.lxor X14.here hx rfl (hb hby d_prog_25_m_4_21) rfl ?_
    refine XS.lstoreN X14.here hx rfl (hb hby d_prog_25_m_4_22) rfl (l' := #[vr a1, vj ((((-3750763034362895579 : Int64) ^^^ (c0.toInt64)) * (1099511628211 : Int64)) ^^^ (c1.toInt64)), ss, vi (1 : Int32)]) rfl ?_
    show Steps p.tables e below (T14.setTop (mkF m 23 #[vr a1, vj ((((-3750763034362895579 : Int64) ^^^ (c0.toInt64)) * (1099511628211 : Int64)) ^^^ (c1.toInt64)), ss, vi (1 : Int32)] [])) _
    refine XS.lloadN X14.here hx rfl (hb hby d_prog_25_m_4_23) rfl ?_
    refine X14.ldc2Long hx hown (mvT hZ (hw _ (List.mem_of_getElem? (i := 73) rfl))) (g := (mkF m 24 #[vr a1, vj ((((-3750763034362895579 : Int64) ^^^ (c0.toInt64)) * (1099511628211 : Int64)) ^^^ (c1.toInt64)), ss, vi (1 : Int32)] [(.long ((((-3750763034362895579 : Int64) ^^^ (c0.toInt64)) * (1099511628211 : Int64)) ^^^ (c1.toInt64)))])) rfl (hb hby d_prog_25_m_4_24) _ ?_
    refine XS.lmul X14.here hx rfl (hb hby d_prog_25_m_4_27) rfl ?_
    show Steps p.tables e below (T14.setTop (mkF m 28 #[vr a1, vj ((((-3750763034362895579 : Int64) ^^^ (c0.toInt64)) * (1099511628211 : Int64)) ^^^ (c1.toInt64)), ss, vi (1 : Int32)] [(.long (((((-3750763034362895579 : Int64) ^^^ (c0.toInt64)) * (1099511628211 : Int64)) ^^^ (c1.toInt64)) * (1099511628211 : Int64)))])) _
    refine XS.lstoreN X14.here hx rfl (hb hby d_prog_25_m_4_28) rfl (l' := #[vr a1, vj (((((-3750763034362895579 : Int64) ^^^ (c0.toInt64)) * (1099511628211 : Int64)) ^^^ (c1.toInt64)) * (1099511628211 : Int64)), ss, vi (1 : Int32)]) rfl ?_
    refine XS.iinc X14.here hx rfl (hb hby d_prog_25_m_4_29) rfl (l' := #[vr a1, vj (((((-3750763034362895579 : Int64) ^^^ (c0.toInt64)) * (1099511628211 : Int64)) ^^^ (c1.toInt64)) * (1099511628211 : Int64)), ss, vi (2 : Int32)]) rfl ?_
    refine XS.goto X14.here hx rfl (pc0 := 32) (pc' := 6) rfl (hb hby d_prog_25_m_4_32) (by decide) (by decide) ?_
    show Steps p.tables e below (T14.setTop (mkF m 6 #[vr a1, vj (((((-3750763034362895579 : Int64) ^^^ (c0.toInt64)) * (1099511628211 : Int64)) ^^^ (c1.toInt64)) * (1099511628211 : Int64)), ss, vi (2 : Int32)] [])) _
    refine XS.iloadN X14.here hx rfl (hb hby d_prog_25_m_4_6) rfl ?_
    refine XS.aloadN X14.here hx rfl (hb hby d_prog_25_m_4_7) rfl rfl ?_
    exact Steps.refl _
  obtain ⟨cq15, kq15, q15a, q15b, q15c⟩ := isOf hZ eh14 E1
  obtain ⟨_, _, ⟨T15, L15, k15, n15⟩, -, X15, ⟨Lc15, hQ15, l15, y15, z15⟩, st15⟩ := X14.virtualBack hx (y := (⟨"java/lang/String", "length", "()I"⟩ : MethodName)) (z := (⟨"java/lang/String", "length", "()I"⟩ : MethodName)) hown (mvT hZ (hw _ (List.mem_of_getElem? (i := 41) rfl))) (mvT hZ (hw _ (List.mem_of_getElem? (i := 42) rfl))) (notFace_of_selects (args := #[]) (mvT hZ (hw _ (List.mem_of_getElem? (i := 44) rfl)))) (mvT hZ (hw _ (List.mem_of_getElem? (i := 44) rfl))) (mvT hZ (hw _ (List.mem_of_getElem? (i := 43) rfl))) (by decide) (own_lenB (W := 1) hZ hw F1 (O2.ext O0.2) P5 (by decide) (by decide)) q15a q15c (g := (mkF m 8 #[vr a1, vj (((((-3750763034362895579 : Int64) ^^^ (c0.toInt64)) * (1099511628211 : Int64)) ^^^ (c1.toInt64)) * (1099511628211 : Int64)), ss, vi (2 : Int32)] [(.ref a1), (.int (2 : Int32))])) rfl (by rw [hml]; rfl) (Steps.refl _) (argsL := []) (rest := [(.int (2 : Int32))]) (lenOf pd_13 rfl) rfl (by show 2 * 0 + _ ≤ _; exact Nat.le_of_eq rfl) (hb hby d_prog_25_m_4_8) (fun _ _ => ⟨rfl, eh14, (by decide : 0 + 0 ≤ 0), (by decide : 0 + 0 ≤ 0)⟩)
  dsimp only [Pt.U, Pt.locs, Pt.cells, Pt.slots] at X15 l15 y15 z15 st15 hQ15
  subst l15 y15 z15
  obtain ⟨rfl, rfl, eh15⟩ := hQ15
  have N15 := Fr.app N14 (Fr.nil n0)
  refine own_gs st15 ?_
  show own_Fin p e below (T15.setTop (mkF m 11 #[vr a1, vj (((((-3750763034362895579 : Int64) ^^^ (c0.toInt64)) * (1099511628211 : Int64)) ^^^ (c1.toInt64)) * (1099511628211 : Int64)), ss, vi (2 : Int32)] [(.int (2 : Int32)), (.int (2 : Int32))])) _
  refine own_gs (cur' := T15.setTop (mkF m 36 #[vr a1, vj (((((-3750763034362895579 : Int64) ^^^ (c0.toInt64)) * (1099511628211 : Int64)) ^^^ (c1.toInt64)) * (1099511628211 : Int64)), ss, vi (2 : Int32)] [(.long (((((-3750763034362895579 : Int64) ^^^ (c0.toInt64)) * (1099511628211 : Int64)) ^^^ (c1.toInt64)) * (1099511628211 : Int64)))])) ?_ ?_
  · refine XS.icmpYes X15.here hx rfl (pc0 := 11) (pc' := 35) rfl (hb hby d_prog_25_m_4_11) rfl (flt ((by decide) : ¬ ((2 : Int32) < (2 : Int32)))).2.1 (by decide) (by decide) ?_
    refine XS.lloadN X15.here hx rfl (hb hby d_prog_25_m_4_35) rfl ?_
    exact Steps.refl _
  obtain ⟨fs, hr, hrun, hended, hW1, hsame⟩ := X15.leave (v := (some (.long (((((-3750763034362895579 : Int64) ^^^ (c0.toInt64)) * (1099511628211 : Int64)) ^^^ (c1.toInt64)) * (1099511628211 : Int64))))) (fun h => by rw [Bd.returns] at h; cases h)
  refine ⟨_, _, X15.lreturnOut hx Bd.returns (hb hby d_prog_25_m_4_36) hr, hrun, hended, _, _, rfl, ?_, ⟨_, rfl⟩, hW1, hsame.mono (by decide) (by decide)⟩
  show own_hash2_Q Z a1 t1 c0 c1 h0 n0 (some (.long (((((-3750763034362895579 : Int64) ^^^ (c0.toInt64)) * (1099511628211 : Int64)) ^^^ (c1.toInt64)) * (1099511628211 : Int64)))) T15.heap _
  rw [eh15]
  exact ⟨rfl, N15, rfl⟩
def own_hash3_Q (Z : State) (a1 t1 : Nat) (c0 c1 c2 : Int32) (h0 : Heap) (n0 : Nat) (v : Option Value) (h : Heap) (L : List Loc) : Prop := v = (some (.long (own_fnv [c0, c1, c2]))) ∧ Fr n0 L ∧ h = h0
theorem ef_own_hash3 (m : MethodId) (x0 : Nat) : entryFrame m #[(.ref x0)] 4 = mkF m 0 #[vr x0, .unset, .unset, .unset] [] := by first | (simp [entryFrame, mkF, argsToLocals, Value.category]; done) | rfl
set_option maxRecDepth 65536 in
set_option maxHeartbeats 40000000 in
theorem own_hash3 (l : Launch) (Z : State) (a0 : Array Value) (hW : own_W Z a0) (a1 t1 : Nat) (c0 c1 c2 : Int32) (h0 : Heap) (n0 : Nat) (Z0 : n0 ≤ h0.size) (O0 : Old Z n0 h0) (F1 : own_Str Z h0 a1 t1 [c0, c1, c2]) :
    MetFree l (⟨"com/example/idunn/idunn/PathHashes", "hash", "(Ljava/lang/String;)J"⟩ : MethodName) (head1 (Jvm.Cond.code (⟨"com/example/idunn/idunn/PathHashes", "hash", "(Ljava/lang/String;)J"⟩ : MethodName) prog_25_method_4_code 4 (some .long) :: []) ({ frames := 5, cells := 0, slots := 0, locals := 70 } : Room)) (fun a U => a = #[(.ref a1)] ∧ Z.Warmed39 U.vm ∧ U.heap = h0) (fun _ _ _ _ _ => True) (fun _ U o U' => ∃ v L, o = .returned v ∧ own_hash3_Q Z a1 t1 c0 c1 c2 h0 n0 v U'.heap L ∧ FrameEnd U o U' L ({ frames := 5, cells := 0, slots := 0, locals := 70 } : Room).cells ({ frames := 5, cells := 0, slots := 0, locals := 70 } : Room).slots) := by
  refine MetFree.of_bodySF (plainFor_of_name pn_com_example_idunn_idunn_PathHashes) hisR ?_
  intro p e s m args below meth c s₁ Bd hml0 hP hK
  obtain ⟨rfl, hZ, hh⟩ := hP
  obtain ⟨hw, ⟨G1, O2, P5⟩, ⟨G3, O4, rG3⟩, Oa, Oh, Ol⟩ := id hW
  have hx := Bd.exec
  have hby := Bd.bytes
  have hml : c.maxLocals = 4 := hml0
  have hown : s.vm.findClass "com/example/idunn/idunn/PathHashes" = some m.cls := findClass_of_methodNamed Bd.named
  have hnm := (name_of_methodNamed Bd.named Bd.method).1
  have X0 : Stand p l e ({ frames := 5, cells := 0, slots := 0, locals := 70 } : Room) s m #[(.ref a1)] below meth c s₁ [] 0 0 := Stand.of_body Bd
  have e0 : s₁.heap = h0 := by rw [← hh, Bd.state]; rfl
  have N0 := Fr.nil n0
  have K0 := Keep.refl h0 []
  have E1 := F1.exa
  have lt1 := F1.lt
  show own_Fin p e below (s₁.setTop (entryFrame m #[(.ref a1)] 4)) _
  refine own_gs (castTop (ef_own_hash3 m a1) (Steps.refl _)) ?_
  show own_Fin p e below (s₁.setTop (mkF m 0 #[vr a1, uu, uu, uu] [])) _
  refine own_gs (cur' := s₁.setTop (mkF m 8 #[vr a1, vj (-3750763034362895579 : Int64), ss, vi (0 : Int32)] [(.ref a1), (.int (0 : Int32))])) ?_ ?_
  · refine X0.ldc2Long hx hown (mvT hZ (hw _ (List.mem_of_getElem? (i := 40) rfl))) (g := (mkF m 0 #[vr a1, uu, uu, uu] [])) rfl (hb hby d_prog_25_m_4_0) _ ?_
    refine XS.lstoreN X0.here hx rfl (hb hby d_prog_25_m_4_3) rfl (l' := #[vr a1, vj (-3750763034362895579 : Int64), ss, uu]) rfl ?_
    refine XS.iconst X0.here hx rfl (hb hby d_prog_25_m_4_4) ?_
    show Steps p.tables e below (s₁.setTop (mkF m 5 #[vr a1, vj (-3750763034362895579 : Int64), ss, uu] [(.int (0 : Int32))])) _
    refine XS.istoreN X0.here hx rfl (hb hby d_prog_25_m_4_5) rfl (l' := #[vr a1, vj (-3750763034362895579 : Int64), ss, vi (0 : Int32)]) rfl ?_
    refine XS.iloadN X0.here hx rfl (hb hby d_prog_25_m_4_6) rfl ?_
    refine XS.aloadN X0.here hx rfl (hb hby d_prog_25_m_4_7) rfl rfl ?_
    exact Steps.refl _
  obtain ⟨cq11, kq11, q11a, q11b, q11c⟩ := isOf hZ e0 E1
  obtain ⟨_, _, ⟨T11, L11, k11, n11⟩, -, X11, ⟨Lc11, hQ11, l11, y11, z11⟩, st11⟩ := X0.virtualBack hx (y := (⟨"java/lang/String", "length", "()I"⟩ : MethodName)) (z := (⟨"java/lang/String", "length", "()I"⟩ : MethodName)) hown (mvT hZ (hw _ (List.mem_of_getElem? (i := 41) rfl))) (mvT hZ (hw _ (List.mem_of_getElem? (i := 42) rfl))) (notFace_of_selects (args := #[]) (mvT hZ (hw _ (List.mem_of_getElem? (i := 44) rfl)))) (mvT hZ (hw _ (List.mem_of_getElem? (i := 44) rfl))) (mvT hZ (hw _ (List.mem_of_getElem? (i := 43) rfl))) (by decide) (own_lenB (W := 1) hZ hw F1 (O2.ext O0.2) P5 (by decide) (by decide)) q11a q11c (g := (mkF m 8 #[vr a1, vj (-3750763034362895579 : Int64), ss, vi (0 : Int32)] [(.ref a1), (.int (0 : Int32))])) rfl (by rw [hml]; rfl) (Steps.refl _) (argsL := []) (rest := [(.int (0 : Int32))]) (lenOf pd_13 rfl) rfl (by show 2 * 0 + _ ≤ _; exact Nat.le_of_eq rfl) (hb hby d_prog_25_m_4_8) (fun _ _ => ⟨rfl, e0, (by decide : 0 + 0 ≤ 0), (by decide : 0 + 0 ≤ 0)⟩)
  dsimp only [Pt.U, Pt.locs, Pt.cells, Pt.slots] at X11 l11 y11 z11 st11 hQ11
  subst l11 y11 z11
  obtain ⟨rfl, rfl, eh11⟩ := hQ11
  have N11 := Fr.app N0 (Fr.nil n0)
  refine own_gs st11 ?_
  show own_Fin p e below (T11.setTop (mkF m 11 #[vr a1, vj (-3750763034362895579 : Int64), ss, vi (0 : Int32)] [(.int (3 : Int32)), (.int (0 : Int32))])) _
  refine own_gs (cur' := T11.setTop (mkF m 17 #[vr a1, vj (-3750763034362895579 : Int64), ss, vi (0 : Int32)] [(.int (0 : Int32)), (.ref a1), (.long (-3750763034362895579 : Int64))])) ?_ ?_
  · refine XS.icmpNo X11.here hx rfl (hb hby d_prog_25_m_4_11) rfl (tlt ((by decide) : (0 : Int32) < (3 : Int32))).2.1 ?_
    refine XS.lloadN X11.here hx rfl (hb hby d_prog_25_m_4_14) rfl ?_
    refine XS.aloadN X11.here hx rfl (hb hby d_prog_25_m_4_15) rfl rfl ?_
    show Steps p.tables e below (T11.setTop (mkF m 16 #[vr a1, vj (-3750763034362895579 : Int64), ss, vi (0 : Int32)] [(.ref a1), (.long (-3750763034362895579 : Int64))])) _
    refine XS.iloadN X11.here hx rfl (hb hby d_prog_25_m_4_16) rfl ?_
    exact Steps.refl _
  obtain ⟨cq12, kq12, q12a, q12b, q12c⟩ := isOf hZ eh11 E1
  obtain ⟨_, _, ⟨T12, L12, k12, n12⟩, -, X12, ⟨Lc12, hQ12, l12, y12, z12⟩, st12⟩ := X11.virtualBack hx (y := (⟨"java/lang/String", "charAt", "(I)C"⟩ : MethodName)) (z := (⟨"java/lang/String", "charAt", "(I)C"⟩ : MethodName)) hown (mvT hZ (hw _ (List.mem_of_getElem? (i := 51) rfl))) (mvT hZ (hw _ (List.mem_of_getElem? (i := 52) rfl))) (notFace_of_selects (args := #[]) (mvT hZ (hw _ (List.mem_of_getElem? (i := 54) rfl)))) (mvT hZ (hw _ (List.mem_of_getElem? (i := 54) rfl))) (mvT hZ (hw _ (List.mem_of_getElem? (i := 53) rfl))) (by decide) (own_chB (W := 2) hZ hW F1 (i := 0) (j := (0 : Int32)) (Nat.le_of_ble_eq_true rfl) rfl (n0 := n0) (by omega) O0 (by decide) (by decide)) q12a q12c (g := (mkF m 17 #[vr a1, vj (-3750763034362895579 : Int64), ss, vi (0 : Int32)] [(.int (0 : Int32)), (.ref a1), (.long (-3750763034362895579 : Int64))])) rfl (by rw [hml]; rfl) (Steps.refl _) (argsL := [(.int (0 : Int32))]) (rest := [(.long (-3750763034362895579 : Int64))]) (lenOf pd_14 rfl) rfl (by show 2 * 0 + _ ≤ _; exact Nat.le_of_eq rfl) (hb hby d_prog_25_m_4_17) (fun _ _ => ⟨rfl, eh11, (by decide : 0 + 0 ≤ 0), (by decide : 0 + 0 ≤ 0)⟩)
  dsimp only [Pt.U, Pt.locs, Pt.cells, Pt.slots] at X12 l12 y12 z12 st12 hQ12
  subst l12 y12 z12
  obtain ⟨rfl, Nq12, eh12⟩ := hQ12
  have N12 := Fr.app N11 Nq12
  refine own_gs st12 ?_
  show own_Fin p e below (T12.setTop (mkF m 20 #[vr a1, vj (-3750763034362895579 : Int64), ss, vi (0 : Int32)] [(.int c0), (.long (-3750763034362895579 : Int64))])) _
  refine own_gs (cur' := T12.setTop (mkF m 8 #[vr a1, vj (((-3750763034362895579 : Int64) ^^^ (c0.toInt64)) * (1099511628211 : Int64)), ss, vi (1 : Int32)] [(.ref a1), (.int (1 : Int32))])) ?_ ?_
  · refine XS.i2l X12.here hx rfl (hb hby d_prog_25_m_4_20) rfl ?_
    refine XS.lxor X12.here hx rfl (hb hby d_prog_25_m_4_21) rfl ?_
    refine XS.lstoreN X12.here hx rfl (hb hby d_prog_25_m_4_22) rfl (l' := #[vr a1, vj ((-3750763034362895579 : Int64) ^^^ (c0.toInt64)), ss, vi (0 : Int32)]) rfl ?_
    show Steps p.tables e below (T12.setTop (mkF m 23 #[vr a1, vj ((-3750763034362895579 : Int64) ^^^ (c0.toInt64)), ss, vi (0 : Int32)] [])) _
    refine XS.lloadN X12.here hx rfl (hb hby d_prog_25_m_4_23) rfl ?_
    refine X12.ldc2Long hx hown (mvT hZ (hw _ (List.mem_of_getElem? (i := 73) rfl))) (g := (mkF m 24 #[vr a1, vj ((-3750763034362895579 : Int64) ^^^ (c0.toInt64)), ss, vi (0 : Int32)] [(.long ((-3750763034362895579 : Int64) ^^^ (c0.toInt64)))])) rfl (hb hby d_prog_25_m_4_24) _ ?_
    refine XS.lmul X12.here hx rfl (hb hby d_prog_25_m_4_27) rfl ?_
    show Steps p.tables e below (T12.setTop (mkF m 28 #[vr a1, vj ((-3750763034362895579 : Int64) ^^^ (c0.toInt64)), ss, vi (0 : Int32)] [(.long (((-3750763034362895579 : Int64) ^^^ (c0.toInt64)) * (1099511628211 : Int64)))])) _
    refine XS.lstoreN X12.here hx rfl (hb hby d_prog_25_m_4_28) rfl (l' := #[vr a1, vj (((-3750763034362895579 : Int64) ^^^ (c0.toInt64)) * (1099511628211 : Int64)), ss, vi (0 : Int32)]) rfl ?_
    refine XS.iinc X12.here hx rfl (hb hby d_prog_25_m_4_29) rfl (l' := #[vr a1, vj (((-3750763034362895579 : Int64) ^^^ (c0.toInt64)) * (1099511628211 : Int64)), ss, vi (1 : Int32)]) rfl ?_
    refine XS.goto X12.here hx rfl (pc0 := 32) (pc' := 6) rfl (hb hby d_prog_25_m_4_32) (by decide) (by decide) ?_
    show Steps p.tables e below (T12.setTop (mkF m 6 #[vr a1, vj (((-3750763034362895579 : Int64) ^^^ (c0.toInt64)) * (1099511628211 : Int64)), ss, vi (1 : Int32)] [])) _
    refine XS.iloadN X12.here hx rfl (hb hby d_prog_25_m_4_6) rfl ?_
    refine XS.aloadN X12.here hx rfl (hb hby d_prog_25_m_4_7) rfl rfl ?_
    exact Steps.refl _
  obtain ⟨cq13, kq13, q13a, q13b, q13c⟩ := isOf hZ eh12 E1
  obtain ⟨_, _, ⟨T13, L13, k13, n13⟩, -, X13, ⟨Lc13, hQ13, l13, y13, z13⟩, st13⟩ := X12.virtualBack hx (y := (⟨"java/lang/String", "length", "()I"⟩ : MethodName)) (z := (⟨"java/lang/String", "length", "()I"⟩ : MethodName)) hown (mvT hZ (hw _ (List.mem_of_getElem? (i := 41) rfl))) (mvT hZ (hw _ (List.mem_of_getElem? (i := 42) rfl))) (notFace_of_selects (args := #[]) (mvT hZ (hw _ (List.mem_of_getElem? (i := 44) rfl)))) (mvT hZ (hw _ (List.mem_of_getElem? (i := 44) rfl))) (mvT hZ (hw _ (List.mem_of_getElem? (i := 43) rfl))) (by decide) (own_lenB (W := 1) hZ hw F1 (O2.ext O0.2) P5 (by decide) (by decide)) q13a q13c (g := (mkF m 8 #[vr a1, vj (((-3750763034362895579 : Int64) ^^^ (c0.toInt64)) * (1099511628211 : Int64)), ss, vi (1 : Int32)] [(.ref a1), (.int (1 : Int32))])) rfl (by rw [hml]; rfl) (Steps.refl _) (argsL := []) (rest := [(.int (1 : Int32))]) (lenOf pd_13 rfl) rfl (by show 2 * 0 + _ ≤ _; exact Nat.le_of_eq rfl) (hb hby d_prog_25_m_4_8) (fun _ _ => ⟨rfl, eh12, (by decide : 0 + 0 ≤ 0), (by decide : 0 + 0 ≤ 0)⟩)
  dsimp only [Pt.U, Pt.locs, Pt.cells, Pt.slots] at X13 l13 y13 z13 st13 hQ13
  subst l13 y13 z13
  obtain ⟨rfl, rfl, eh13⟩ := hQ13
  have N13 := Fr.app N12 (Fr.nil n0)
  refine own_gs st13 ?_
  show own_Fin p e below (T13.setTop (mkF m 11 #[vr a1, vj (((-3750763034362895579 : Int64) ^^^ (c0.toInt64)) * (1099511628211 : Int64)), ss, vi (1 : Int32)] [(.int (3 : Int32)), (.int (1 : Int32))])) _
  refine own_gs (cur' := T13.setTop (mkF m 17 #[vr a1, vj (((-3750763034362895579 : Int64) ^^^ (c0.toInt64)) * (1099511628211 : Int64)), ss, vi (1 : Int32)] [(.int (1 : Int32)), (.ref a1), (.long (((-3750763034362895579 : Int64) ^^^ (c0.toInt64)) * (1099511628211 : Int64)))])) ?_ ?_
  · refine XS.icmpNo X13.here hx rfl (hb hby d_prog_25_m_4_11) rfl (tlt ((by decide) : (1 : Int32) < (3 : Int32))).2.1 ?_
    refine XS.lloadN X13.here hx rfl (hb hby d_prog_25_m_4_14) rfl ?_
    refine XS.aloadN X13.here hx rfl (hb hby d_prog_25_m_4_15) rfl rfl ?_
    show Steps p.tables e below (T13.setTop (mkF m 16 #[vr a1, vj (((-3750763034362895579 : Int64) ^^^ (c0.toInt64)) * (1099511628211 : Int64)), ss, vi (1 : Int32)] [(.ref a1), (.long (((-3750763034362895579 : Int64) ^^^ (c0.toInt64)) * (1099511628211 : Int64)))])) _
    refine XS.iloadN X13.here hx rfl (hb hby d_prog_25_m_4_16) rfl ?_
    exact Steps.refl _
  obtain ⟨cq14, kq14, q14a, q14b, q14c⟩ := isOf hZ eh13 E1
  obtain ⟨_, _, ⟨T14, L14, k14, n14⟩, -, X14, ⟨Lc14, hQ14, l14, y14, z14⟩, st14⟩ := X13.virtualBack hx (y := (⟨"java/lang/String", "charAt", "(I)C"⟩ : MethodName)) (z := (⟨"java/lang/String", "charAt", "(I)C"⟩ : MethodName)) hown (mvT hZ (hw _ (List.mem_of_getElem? (i := 51) rfl))) (mvT hZ (hw _ (List.mem_of_getElem? (i := 52) rfl))) (notFace_of_selects (args := #[]) (mvT hZ (hw _ (List.mem_of_getElem? (i := 54) rfl)))) (mvT hZ (hw _ (List.mem_of_getElem? (i := 54) rfl))) (mvT hZ (hw _ (List.mem_of_getElem? (i := 53) rfl))) (by decide) (own_chB (W := 2) hZ hW F1 (i := 1) (j := (1 : Int32)) (Nat.le_of_ble_eq_true rfl) rfl (n0 := n0) (by omega) O0 (by decide) (by decide)) q14a q14c (g := (mkF m 17 #[vr a1, vj (((-3750763034362895579 : Int64) ^^^ (c0.toInt64)) * (1099511628211 : Int64)), ss, vi (1 : Int32)] [(.int (1 : Int32)), (.ref a1), (.long (((-3750763034362895579 : Int64) ^^^ (c0.toInt64)) * (1099511628211 : Int64)))])) rfl (by rw [hml]; rfl) (Steps.refl _) (argsL := [(.int (1 : Int32))]) (rest := [(.long (((-3750763034362895579 : Int64) ^^^ (c0.toInt64)) * (1099511628211 : Int64)))]) (lenOf pd_14 rfl) rfl (by show 2 * 0 + _ ≤ _; exact Nat.le_of_eq rfl) (hb hby d_prog_25_m_4_17) (fun _ _ => ⟨rfl, eh13, (by decide : 0 + 0 ≤ 0), (by decide : 0 + 0 ≤ 0)⟩)
  dsimp only [Pt.U, Pt.locs, Pt.cells, Pt.slots] at X14 l14 y14 z14 st14 hQ14
  subst l14 y14 z14
  obtain ⟨rfl, Nq14, eh14⟩ := hQ14
  have N14 := Fr.app N13 Nq14
  refine own_gs st14 ?_
  show own_Fin p e below (T14.setTop (mkF m 20 #[vr a1, vj (((-3750763034362895579 : Int64) ^^^ (c0.toInt64)) * (1099511628211 : Int64)), ss, vi (1 : Int32)] [(.int c1), (.long (((-3750763034362895579 : Int64) ^^^ (c0.toInt64)) * (1099511628211 : Int64)))])) _
  refine own_gs (cur' := T14.setTop (mkF m 8 #[vr a1, vj (((((-3750763034362895579 : Int64) ^^^ (c0.toInt64)) * (1099511628211 : Int64)) ^^^ (c1.toInt64)) * (1099511628211 : Int64)), ss, vi (2 : Int32)] [(.ref a1), (.int (2 : Int32))])) ?_ ?_
  · refine XS.i2l X14.here hx rfl (hb hby d_prog_25_m_4_20) rfl ?_
    refine XS.lxor X14.here hx rfl (hb hby d_prog_25_m_4_21) rfl ?_
    refine XS.lstoreN X14.here hx rfl (hb hby d_prog_25_m_4_22) rfl (l' := #[vr a1, vj ((((-3750763034362895579 : Int64) ^^^ (c0.toInt64)) * (1099511628211 : Int64)) ^^^ (c1.toInt64)), ss, vi (1 : Int32)]) rfl ?_
    show Steps p.tables e below (T14.setTop (mkF m 23 #[vr a1, vj ((((-3750763034362895579 : Int64) ^^^ (c0.toInt64)) * (1099511628211 : Int64)) ^^^ (c1.toInt64)), ss, vi (1 : Int32)] [])) _
    refine XS.lloadN X14.here hx rfl (hb hby d_prog_25_m_4_23) rfl ?_
    refine X14.ldc2Long hx hown (mvT hZ (hw _ (List.mem_of_getElem? (i := 73) rfl))) (g := (mkF m 24 #[vr a1, vj ((((-3750763034362895579 : Int64) ^^^ (c0.toInt64)) * (1099511628211 : Int64)) ^^^ (c1.toInt64)), ss, vi (1 : Int32)] [(.long ((((-3750763034362895579 : Int64) ^^^ (c0.toInt64)) * (1099511628211 : Int64)) ^^^ (c1.toInt64)))])) rfl (hb hby d_prog_25_m_4_24) _ ?_
    refine XS.lmul X14.here hx rfl (hb hby d_prog_25_m_4_27) rfl ?_
    show Steps p.tables e below (T14.setTop (mkF m 28 #[vr a1, vj ((((-3750763034362895579 : Int64) ^^^ (c0.toInt64)) * (1099511628211 : Int64)) ^^^ (c1.toInt64)), ss, vi (1 : Int32)] [(.long (((((-3750763034362895579 : Int64) ^^^ (c0.toInt64)) * (1099511628211 : Int64)) ^^^ (c1.toInt64)) * (1099511628211 : Int64)))])) _
    refine XS.lstoreN X14.here hx rfl (hb hby d_prog_25_m_4_28) rfl (l' := #[vr a1, vj (((((-3750763034362895579 : Int64) ^^^ (c0.toInt64)) * (1099511628211 : Int64)) ^^^ (c1.toInt64)) * (1099511628211 : Int64)), ss, vi (1 : Int32)]) rfl ?_
    refine XS.iinc X14.here hx rfl (hb hby d_prog_25_m_4_29) rfl (l' := #[vr a1, vj (((((-3750763034362895579 : Int64) ^^^ (c0.toInt64)) * (1099511628211 : Int64)) ^^^ (c1.toInt64)) * (1099511628211 : Int64)), ss, vi (2 : Int32)]) rfl ?_
    refine XS.goto X14.here hx rfl (pc0 := 32) (pc' := 6) rfl (hb hby d_prog_25_m_4_32) (by decide) (by decide) ?_
    show Steps p.tables e below (T14.setTop (mkF m 6 #[vr a1, vj (((((-3750763034362895579 : Int64) ^^^ (c0.toInt64)) * (1099511628211 : Int64)) ^^^ (c1.toInt64)) * (1099511628211 : Int64)), ss, vi (2 : Int32)] [])) _
    refine XS.iloadN X14.here hx rfl (hb hby d_prog_25_m_4_6) rfl ?_
    refine XS.aloadN X14.here hx rfl (hb hby d_prog_25_m_4_7) rfl rfl ?_
    exact Steps.refl _
  obtain ⟨cq15, kq15, q15a, q15b, q15c⟩ := isOf hZ eh14 E1
  obtain ⟨_, _, ⟨T15, L15, k15, n15⟩, -, X15, ⟨Lc15, hQ15, l15, y15, z15⟩, st15⟩ := X14.virtualBack hx (y := (⟨"java/lang/String", "length", "()I"⟩ : MethodName)) (z := (⟨"java/lang/String", "length", "()I"⟩ : MethodName)) hown (mvT hZ (hw _ (List.mem_of_getElem? (i := 41) rfl))) (mvT hZ (hw _ (List.mem_of_getElem? (i := 42) rfl))) (notFace_of_selects (args := #[]) (mvT hZ (hw _ (List.mem_of_getElem? (i := 44) rfl)))) (mvT hZ (hw _ (List.mem_of_getElem? (i := 44) rfl))) (mvT hZ (hw _ (List.mem_of_getElem? (i := 43) rfl))) (by decide) (own_lenB (W := 1) hZ hw F1 (O2.ext O0.2) P5 (by decide) (by decide)) q15a q15c (g := (mkF m 8 #[vr a1, vj (((((-3750763034362895579 : Int64) ^^^ (c0.toInt64)) * (1099511628211 : Int64)) ^^^ (c1.toInt64)) * (1099511628211 : Int64)), ss, vi (2 : Int32)] [(.ref a1), (.int (2 : Int32))])) rfl (by rw [hml]; rfl) (Steps.refl _) (argsL := []) (rest := [(.int (2 : Int32))]) (lenOf pd_13 rfl) rfl (by show 2 * 0 + _ ≤ _; exact Nat.le_of_eq rfl) (hb hby d_prog_25_m_4_8) (fun _ _ => ⟨rfl, eh14, (by decide : 0 + 0 ≤ 0), (by decide : 0 + 0 ≤ 0)⟩)
  dsimp only [Pt.U, Pt.locs, Pt.cells, Pt.slots] at X15 l15 y15 z15 st15 hQ15
  subst l15 y15 z15
  obtain ⟨rfl, rfl, eh15⟩ := hQ15
  have N15 := Fr.app N14 (Fr.nil n0)
  refine own_gs st15 ?_
  show own_Fin p e below (T15.setTop (mkF m 11 #[vr a1, vj (((((-3750763034362895579 : Int64) ^^^ (c0.toInt64)) * (1099511628211 : Int64)) ^^^ (c1.toInt64)) * (1099511628211 : Int64)), ss, vi (2 : Int32)] [(.int (3 : Int32)), (.int (2 : Int32))])) _
  refine own_gs (cur' := T15.setTop (mkF m 17 #[vr a1, vj (((((-3750763034362895579 : Int64) ^^^ (c0.toInt64)) * (1099511628211 : Int64)) ^^^ (c1.toInt64)) * (1099511628211 : Int64)), ss, vi (2 : Int32)] [(.int (2 : Int32)), (.ref a1), (.long (((((-3750763034362895579 : Int64) ^^^ (c0.toInt64)) * (1099511628211 : Int64)) ^^^ (c1.toInt64)) * (1099511628211 : Int64)))])) ?_ ?_
  · refine XS.icmpNo X15.here hx rfl (hb hby d_prog_25_m_4_11) rfl (tlt ((by decide) : (2 : Int32) < (3 : Int32))).2.1 ?_
    refine XS.lloadN X15.here hx rfl (hb hby d_prog_25_m_4_14) rfl ?_
    refine XS.aloadN X15.here hx rfl (hb hby d_prog_25_m_4_15) rfl rfl ?_
    show Steps p.tables e below (T15.setTop (mkF m 16 #[vr a1, vj (((((-3750763034362895579 : Int64) ^^^ (c0.toInt64)) * (1099511628211 : Int64)) ^^^ (c1.toInt64)) * (1099511628211 : Int64)), ss, vi (2 : Int32)] [(.ref a1), (.long (((((-3750763034362895579 : Int64) ^^^ (c0.toInt64)) * (1099511628211 : Int64)) ^^^ (c1.toInt64)) * (1099511628211 : Int64)))])) _
    refine XS.iloadN X15.here hx rfl (hb hby d_prog_25_m_4_16) rfl ?_
    exact Steps.refl _
  obtain ⟨cq16, kq16, q16a, q16b, q16c⟩ := isOf hZ eh15 E1
  obtain ⟨_, _, ⟨T16, L16, k16, n16⟩, -, X16, ⟨Lc16, hQ16, l16, y16, z16⟩, st16⟩ := X15.virtualBack hx (y := (⟨"java/lang/String", "charAt", "(I)C"⟩ : MethodName)) (z := (⟨"java/lang/String", "charAt", "(I)C"⟩ : MethodName)) hown (mvT hZ (hw _ (List.mem_of_getElem? (i := 51) rfl))) (mvT hZ (hw _ (List.mem_of_getElem? (i := 52) rfl))) (notFace_of_selects (args := #[]) (mvT hZ (hw _ (List.mem_of_getElem? (i := 54) rfl)))) (mvT hZ (hw _ (List.mem_of_getElem? (i := 54) rfl))) (mvT hZ (hw _ (List.mem_of_getElem? (i := 53) rfl))) (by decide) (own_chB (W := 2) hZ hW F1 (i := 2) (j := (2 : Int32)) (Nat.le_of_ble_eq_true rfl) rfl (n0 := n0) (by omega) O0 (by decide) (by decide)) q16a q16c (g := (mkF m 17 #[vr a1, vj (((((-3750763034362895579 : Int64) ^^^ (c0.toInt64)) * (1099511628211 : Int64)) ^^^ (c1.toInt64)) * (1099511628211 : Int64)), ss, vi (2 : Int32)] [(.int (2 : Int32)), (.ref a1), (.long (((((-3750763034362895579 : Int64) ^^^ (c0.toInt64)) * (1099511628211 : Int64)) ^^^ (c1.toInt64)) * (1099511628211 : Int64)))])) rfl (by rw [hml]; rfl) (Steps.refl _) (argsL := [(.int (2 : Int32))]) (rest := [(.long (((((-3750763034362895579 : Int64) ^^^ (c0.toInt64)) * (1099511628211 : Int64)) ^^^ (c1.toInt64)) * (1099511628211 : Int64)))]) (lenOf pd_14 rfl) rfl (by show 2 * 0 + _ ≤ _; exact Nat.le_of_eq rfl) (hb hby d_prog_25_m_4_17) (fun _ _ => ⟨rfl, eh15, (by decide : 0 + 0 ≤ 0), (by decide : 0 + 0 ≤ 0)⟩)
  dsimp only [Pt.U, Pt.locs, Pt.cells, Pt.slots] at X16 l16 y16 z16 st16 hQ16
  subst l16 y16 z16
  obtain ⟨rfl, Nq16, eh16⟩ := hQ16
  have N16 := Fr.app N15 Nq16
  refine own_gs st16 ?_
  show own_Fin p e below (T16.setTop (mkF m 20 #[vr a1, vj (((((-3750763034362895579 : Int64) ^^^ (c0.toInt64)) * (1099511628211 : Int64)) ^^^ (c1.toInt64)) * (1099511628211 : Int64)), ss, vi (2 : Int32)] [(.int c2), (.long (((((-3750763034362895579 : Int64) ^^^ (c0.toInt64)) * (1099511628211 : Int64)) ^^^ (c1.toInt64)) * (1099511628211 : Int64)))])) _
  refine own_gs (cur' := T16.setTop (mkF m 8 #[vr a1, vj (((((((-3750763034362895579 : Int64) ^^^ (c0.toInt64)) * (1099511628211 : Int64)) ^^^ (c1.toInt64)) * (1099511628211 : Int64)) ^^^ (c2.toInt64)) * (1099511628211 : Int64)), ss, vi (3 : Int32)] [(.ref a1), (.int (3 : Int32))])) ?_ ?_
  · refine XS.i2l X16.here hx rfl (hb hby d_prog_25_m_4_20) rfl ?_
    refine XS.lxor X16.here hx rfl (hb hby d_prog_25_m_4_21) rfl ?_
    refine XS.lstoreN X16.here hx rfl (hb hby d_prog_25_m_4_22) rfl (l' := #[vr a1, vj ((((((-3750763034362895579 : Int64) ^^^ (c0.toInt64)) * (1099511628211 : Int64)) ^^^ (c1.toInt64)) * (1099511628211 : Int64)) ^^^ (c2.toInt64)), ss, vi (2 : Int32)]) rfl ?_
    show Steps p.tables e below (T16.setTop (mkF m 23 #[vr a1, vj ((((((-3750763034362895579 : Int64) ^^^ (c0.toInt64)) * (1099511628211 : Int64)) ^^^ (c1.toInt64)) * (1099511628211 : Int64)) ^^^ (c2.toInt64)), ss, vi (2 : Int32)] [])) _
    refine XS.lloadN X16.here hx rfl (hb hby d_prog_25_m_4_23) rfl ?_
    refine X16.ldc2Long hx hown (mvT hZ (hw _ (List.mem_of_getElem? (i := 73) rfl))) (g := (mkF m 24 #[vr a1, vj ((((((-3750763034362895579 : Int64) ^^^ (c0.toInt64)) * (1099511628211 : Int64)) ^^^ (c1.toInt64)) * (1099511628211 : Int64)) ^^^ (c2.toInt64)), ss, vi (2 : Int32)] [(.long ((((((-3750763034362895579 : Int64) ^^^ (c0.toInt64)) * (1099511628211 : Int64)) ^^^ (c1.toInt64)) * (1099511628211 : Int64)) ^^^ (c2.toInt64)))])) rfl (hb hby d_prog_25_m_4_24) _ ?_
    refine XS.lmul X16.here hx rfl (hb hby d_prog_25_m_4_27) rfl ?_
    show Steps p.tables e below (T16.setTop (mkF m 28 #[vr a1, vj ((((((-3750763034362895579 : Int64) ^^^ (c0.toInt64)) * (1099511628211 : Int64)) ^^^ (c1.toInt64)) * (1099511628211 : Int64)) ^^^ (c2.toInt64)), ss, vi (2 : Int32)] [(.long (((((((-3750763034362895579 : Int64) ^^^ (c0.toInt64)) * (1099511628211 : Int64)) ^^^ (c1.toInt64)) * (1099511628211 : Int64)) ^^^ (c2.toInt64)) * (1099511628211 : Int64)))])) _
    refine XS.lstoreN X16.here hx rfl (hb hby d_prog_25_m_4_28) rfl (l' := #[vr a1, vj (((((((-3750763034362895579 : Int64) ^^^ (c0.toInt64)) * (1099511628211 : Int64)) ^^^ (c1.toInt64)) * (1099511628211 : Int64)) ^^^ (c2.toInt64)) * (1099511628211 : Int64)), ss, vi (2 : Int32)]) rfl ?_
    refine XS.iinc X16.here hx rfl (hb hby d_prog_25_m_4_29) rfl (l' := #[vr a1, vj (((((((-3750763034362895579 : Int64) ^^^ (c0.toInt64)) * (1099511628211 : Int64)) ^^^ (c1.toInt64)) * (1099511628211 : Int64)) ^^^ (c2.toInt64)) * (1099511628211 : Int64)), ss, vi (3 : Int32)]) rfl ?_
    refine XS.goto X16.here hx rfl (pc0 := 32) (pc' := 6) rfl (hb hby d_prog_25_m_4_32) (by decide) (by decide) ?_
    show Steps p.tables e below (T16.setTop (mkF m 6 #[vr a1, vj (((((((-3750763034362895579 : Int64) ^^^ (c0.toInt64)) * (1099511628211 : Int64)) ^^^ (c1.toInt64)) * (1099511628211 : Int64)) ^^^ (c2.toInt64)) * (1099511628211 : Int64)), ss, vi (3 : Int32)] [])) _
    refine XS.iloadN X16.here hx rfl (hb hby d_prog_25_m_4_6) rfl ?_
    refine XS.aloadN X16.here hx rfl (hb hby d_prog_25_m_4_7) rfl rfl ?_
    exact Steps.refl _
  obtain ⟨cq17, kq17, q17a, q17b, q17c⟩ := isOf hZ eh16 E1
  obtain ⟨_, _, ⟨T17, L17, k17, n17⟩, -, X17, ⟨Lc17, hQ17, l17, y17, z17⟩, st17⟩ := X16.virtualBack hx (y := (⟨"java/lang/String", "length", "()I"⟩ : MethodName)) (z := (⟨"java/lang/String", "length", "()I"⟩ : MethodName)) hown (mvT hZ (hw _ (List.mem_of_getElem? (i := 41) rfl))) (mvT hZ (hw _ (List.mem_of_getElem? (i := 42) rfl))) (notFace_of_selects (args := #[]) (mvT hZ (hw _ (List.mem_of_getElem? (i := 44) rfl)))) (mvT hZ (hw _ (List.mem_of_getElem? (i := 44) rfl))) (mvT hZ (hw _ (List.mem_of_getElem? (i := 43) rfl))) (by decide) (own_lenB (W := 1) hZ hw F1 (O2.ext O0.2) P5 (by decide) (by decide)) q17a q17c (g := (mkF m 8 #[vr a1, vj (((((((-3750763034362895579 : Int64) ^^^ (c0.toInt64)) * (1099511628211 : Int64)) ^^^ (c1.toInt64)) * (1099511628211 : Int64)) ^^^ (c2.toInt64)) * (1099511628211 : Int64)), ss, vi (3 : Int32)] [(.ref a1), (.int (3 : Int32))])) rfl (by rw [hml]; rfl) (Steps.refl _) (argsL := []) (rest := [(.int (3 : Int32))]) (lenOf pd_13 rfl) rfl (by show 2 * 0 + _ ≤ _; exact Nat.le_of_eq rfl) (hb hby d_prog_25_m_4_8) (fun _ _ => ⟨rfl, eh16, (by decide : 0 + 0 ≤ 0), (by decide : 0 + 0 ≤ 0)⟩)
  dsimp only [Pt.U, Pt.locs, Pt.cells, Pt.slots] at X17 l17 y17 z17 st17 hQ17
  subst l17 y17 z17
  obtain ⟨rfl, rfl, eh17⟩ := hQ17
  have N17 := Fr.app N16 (Fr.nil n0)
  refine own_gs st17 ?_
  show own_Fin p e below (T17.setTop (mkF m 11 #[vr a1, vj (((((((-3750763034362895579 : Int64) ^^^ (c0.toInt64)) * (1099511628211 : Int64)) ^^^ (c1.toInt64)) * (1099511628211 : Int64)) ^^^ (c2.toInt64)) * (1099511628211 : Int64)), ss, vi (3 : Int32)] [(.int (3 : Int32)), (.int (3 : Int32))])) _
  refine own_gs (cur' := T17.setTop (mkF m 36 #[vr a1, vj (((((((-3750763034362895579 : Int64) ^^^ (c0.toInt64)) * (1099511628211 : Int64)) ^^^ (c1.toInt64)) * (1099511628211 : Int64)) ^^^ (c2.toInt64)) * (1099511628211 : Int64)), ss, vi (3 : Int32)] [(.long (((((((-3750763034362895579 : Int64) ^^^ (c0.toInt64)) * (1099511628211 : Int64)) ^^^ (c1.toInt64)) * (1099511628211 : Int64)) ^^^ (c2.toInt64)) * (1099511628211 : Int64)))])) ?_ ?_
  · refine XS.icmpYes X17.here hx rfl (pc0 := 11) (pc' := 35) rfl (hb hby d_prog_25_m_4_11) rfl (flt ((by decide) : ¬ ((3 : Int32) < (3 : Int32)))).2.1 (by decide) (by decide) ?_
    refine XS.lloadN X17.here hx rfl (hb hby d_prog_25_m_4_35) rfl ?_
    exact Steps.refl _
  obtain ⟨fs, hr, hrun, hended, hW1, hsame⟩ := X17.leave (v := (some (.long (((((((-3750763034362895579 : Int64) ^^^ (c0.toInt64)) * (1099511628211 : Int64)) ^^^ (c1.toInt64)) * (1099511628211 : Int64)) ^^^ (c2.toInt64)) * (1099511628211 : Int64))))) (fun h => by rw [Bd.returns] at h; cases h)
  refine ⟨_, _, X17.lreturnOut hx Bd.returns (hb hby d_prog_25_m_4_36) hr, hrun, hended, _, _, rfl, ?_, ⟨_, rfl⟩, hW1, hsame.mono (by decide) (by decide)⟩
  show own_hash3_Q Z a1 t1 c0 c1 c2 h0 n0 (some (.long (((((((-3750763034362895579 : Int64) ^^^ (c0.toInt64)) * (1099511628211 : Int64)) ^^^ (c1.toInt64)) * (1099511628211 : Int64)) ^^^ (c2.toInt64)) * (1099511628211 : Int64)))) T17.heap _
  rw [eh17]
  exact ⟨rfl, N17, rfl⟩
def own_hash4_Q (Z : State) (a1 t1 : Nat) (c0 c1 c2 c3 : Int32) (h0 : Heap) (n0 : Nat) (v : Option Value) (h : Heap) (L : List Loc) : Prop := v = (some (.long (own_fnv [c0, c1, c2, c3]))) ∧ Fr n0 L ∧ h = h0
theorem ef_own_hash4 (m : MethodId) (x0 : Nat) : entryFrame m #[(.ref x0)] 4 = mkF m 0 #[vr x0, .unset, .unset, .unset] [] := by first | (simp [entryFrame, mkF, argsToLocals, Value.category]; done) | rfl
set_option maxRecDepth 65536 in
set_option maxHeartbeats 40000000 in
theorem own_hash4 (l : Launch) (Z : State) (a0 : Array Value) (hW : own_W Z a0) (a1 t1 : Nat) (c0 c1 c2 c3 : Int32) (h0 : Heap) (n0 : Nat) (Z0 : n0 ≤ h0.size) (O0 : Old Z n0 h0) (F1 : own_Str Z h0 a1 t1 [c0, c1, c2, c3]) :
    MetFree l (⟨"com/example/idunn/idunn/PathHashes", "hash", "(Ljava/lang/String;)J"⟩ : MethodName) (head1 (Jvm.Cond.code (⟨"com/example/idunn/idunn/PathHashes", "hash", "(Ljava/lang/String;)J"⟩ : MethodName) prog_25_method_4_code 4 (some .long) :: []) ({ frames := 5, cells := 0, slots := 0, locals := 70 } : Room)) (fun a U => a = #[(.ref a1)] ∧ Z.Warmed39 U.vm ∧ U.heap = h0) (fun _ _ _ _ _ => True) (fun _ U o U' => ∃ v L, o = .returned v ∧ own_hash4_Q Z a1 t1 c0 c1 c2 c3 h0 n0 v U'.heap L ∧ FrameEnd U o U' L ({ frames := 5, cells := 0, slots := 0, locals := 70 } : Room).cells ({ frames := 5, cells := 0, slots := 0, locals := 70 } : Room).slots) := by
  refine MetFree.of_bodySF (plainFor_of_name pn_com_example_idunn_idunn_PathHashes) hisR ?_
  intro p e s m args below meth c s₁ Bd hml0 hP hK
  obtain ⟨rfl, hZ, hh⟩ := hP
  obtain ⟨hw, ⟨G1, O2, P5⟩, ⟨G3, O4, rG3⟩, Oa, Oh, Ol⟩ := id hW
  have hx := Bd.exec
  have hby := Bd.bytes
  have hml : c.maxLocals = 4 := hml0
  have hown : s.vm.findClass "com/example/idunn/idunn/PathHashes" = some m.cls := findClass_of_methodNamed Bd.named
  have hnm := (name_of_methodNamed Bd.named Bd.method).1
  have X0 : Stand p l e ({ frames := 5, cells := 0, slots := 0, locals := 70 } : Room) s m #[(.ref a1)] below meth c s₁ [] 0 0 := Stand.of_body Bd
  have e0 : s₁.heap = h0 := by rw [← hh, Bd.state]; rfl
  have N0 := Fr.nil n0
  have K0 := Keep.refl h0 []
  have E1 := F1.exa
  have lt1 := F1.lt
  show own_Fin p e below (s₁.setTop (entryFrame m #[(.ref a1)] 4)) _
  refine own_gs (castTop (ef_own_hash4 m a1) (Steps.refl _)) ?_
  show own_Fin p e below (s₁.setTop (mkF m 0 #[vr a1, uu, uu, uu] [])) _
  refine own_gs (cur' := s₁.setTop (mkF m 8 #[vr a1, vj (-3750763034362895579 : Int64), ss, vi (0 : Int32)] [(.ref a1), (.int (0 : Int32))])) ?_ ?_
  · refine X0.ldc2Long hx hown (mvT hZ (hw _ (List.mem_of_getElem? (i := 40) rfl))) (g := (mkF m 0 #[vr a1, uu, uu, uu] [])) rfl (hb hby d_prog_25_m_4_0) _ ?_
    refine XS.lstoreN X0.here hx rfl (hb hby d_prog_25_m_4_3) rfl (l' := #[vr a1, vj (-3750763034362895579 : Int64), ss, uu]) rfl ?_
    refine XS.iconst X0.here hx rfl (hb hby d_prog_25_m_4_4) ?_
    show Steps p.tables e below (s₁.setTop (mkF m 5 #[vr a1, vj (-3750763034362895579 : Int64), ss, uu] [(.int (0 : Int32))])) _
    refine XS.istoreN X0.here hx rfl (hb hby d_prog_25_m_4_5) rfl (l' := #[vr a1, vj (-3750763034362895579 : Int64), ss, vi (0 : Int32)]) rfl ?_
    refine XS.iloadN X0.here hx rfl (hb hby d_prog_25_m_4_6) rfl ?_
    refine XS.aloadN X0.here hx rfl (hb hby d_prog_25_m_4_7) rfl rfl ?_
    exact Steps.refl _
  obtain ⟨cq11, kq11, q11a, q11b, q11c⟩ := isOf hZ e0 E1
  obtain ⟨_, _, ⟨T11, L11, k11, n11⟩, -, X11, ⟨Lc11, hQ11, l11, y11, z11⟩, st11⟩ := X0.virtualBack hx (y := (⟨"java/lang/String", "length", "()I"⟩ : MethodName)) (z := (⟨"java/lang/String", "length", "()I"⟩ : MethodName)) hown (mvT hZ (hw _ (List.mem_of_getElem? (i := 41) rfl))) (mvT hZ (hw _ (List.mem_of_getElem? (i := 42) rfl))) (notFace_of_selects (args := #[]) (mvT hZ (hw _ (List.mem_of_getElem? (i := 44) rfl)))) (mvT hZ (hw _ (List.mem_of_getElem? (i := 44) rfl))) (mvT hZ (hw _ (List.mem_of_getElem? (i := 43) rfl))) (by decide) (own_lenB (W := 1) hZ hw F1 (O2.ext O0.2) P5 (by decide) (by decide)) q11a q11c (g := (mkF m 8 #[vr a1, vj (-3750763034362895579 : Int64), ss, vi (0 : Int32)] [(.ref a1), (.int (0 : Int32))])) rfl (by rw [hml]; rfl) (Steps.refl _) (argsL := []) (rest := [(.int (0 : Int32))]) (lenOf pd_13 rfl) rfl (by show 2 * 0 + _ ≤ _; exact Nat.le_of_eq rfl) (hb hby d_prog_25_m_4_8) (fun _ _ => ⟨rfl, e0, (by decide : 0 + 0 ≤ 0), (by decide : 0 + 0 ≤ 0)⟩)
  dsimp only [Pt.U, Pt.locs, Pt.cells, Pt.slots] at X11 l11 y11 z11 st11 hQ11
  subst l11 y11 z11
  obtain ⟨rfl, rfl, eh11⟩ := hQ11
  have N11 := Fr.app N0 (Fr.nil n0)
  refine own_gs st11 ?_
  show own_Fin p e below (T11.setTop (mkF m 11 #[vr a1, vj (-3750763034362895579 : Int64), ss, vi (0 : Int32)] [(.int (4 : Int32)), (.int (0 : Int32))])) _
  refine own_gs (cur' := T11.setTop (mkF m 17 #[vr a1, vj (-3750763034362895579 : Int64), ss, vi (0 : Int32)] [(.int (0 : Int32)), (.ref a1), (.long (-3750763034362895579 : Int64))])) ?_ ?_
  · refine XS.icmpNo X11.here hx rfl (hb hby d_prog_25_m_4_11) rfl (tlt ((by decide) : (0 : Int32) < (4 : Int32))).2.1 ?_
    refine XS.lloadN X11.here hx rfl (hb hby d_prog_25_m_4_14) rfl ?_
    refine XS.aloadN X11.here hx rfl (hb hby d_prog_25_m_4_15) rfl rfl ?_
    show Steps p.tables e below (T11.setTop (mkF m 16 #[vr a1, vj (-3750763034362895579 : Int64), ss, vi (0 : Int32)] [(.ref a1), (.long (-3750763034362895579 : Int64))])) _
    refine XS.iloadN X11.here hx rfl (hb hby d_prog_25_m_4_16) rfl ?_
    exact Steps.refl _
  obtain ⟨cq12, kq12, q12a, q12b, q12c⟩ := isOf hZ eh11 E1
  obtain ⟨_, _, ⟨T12, L12, k12, n12⟩, -, X12, ⟨Lc12, hQ12, l12, y12, z12⟩, st12⟩ := X11.virtualBack hx (y := (⟨"java/lang/String", "charAt", "(I)C"⟩ : MethodName)) (z := (⟨"java/lang/String", "charAt", "(I)C"⟩ : MethodName)) hown (mvT hZ (hw _ (List.mem_of_getElem? (i := 51) rfl))) (mvT hZ (hw _ (List.mem_of_getElem? (i := 52) rfl))) (notFace_of_selects (args := #[]) (mvT hZ (hw _ (List.mem_of_getElem? (i := 54) rfl)))) (mvT hZ (hw _ (List.mem_of_getElem? (i := 54) rfl))) (mvT hZ (hw _ (List.mem_of_getElem? (i := 53) rfl))) (by decide) (own_chB (W := 2) hZ hW F1 (i := 0) (j := (0 : Int32)) (Nat.le_of_ble_eq_true rfl) rfl (n0 := n0) (by omega) O0 (by decide) (by decide)) q12a q12c (g := (mkF m 17 #[vr a1, vj (-3750763034362895579 : Int64), ss, vi (0 : Int32)] [(.int (0 : Int32)), (.ref a1), (.long (-3750763034362895579 : Int64))])) rfl (by rw [hml]; rfl) (Steps.refl _) (argsL := [(.int (0 : Int32))]) (rest := [(.long (-3750763034362895579 : Int64))]) (lenOf pd_14 rfl) rfl (by show 2 * 0 + _ ≤ _; exact Nat.le_of_eq rfl) (hb hby d_prog_25_m_4_17) (fun _ _ => ⟨rfl, eh11, (by decide : 0 + 0 ≤ 0), (by decide : 0 + 0 ≤ 0)⟩)
  dsimp only [Pt.U, Pt.locs, Pt.cells, Pt.slots] at X12 l12 y12 z12 st12 hQ12
  subst l12 y12 z12
  obtain ⟨rfl, Nq12, eh12⟩ := hQ12
  have N12 := Fr.app N11 Nq12
  refine own_gs st12 ?_
  show own_Fin p e below (T12.setTop (mkF m 20 #[vr a1, vj (-3750763034362895579 : Int64), ss, vi (0 : Int32)] [(.int c0), (.long (-3750763034362895579 : Int64))])) _
  refine own_gs (cur' := T12.setTop (mkF m 8 #[vr a1, vj (((-3750763034362895579 : Int64) ^^^ (c0.toInt64)) * (1099511628211 : Int64)), ss, vi (1 : Int32)] [(.ref a1), (.int (1 : Int32))])) ?_ ?_
  · refine XS.i2l X12.here hx rfl (hb hby d_prog_25_m_4_20) rfl ?_
    refine XS.lxor X12.here hx rfl (hb hby d_prog_25_m_4_21) rfl ?_
    refine XS.lstoreN X12.here hx rfl (hb hby d_prog_25_m_4_22) rfl (l' := #[vr a1, vj ((-3750763034362895579 : Int64) ^^^ (c0.toInt64)), ss, vi (0 : Int32)]) rfl ?_
    show Steps p.tables e below (T12.setTop (mkF m 23 #[vr a1, vj ((-3750763034362895579 : Int64) ^^^ (c0.toInt64)), ss, vi (0 : Int32)] [])) _
    refine XS.lloadN X12.here hx rfl (hb hby d_prog_25_m_4_23) rfl ?_
    refine X12.ldc2Long hx hown (mvT hZ (hw _ (List.mem_of_getElem? (i := 73) rfl))) (g := (mkF m 24 #[vr a1, vj ((-3750763034362895579 : Int64) ^^^ (c0.toInt64)), ss, vi (0 : Int32)] [(.long ((-3750763034362895579 : Int64) ^^^ (c0.toInt64)))])) rfl (hb hby d_prog_25_m_4_24) _ ?_
    refine XS.lmul X12.here hx rfl (hb hby d_prog_25_m_4_27) rfl ?_
    show Steps p.tables e below (T12.setTop (mkF m 28 #[vr a1, vj ((-3750763034362895579 : Int64) ^^^ (c0.toInt64)), ss, vi (0 : Int32)] [(.long (((-3750763034362895579 : Int64) ^^^ (c0.toInt64)) * (1099511628211 : Int64)))])) _
    refine XS.lstoreN X12.here hx rfl (hb hby d_prog_25_m_4_28) rfl (l' := #[vr a1, vj (((-3750763034362895579 : Int64) ^^^ (c0.toInt64)) * (1099511628211 : Int64)), ss, vi (0 : Int32)]) rfl ?_
    refine XS.iinc X12.here hx rfl (hb hby d_prog_25_m_4_29) rfl (l' := #[vr a1, vj (((-3750763034362895579 : Int64) ^^^ (c0.toInt64)) * (1099511628211 : Int64)), ss, vi (1 : Int32)]) rfl ?_
    refine XS.goto X12.here hx rfl (pc0 := 32) (pc' := 6) rfl (hb hby d_prog_25_m_4_32) (by decide) (by decide) ?_
    show Steps p.tables e below (T12.setTop (mkF m 6 #[vr a1, vj (((-3750763034362895579 : Int64) ^^^ (c0.toInt64)) * (1099511628211 : Int64)), ss, vi (1 : Int32)] [])) _
    refine XS.iloadN X12.here hx rfl (hb hby d_prog_25_m_4_6) rfl ?_
    refine XS.aloadN X12.here hx rfl (hb hby d_prog_25_m_4_7) rfl rfl ?_
    exact Steps.refl _
  obtain ⟨cq13, kq13, q13a, q13b, q13c⟩ := isOf hZ eh12 E1
  obtain ⟨_, _, ⟨T13, L13, k13, n13⟩, -, X13, ⟨Lc13, hQ13, l13, y13, z13⟩, st13⟩ := X12.virtualBack hx (y := (⟨"java/lang/String", "length", "()I"⟩ : MethodName)) (z := (⟨"java/lang/String", "length", "()I"⟩ : MethodName)) hown (mvT hZ (hw _ (List.mem_of_getElem? (i := 41) rfl))) (mvT hZ (hw _ (List.mem_of_getElem? (i := 42) rfl))) (notFace_of_selects (args := #[]) (mvT hZ (hw _ (List.mem_of_getElem? (i := 44) rfl)))) (mvT hZ (hw _ (List.mem_of_getElem? (i := 44) rfl))) (mvT hZ (hw _ (List.mem_of_getElem? (i := 43) rfl))) (by decide) (own_lenB (W := 1) hZ hw F1 (O2.ext O0.2) P5 (by decide) (by decide)) q13a q13c (g := (mkF m 8 #[vr a1, vj (((-3750763034362895579 : Int64) ^^^ (c0.toInt64)) * (1099511628211 : Int64)), ss, vi (1 : Int32)] [(.ref a1), (.int (1 : Int32))])) rfl (by rw [hml]; rfl) (Steps.refl _) (argsL := []) (rest := [(.int (1 : Int32))]) (lenOf pd_13 rfl) rfl (by show 2 * 0 + _ ≤ _; exact Nat.le_of_eq rfl) (hb hby d_prog_25_m_4_8) (fun _ _ => ⟨rfl, eh12, (by decide : 0 + 0 ≤ 0), (by decide : 0 + 0 ≤ 0)⟩)
  dsimp only [Pt.U, Pt.locs, Pt.cells, Pt.slots] at X13 l13 y13 z13 st13 hQ13
  subst l13 y13 z13
  obtain ⟨rfl, rfl, eh13⟩ := hQ13
  have N13 := Fr.app N12 (Fr.nil n0)
  refine own_gs st13 ?_
  show own_Fin p e below (T13.setTop (mkF m 11 #[vr a1, vj (((-3750763034362895579 : Int64) ^^^ (c0.toInt64)) * (1099511628211 : Int64)), ss, vi (1 : Int32)] [(.int (4 : Int32)), (.int (1 : Int32))])) _
  refine own_gs (cur' := T13.setTop (mkF m 17 #[vr a1, vj (((-3750763034362895579 : Int64) ^^^ (c0.toInt64)) * (1099511628211 : Int64)), ss, vi (1 : Int32)] [(.int (1 : Int32)), (.ref a1), (.long (((-3750763034362895579 : Int64) ^^^ (c0.toInt64)) * (1099511628211 : Int64)))])) ?_ ?_
  · refine XS.icmpNo X13.here hx rfl (hb hby d_prog_25_m_4_11) rfl (tlt ((by decide) : (1 : Int32) < (4 : Int32))).2.1 ?_
    refine XS.lloadN X13.here hx rfl (hb hby d_prog_25_m_4_14) rfl ?_
    refine XS.aloadN X13.here hx rfl (hb hby d_prog_25_m_4_15) rfl rfl ?_
    show Steps p.tables e below (T13.setTop (mkF m 16 #[vr a1, vj (((-3750763034362895579 : Int64) ^^^ (c0.toInt64)) * (1099511628211 : Int64)), ss, vi (1 : Int32)] [(.ref a1), (.long (((-3750763034362895579 : Int64) ^^^ (c0.toInt64)) * (1099511628211 : Int64)))])) _
    refine XS.iloadN X13.here hx rfl (hb hby d_prog_25_m_4_16) rfl ?_
    exact Steps.refl _
  obtain ⟨cq14, kq14, q14a, q14b, q14c⟩ := isOf hZ eh13 E1
  obtain ⟨_, _, ⟨T14, L14, k14, n14⟩, -, X14, ⟨Lc14, hQ14, l14, y14, z14⟩, st14⟩ := X13.virtualBack hx (y := (⟨"java/lang/String", "charAt", "(I)C"⟩ : MethodName)) (z := (⟨"java/lang/String", "charAt", "(I)C"⟩ : MethodName)) hown (mvT hZ (hw _ (List.mem_of_getElem? (i := 51) rfl))) (mvT hZ (hw _ (List.mem_of_getElem? (i := 52) rfl))) (notFace_of_selects (args := #[]) (mvT hZ (hw _ (List.mem_of_getElem? (i := 54) rfl)))) (mvT hZ (hw _ (List.mem_of_getElem? (i := 54) rfl))) (mvT hZ (hw _ (List.mem_of_getElem? (i := 53) rfl))) (by decide) (own_chB (W := 2) hZ hW F1 (i := 1) (j := (1 : Int32)) (Nat.le_of_ble_eq_true rfl) rfl (n0 := n0) (by omega) O0 (by decide) (by decide)) q14a q14c (g := (mkF m 17 #[vr a1, vj (((-3750763034362895579 : Int64) ^^^ (c0.toInt64)) * (1099511628211 : Int64)), ss, vi (1 : Int32)] [(.int (1 : Int32)), (.ref a1), (.long (((-3750763034362895579 : Int64) ^^^ (c0.toInt64)) * (1099511628211 : Int64)))])) rfl (by rw [hml]; rfl) (Steps.refl _) (argsL := [(.int (1 : Int32))]) (rest := [(.long (((-3750763034362895579 : Int64) ^^^ (c0.toInt64)) * (1099511628211 : Int64)))]) (lenOf pd_14 rfl) rfl (by show 2 * 0 + _ ≤ _; exact Nat.le_of_eq rfl) (hb hby d_prog_25_m_4_17) (fun _ _ => ⟨rfl, eh13, (by decide : 0 + 0 ≤ 0), (by decide : 0 + 0 ≤ 0)⟩)
  dsimp only [Pt.U, Pt.locs, Pt.cells, Pt.slots] at X14 l14 y14 z14 st14 hQ14
  subst l14 y14 z14
  obtain ⟨rfl, Nq14, eh14⟩ := hQ14
  have N14 := Fr.app N13 Nq14
  refine own_gs st14 ?_
  show own_Fin p e below (T14.setTop (mkF m 20 #[vr a1, vj (((-3750763034362895579 : Int64) ^^^ (c0.toInt64)) * (1099511628211 : Int64)), ss, vi (1 : Int32)] [(.int c1), (.long (((-3750763034362895579 : Int64) ^^^ (c0.toInt64)) * (1099511628211 : Int64)))])) _
  refine own_gs (cur' := T14.setTop (mkF m 8 #[vr a1, vj (((((-3750763034362895579 : Int64) ^^^ (c0.toInt64)) * (1099511628211 : Int64)) ^^^ (c1.toInt64)) * (1099511628211 : Int64)), ss, vi (2 : Int32)] [(.ref a1), (.int (2 : Int32))])) ?_ ?_
  · refine XS.i2l X14.here hx rfl (hb hby d_prog_25_m_4_20) rfl ?_
    refine XS.lxor X14.here hx rfl (hb hby d_prog_25_m_4_21) rfl ?_
    refine XS.lstoreN X14.here hx rfl (hb hby d_prog_25_m_4_22) rfl (l' := #[vr a1, vj ((((-3750763034362895579 : Int64) ^^^ (c0.toInt64)) * (1099511628211 : Int64)) ^^^ (c1.toInt64)), ss, vi (1 : Int32)]) rfl ?_
    show Steps p.tables e below (T14.setTop (mkF m 23 #[vr a1, vj ((((-3750763034362895579 : Int64) ^^^ (c0.toInt64)) * (1099511628211 : Int64)) ^^^ (c1.toInt64)), ss, vi (1 : Int32)] [])) _
    refine XS.lloadN X14.here hx rfl (hb hby d_prog_25_m_4_23) rfl ?_
    refine X14.ldc2Long hx hown (mvT hZ (hw _ (List.mem_of_getElem? (i := 73) rfl))) (g := (mkF m 24 #[vr a1, vj ((((-3750763034362895579 : Int64) ^^^ (c0.toInt64)) * (1099511628211 : Int64)) ^^^ (c1.toInt64)), ss, vi (1 : Int32)] [(.long ((((-3750763034362895579 : Int64) ^^^ (c0.toInt64)) * (1099511628211 : Int64)) ^^^ (c1.toInt64)))])) rfl (hb hby d_prog_25_m_4_24) _ ?_
    refine XS.lmul X14.here hx rfl (hb hby d_prog_25_m_4_27) rfl ?_
    show Steps p.tables e below (T14.setTop (mkF m 28 #[vr a1, vj ((((-3750763034362895579 : Int64) ^^^ (c0.toInt64)) * (1099511628211 : Int64)) ^^^ (c1.toInt64)), ss, vi (1 : Int32)] [(.long (((((-3750763034362895579 : Int64) ^^^ (c0.toInt64)) * (1099511628211 : Int64)) ^^^ (c1.toInt64)) * (1099511628211 : Int64)))])) _
    refine XS.lstoreN X14.here hx rfl (hb hby d_prog_25_m_4_28) rfl (l' := #[vr a1, vj (((((-3750763034362895579 : Int64) ^^^ (c0.toInt64)) * (1099511628211 : Int64)) ^^^ (c1.toInt64)) * (1099511628211 : Int64)), ss, vi (1 : Int32)]) rfl ?_
    refine XS.iinc X14.here hx rfl (hb hby d_prog_25_m_4_29) rfl (l' := #[vr a1, vj (((((-3750763034362895579 : Int64) ^^^ (c0.toInt64)) * (1099511628211 : Int64)) ^^^ (c1.toInt64)) * (1099511628211 : Int64)), ss, vi (2 : Int32)]) rfl ?_
    refine XS.goto X14.here hx rfl (pc0 := 32) (pc' := 6) rfl (hb hby d_prog_25_m_4_32) (by decide) (by decide) ?_
    show Steps p.tables e below (T14.setTop (mkF m 6 #[vr a1, vj (((((-3750763034362895579 : Int64) ^^^ (c0.toInt64)) * (1099511628211 : Int64)) ^^^ (c1.toInt64)) * (1099511628211 : Int64)), ss, vi (2 : Int32)] [])) _
    refine XS.iloadN X14.here hx rfl (hb hby d_prog_25_m_4_6) rfl ?_
    refine XS.aloadN X14.here hx rfl (hb hby d_prog_25_m_4_7) rfl rfl ?_
    exact Steps.refl _
  obtain ⟨cq15, kq15, q15a, q15b, q15c⟩ := isOf hZ eh14 E1
  obtain ⟨_, _, ⟨T15, L15, k15, n15⟩, -, X15, ⟨Lc15, hQ15, l15, y15, z15⟩, st15⟩ := X14.virtualBack hx (y := (⟨"java/lang/String", "length", "()I"⟩ : MethodName)) (z := (⟨"java/lang/String", "length", "()I"⟩ : MethodName)) hown (mvT hZ (hw _ (List.mem_of_getElem? (i := 41) rfl))) (mvT hZ (hw _ (List.mem_of_getElem? (i := 42) rfl))) (notFace_of_selects (args := #[]) (mvT hZ (hw _ (List.mem_of_getElem? (i := 44) rfl)))) (mvT hZ (hw _ (List.mem_of_getElem? (i := 44) rfl))) (mvT hZ (hw _ (List.mem_of_getElem? (i := 43) rfl))) (by decide) (own_lenB (W := 1) hZ hw F1 (O2.ext O0.2) P5 (by decide) (by decide)) q15a q15c (g := (mkF m 8 #[vr a1, vj (((((-3750763034362895579 : Int64) ^^^ (c0.toInt64)) * (1099511628211 : Int64)) ^^^ (c1.toInt64)) * (1099511628211 : Int64)), ss, vi (2 : Int32)] [(.ref a1), (.int (2 : Int32))])) rfl (by rw [hml]; rfl) (Steps.refl _) (argsL := []) (rest := [(.int (2 : Int32))]) (lenOf pd_13 rfl) rfl (by show 2 * 0 + _ ≤ _; exact Nat.le_of_eq rfl) (hb hby d_prog_25_m_4_8) (fun _ _ => ⟨rfl, eh14, (by decide : 0 + 0 ≤ 0), (by decide : 0 + 0 ≤ 0)⟩)
  dsimp only [Pt.U, Pt.locs, Pt.cells, Pt.slots] at X15 l15 y15 z15 st15 hQ15
  subst l15 y15 z15
  obtain ⟨rfl, rfl, eh15⟩ := hQ15
  have N15 := Fr.app N14 (Fr.nil n0)
  refine own_gs st15 ?_
  show own_Fin p e below (T15.setTop (mkF m 11 #[vr a1, vj (((((-3750763034362895579 : Int64) ^^^ (c0.toInt64)) * (1099511628211 : Int64)) ^^^ (c1.toInt64)) * (1099511628211 : Int64)), ss, vi (2 : Int32)] [(.int (4 : Int32)), (.int (2 : Int32))])) _
  refine own_gs (cur' := T15.setTop (mkF m 17 #[vr a1, vj (((((-3750763034362895579 : Int64) ^^^ (c0.toInt64)) * (1099511628211 : Int64)) ^^^ (c1.toInt64)) * (1099511628211 : Int64)), ss, vi (2 : Int32)] [(.int (2 : Int32)), (.ref a1), (.long (((((-3750763034362895579 : Int64) ^^^ (c0.toInt64)) * (1099511628211 : Int64)) ^^^ (c1.toInt64)) * (1099511628211 : Int64)))])) ?_ ?_
  · refine XS.icmpNo X15.here hx rfl (hb hby d_prog_25_m_4_11) rfl (tlt ((by decide) : (2 : Int32) < (4 : Int32))).2.1 ?_
    refine XS.lloadN X15.here hx rfl (hb hby d_prog_25_m_4_14) rfl ?_
    refine XS.aloadN X15.here hx rfl (hb hby d_prog_25_m_4_15) rfl rfl ?_
    show Steps p.tables e below (T15.setTop (mkF m 16 #[vr a1, vj (((((-3750763034362895579 : Int64) ^^^ (c0.toInt64)) * (1099511628211 : Int64)) ^^^ (c1.toInt64)) * (1099511628211 : Int64)), ss, vi (2 : Int32)] [(.ref a1), (.long (((((-3750763034362895579 : Int64) ^^^ (c0.toInt64)) * (1099511628211 : Int64)) ^^^ (c1.toInt64)) * (1099511628211 : Int64)))])) _
    refine XS.iloadN X15.here hx rfl (hb hby d_prog_25_m_4_16) rfl ?_
    exact Steps.refl _
  obtain ⟨cq16, kq16, q16a, q16b, q16c⟩ := isOf hZ eh15 E1
  obtain ⟨_, _, ⟨T16, L16, k16, n16⟩, -, X16, ⟨Lc16, hQ16, l16, y16, z16⟩, st16⟩ := X15.virtualBack hx (y := (⟨"java/lang/String", "charAt", "(I)C"⟩ : MethodName)) (z := (⟨"java/lang/String", "charAt", "(I)C"⟩ : MethodName)) hown (mvT hZ (hw _ (List.mem_of_getElem? (i := 51) rfl))) (mvT hZ (hw _ (List.mem_of_getElem? (i := 52) rfl))) (notFace_of_selects (args := #[]) (mvT hZ (hw _ (List.mem_of_getElem? (i := 54) rfl)))) (mvT hZ (hw _ (List.mem_of_getElem? (i := 54) rfl))) (mvT hZ (hw _ (List.mem_of_getElem? (i := 53) rfl))) (by decide) (own_chB (W := 2) hZ hW F1 (i := 2) (j := (2 : Int32)) (Nat.le_of_ble_eq_true rfl) rfl (n0 := n0) (by omega) O0 (by decide) (by decide)) q16a q16c (g := (mkF m 17 #[vr a1, vj (((((-3750763034362895579 : Int64) ^^^ (c0.toInt64)) * (1099511628211 : Int64)) ^^^ (c1.toInt64)) * (1099511628211 : Int64)), ss, vi (2 : Int32)] [(.int (2 : Int32)), (.ref a1), (.long (((((-3750763034362895579 : Int64) ^^^ (c0.toInt64)) * (1099511628211 : Int64)) ^^^ (c1.toInt64)) * (1099511628211 : Int64)))])) rfl (by rw [hml]; rfl) (Steps.refl _) (argsL := [(.int (2 : Int32))]) (rest := [(.long (((((-3750763034362895579 : Int64) ^^^ (c0.toInt64)) * (1099511628211 : Int64)) ^^^ (c1.toInt64)) * (1099511628211 : Int64)))]) (lenOf pd_14 rfl) rfl (by show 2 * 0 + _ ≤ _; exact Nat.le_of_eq rfl) (hb hby d_prog_25_m_4_17) (fun _ _ => ⟨rfl, eh15, (by decide : 0 + 0 ≤ 0), (by decide : 0 + 0 ≤ 0)⟩)
  dsimp only [Pt.U, Pt.locs, Pt.cells, Pt.slots] at X16 l16 y16 z16 st16 hQ16
  subst l16 y16 z16
  obtain ⟨rfl, Nq16, eh16⟩ := hQ16
  have N16 := Fr.app N15 Nq16
  refine own_gs st16 ?_
  show own_Fin p e below (T16.setTop (mkF m 20 #[vr a1, vj (((((-3750763034362895579 : Int64) ^^^ (c0.toInt64)) * (1099511628211 : Int64)) ^^^ (c1.toInt64)) * (1099511628211 : Int64)), ss, vi (2 : Int32)] [(.int c2), (.long (((((-3750763034362895579 : Int64) ^^^ (c0.toInt64)) * (1099511628211 : Int64)) ^^^ (c1.toInt64)) * (1099511628211 : Int64)))])) _
  refine own_gs (cur' := T16.setTop (mkF m 8 #[vr a1, vj (((((((-3750763034362895579 : Int64) ^^^ (c0.toInt64)) * (1099511628211 : Int64)) ^^^ (c1.toInt64)) * (1099511628211 : Int64)) ^^^ (c2.toInt64)) * (1099511628211 : Int64)), ss, vi (3 : Int32)] [(.ref a1), (.int (3 : Int32))])) ?_ ?_
  · refine XS.i2l X16.here hx rfl (hb hby d_prog_25_m_4_20) rfl ?_
    refine XS.lxor X16.here hx rfl (hb hby d_prog_25_m_4_21) rfl ?_
    refine XS.lstoreN X16.here hx rfl (hb hby d_prog_25_m_4_22) rfl (l' := #[vr a1, vj ((((((-3750763034362895579 : Int64) ^^^ (c0.toInt64)) * (1099511628211 : Int64)) ^^^ (c1.toInt64)) * (1099511628211 : Int64)) ^^^ (c2.toInt64)), ss, vi (2 : Int32)]) rfl ?_
    show Steps p.tables e below (T16.setTop (mkF m 23 #[vr a1, vj ((((((-3750763034362895579 : Int64) ^^^ (c0.toInt64)) * (1099511628211 : Int64)) ^^^ (c1.toInt64)) * (1099511628211 : Int64)) ^^^ (c2.toInt64)), ss, vi (2 : Int32)] [])) _
    refine XS.lloadN X16.here hx rfl (hb hby d_prog_25_m_4_23) rfl ?_
    refine X16.ldc2Long hx hown (mvT hZ (hw _ (List.mem_of_getElem? (i := 73) rfl))) (g := (mkF m 24 #[vr a1, vj ((((((-3750763034362895579 : Int64) ^^^ (c0.toInt64)) * (1099511628211 : Int64)) ^^^ (c1.toInt64)) * (1099511628211 : Int64)) ^^^ (c2.toInt64)), ss, vi (2 : Int32)] [(.long ((((((-3750763034362895579 : Int64) ^^^ (c0.toInt64)) * (1099511628211 : Int64)) ^^^ (c1.toInt64)) * (1099511628211 : Int64)) ^^^ (c2.toInt64)))])) rfl (hb hby d_prog_25_m_4_24) _ ?_
    refine XS.lmul X16.here hx rfl (hb hby d_prog_25_m_4_27) rfl ?_
    show Steps p.tables e below (T16.setTop (mkF m 28 #[vr a1, vj ((((((-3750763034362895579 : Int64) ^^^ (c0.toInt64)) * (1099511628211 : Int64)) ^^^ (c1.toInt64)) * (1099511628211 : Int64)) ^^^ (c2.toInt64)), ss, vi (2 : Int32)] [(.long (((((((-3750763034362895579 : Int64) ^^^ (c0.toInt64)) * (1099511628211 : Int64)) ^^^ (c1.toInt64)) * (1099511628211 : Int64)) ^^^ (c2.toInt64)) * (1099511628211 : Int64)))])) _
    refine XS.lstoreN X16.here hx rfl (hb hby d_prog_25_m_4_28) rfl (l' := #[vr a1, vj (((((((-3750763034362895579 : Int64) ^^^ (c0.toInt64)) * (1099511628211 : Int64)) ^^^ (c1.toInt64)) * (1099511628211 : Int64)) ^^^ (c2.toInt64)) * (1099511628211 : Int64)), ss, vi (2 : Int32)]) rfl ?_
    refine XS.iinc X16.here hx rfl (hb hby d_prog_25_m_4_29) rfl (l' := #[vr a1, vj (((((((-3750763034362895579 : Int64) ^^^ (c0.toInt64)) * (1099511628211 : Int64)) ^^^ (c1.toInt64)) * (1099511628211 : Int64)) ^^^ (c2.toInt64)) * (1099511628211 : Int64)), ss, vi (3 : Int32)]) rfl ?_
    refine XS.goto X16.here hx rfl (pc0 := 32) (pc' := 6) rfl (hb hby d_prog_25_m_4_32) (by decide) (by decide) ?_
    show Steps p.tables e below (T16.setTop (mkF m 6 #[vr a1, vj (((((((-3750763034362895579 : Int64) ^^^ (c0.toInt64)) * (1099511628211 : Int64)) ^^^ (c1.toInt64)) * (1099511628211 : Int64)) ^^^ (c2.toInt64)) * (1099511628211 : Int64)), ss, vi (3 : Int32)] [])) _
    refine XS.iloadN X16.here hx rfl (hb hby d_prog_25_m_4_6) rfl ?_
    refine XS.aloadN X16.here hx rfl (hb hby d_prog_25_m_4_7) rfl rfl ?_
    exact Steps.refl _
  obtain ⟨cq17, kq17, q17a, q17b, q17c⟩ := isOf hZ eh16 E1
  obtain ⟨_, _, ⟨T17, L17, k17, n17⟩, -, X17, ⟨Lc17, hQ17, l17, y17, z17⟩, st17⟩ := X16.virtualBack hx (y := (⟨"java/lang/String", "length", "()I"⟩ : MethodName)) (z := (⟨"java/lang/String", "length", "()I"⟩ : MethodName)) hown (mvT hZ (hw _ (List.mem_of_getElem? (i := 41) rfl))) (mvT hZ (hw _ (List.mem_of_getElem? (i := 42) rfl))) (notFace_of_selects (args := #[]) (mvT hZ (hw _ (List.mem_of_getElem? (i := 44) rfl)))) (mvT hZ (hw _ (List.mem_of_getElem? (i := 44) rfl))) (mvT hZ (hw _ (List.mem_of_getElem? (i := 43) rfl))) (by decide) (own_lenB (W := 1) hZ hw F1 (O2.ext O0.2) P5 (by decide) (by decide)) q17a q17c (g := (mkF m 8 #[vr a1, vj (((((((-3750763034362895579 : Int64) ^^^ (c0.toInt64)) * (1099511628211 : Int64)) ^^^ (c1.toInt64)) * (1099511628211 : Int64)) ^^^ (c2.toInt64)) * (1099511628211 : Int64)), ss, vi (3 : Int32)] [(.ref a1), (.int (3 : Int32))])) rfl (by rw [hml]; rfl) (Steps.refl _) (argsL := []) (rest := [(.int (3 : Int32))]) (lenOf pd_13 rfl) rfl (by show 2 * 0 + _ ≤ _; exact Nat.le_of_eq rfl) (hb hby d_prog_25_m_4_8) (fun _ _ => ⟨rfl, eh16, (by decide : 0 + 0 ≤ 0), (by decide : 0 + 0 ≤ 0)⟩)
  dsimp only [Pt.U, Pt.locs, Pt.cells, Pt.slots] at X17 l17 y17 z17 st17 hQ17
  subst l17 y17 z17
  obtain ⟨rfl, rfl, eh17⟩ := hQ17
  have N17 := Fr.app N16 (Fr.nil n0)
  refine own_gs st17 ?_
  show own_Fin p e below (T17.setTop (mkF m 11 #[vr a1, vj (((((((-3750763034362895579 : Int64) ^^^ (c0.toInt64)) * (1099511628211 : Int64)) ^^^ (c1.toInt64)) * (1099511628211 : Int64)) ^^^ (c2.toInt64)) * (1099511628211 : Int64)), ss, vi (3 : Int32)] [(.int (4 : Int32)), (.int (3 : Int32))])) _
  refine own_gs (cur' := T17.setTop (mkF m 17 #[vr a1, vj (((((((-3750763034362895579 : Int64) ^^^ (c0.toInt64)) * (1099511628211 : Int64)) ^^^ (c1.toInt64)) * (1099511628211 : Int64)) ^^^ (c2.toInt64)) * (1099511628211 : Int64)), ss, vi (3 : Int32)] [(.int (3 : Int32)), (.ref a1), (.long (((((((-3750763034362895579 : Int64) ^^^ (c0.toInt64)) * (1099511628211 : Int64)) ^^^ (c1.toInt64)) * (1099511628211 : Int64)) ^^^ (c2.toInt64)) * (1099511628211 : Int64)))])) ?_ ?_
  · refine XS.icmpNo X17.here hx rfl (hb hby d_prog_25_m_4_11) rfl (tlt ((by decide) : (3 : Int32) < (4 : Int32))).2.1 ?_
    refine XS.lloadN X17.here hx rfl (hb hby d_prog_25_m_4_14) rfl ?_
    refine XS.aloadN X17.here hx rfl (hb hby d_prog_25_m_4_15) rfl rfl ?_
    show Steps p.tables e below (T17.setTop (mkF m 16 #[vr a1, vj (((((((-3750763034362895579 : Int64) ^^^ (c0.toInt64)) * (1099511628211 : Int64)) ^^^ (c1.toInt64)) * (1099511628211 : Int64)) ^^^ (c2.toInt64)) * (1099511628211 : Int64)), ss, vi (3 : Int32)] [(.ref a1), (.long (((((((-3750763034362895579 : Int64) ^^^ (c0.toInt64)) * (1099511628211 : Int64)) ^^^ (c1.toInt64)) * (1099511628211 : Int64)) ^^^ (c2.toInt64)) * (1099511628211 : Int64)))])) _
    refine XS.iloadN X17.here hx rfl (hb hby d_prog_25_m_4_16) rfl ?_
    exact Steps.refl _
  obtain ⟨cq18, kq18, q18a, q18b, q18c⟩ := isOf hZ eh17 E1
  obtain ⟨_, _, ⟨T18, L18, k18, n18⟩, -, X18, ⟨Lc18, hQ18, l18, y18, z18⟩, st18⟩ := X17.virtualBack hx (y := (⟨"java/lang/String", "charAt", "(I)C"⟩ : MethodName)) (z := (⟨"java/lang/String", "charAt", "(I)C"⟩ : MethodName)) hown (mvT hZ (hw _ (List.mem_of_getElem? (i := 51) rfl))) (mvT hZ (hw _ (List.mem_of_getElem? (i := 52) rfl))) (notFace_of_selects (args := #[]) (mvT hZ (hw _ (List.mem_of_getElem? (i := 54) rfl)))) (mvT hZ (hw _ (List.mem_of_getElem? (i := 54) rfl))) (mvT hZ (hw _ (List.mem_of_getElem? (i := 53) rfl))) (by decide) (own_chB (W := 2) hZ hW F1 (i := 3) (j := (3 : Int32)) (Nat.le_of_ble_eq_true rfl) rfl (n0 := n0) (by omega) O0 (by decide) (by decide)) q18a q18c (g := (mkF m 17 #[vr a1, vj (((((((-3750763034362895579 : Int64) ^^^ (c0.toInt64)) * (1099511628211 : Int64)) ^^^ (c1.toInt64)) * (1099511628211 : Int64)) ^^^ (c2.toInt64)) * (1099511628211 : Int64)), ss, vi (3 : Int32)] [(.int (3 : Int32)), (.ref a1), (.long (((((((-3750763034362895579 : Int64) ^^^ (c0.toInt64)) * (1099511628211 : Int64)) ^^^ (c1.toInt64)) * (1099511628211 : Int64)) ^^^ (c2.toInt64)) * (1099511628211 : Int64)))])) rfl (by rw [hml]; rfl) (Steps.refl _) (argsL := [(.int (3 : Int32))]) (rest := [(.long (((((((-3750763034362895579 : Int64) ^^^ (c0.toInt64)) * (1099511628211 : Int64)) ^^^ (c1.toInt64)) * (1099511628211 : Int64)) ^^^ (c2.toInt64)) * (1099511628211 : Int64)))]) (lenOf pd_14 rfl) rfl (by show 2 * 0 + _ ≤ _; exact Nat.le_of_eq rfl) (hb hby d_prog_25_m_4_17) (fun _ _ => ⟨rfl, eh17, (by decide : 0 + 0 ≤ 0), (by decide : 0 + 0 ≤ 0)⟩)
  dsimp only [Pt.U, Pt.locs, Pt.cells, Pt.slots] at X18 l18 y18 z18 st18 hQ18
  subst l18 y18 z18
  obtain ⟨rfl, Nq18, eh18⟩ := hQ18
  have N18 := Fr.app N17 Nq18
  refine own_gs st18 ?_
  show own_Fin p e below (T18.setTop (mkF m 20 #[vr a1, vj (((((((-3750763034362895579 : Int64) ^^^ (c0.toInt64)) * (1099511628211 : Int64)) ^^^ (c1.toInt64)) * (1099511628211 : Int64)) ^^^ (c2.toInt64)) * (1099511628211 : Int64)), ss, vi (3 : Int32)] [(.int c3), (.long (((((((-3750763034362895579 : Int64) ^^^ (c0.toInt64)) * (1099511628211 : Int64)) ^^^ (c1.toInt64)) * (1099511628211 : Int64)) ^^^ (c2.toInt64)) * (1099511628211 : Int64)))])) _
  refine own_gs (cur' := T18.setTop (mkF m 8 #[vr a1, vj (((((((((-3750763034362895579 : Int64) ^^^ (c0.toInt64)) * (1099511628211 : Int64)) ^^^ (c1.toInt64)) * (1099511628211 : Int64)) ^^^ (c2.toInt64)) * (1099511628211 : Int64)) ^^^ (c3.toInt64)) * (1099511628211 : Int64)), ss, vi (4 : Int32)] [(.ref a1), (.int (4 : Int32))])) ?_ ?_
  · refine XS.i2l X18.here hx rfl (hb hby d_prog_25_m_4_20) rfl ?_
    refine XS.lxor X18.here hx rfl (hb hby d_prog_25_m_4_21) rfl ?_
    refine XS.lstoreN X18.here hx rfl (hb hby d_prog_25_m_4_22) rfl (l' := #[vr a1, vj ((((((((-3750763034362895579 : Int64) ^^^ (c0.toInt64)) * (1099511628211 : Int64)) ^^^ (c1.toInt64)) * (1099511628211 : Int64)) ^^^ (c2.toInt64)) * (1099511628211 : Int64)) ^^^ (c3.toInt64)), ss, vi (3 : Int32)]) rfl ?_
    show Steps p.tables e below (T18.setTop (mkF m 23 #[vr a1, vj ((((((((-3750763034362895579 : Int64) ^^^ (c0.toInt64)) * (1099511628211 : Int64)) ^^^ (c1.toInt64)) * (1099511628211 : Int64)) ^^^ (c2.toInt64)) * (1099511628211 : Int64)) ^^^ (c3.toInt64)), ss, vi (3 : Int32)] [])) _
    refine XS.lloadN X18.here hx rfl (hb hby d_prog_25_m_4_23) rfl ?_
    refine X18.ldc2Long hx hown (mvT hZ (hw _ (List.mem_of_getElem? (i := 73) rfl))) (g := (mkF m 24 #[vr a1, vj ((((((((-3750763034362895579 : Int64) ^^^ (c0.toInt64)) * (1099511628211 : Int64)) ^^^ (c1.toInt64)) * (1099511628211 : Int64)) ^^^ (c2.toInt64)) * (1099511628211 : Int64)) ^^^ (c3.toInt64)), ss, vi (3 : Int32)] [(.long ((((((((-3750763034362895579 : Int64) ^^^ (c0.toInt64)) * (1099511628211 : Int64)) ^^^ (c1.toInt64)) * (1099511628211 : Int64)) ^^^ (c2.toInt64)) * (1099511628211 : Int64)) ^^^ (c3.toInt64)))])) rfl (hb hby d_prog_25_m_4_24) _ ?_
    refine XS.lmul X18.here hx rfl (hb hby d_prog_25_m_4_27) rfl ?_
    show Steps p.tables e below (T18.setTop (mkF m 28 #[vr a1, vj ((((((((-3750763034362895579 : Int64) ^^^ (c0.toInt64)) * (1099511628211 : Int64)) ^^^ (c1.toInt64)) * (1099511628211 : Int64)) ^^^ (c2.toInt64)) * (1099511628211 : Int64)) ^^^ (c3.toInt64)), ss, vi (3 : Int32)] [(.long (((((((((-3750763034362895579 : Int64) ^^^ (c0.toInt64)) * (1099511628211 : Int64)) ^^^ (c1.toInt64)) * (1099511628211 : Int64)) ^^^ (c2.toInt64)) * (1099511628211 : Int64)) ^^^ (c3.toInt64)) * (1099511628211 : Int64)))])) _
    refine XS.lstoreN X18.here hx rfl (hb hby d_prog_25_m_4_28) rfl (l' := #[vr a1, vj (((((((((-3750763034362895579 : Int64) ^^^ (c0.toInt64)) * (1099511628211 : Int64)) ^^^ (c1.toInt64)) * (1099511628211 : Int64)) ^^^ (c2.toInt64)) * (1099511628211 : Int64)) ^^^ (c3.toInt64)) * (1099511628211 : Int64)), ss, vi (3 : Int32)]) rfl ?_
    refine XS.iinc X18.here hx rfl (hb hby d_prog_25_m_4_29) rfl (l' := #[vr a1, vj (((((((((-3750763034362895579 : Int64) ^^^ (c0.toInt64)) * (1099511628211 : Int64)) ^^^ (c1.toInt64)) * (1099511628211 : Int64)) ^^^ (c2.toInt64)) * (1099511628211 : Int64)) ^^^ (c3.toInt64)) * (1099511628211 : Int64)), ss, vi (4 : Int32)]) rfl ?_
    refine XS.goto X18.here hx rfl (pc0 := 32) (pc' := 6) rfl (hb hby d_prog_25_m_4_32) (by decide) (by decide) ?_
    show Steps p.tables e below (T18.setTop (mkF m 6 #[vr a1, vj (((((((((-3750763034362895579 : Int64) ^^^ (c0.toInt64)) * (1099511628211 : Int64)) ^^^ (c1.toInt64)) * (1099511628211 : Int64)) ^^^ (c2.toInt64)) * (1099511628211 : Int64)) ^^^ (c3.toInt64)) * (1099511628211 : Int64)), ss, vi (4 : Int32)] [])) _
    refine XS.iloadN X18.here hx rfl (hb hby d_prog_25_m_4_6) rfl ?_
    refine XS.aloadN X18.here hx rfl (hb hby d_prog_25_m_4_7) rfl rfl ?_
    exact Steps.refl _
  obtain ⟨cq19, kq19, q19a, q19b, q19c⟩ := isOf hZ eh18 E1
  obtain ⟨_, _, ⟨T19, L19, k19, n19⟩, -, X19, ⟨Lc19, hQ19, l19, y19, z19⟩, st19⟩ := X18.virtualBack hx (y := (⟨"java/lang/String", "length", "()I"⟩ : MethodName)) (z := (⟨"java/lang/String", "length", "()I"⟩ : MethodName)) hown (mvT hZ (hw _ (List.mem_of_getElem? (i := 41) rfl))) (mvT hZ (hw _ (List.mem_of_getElem? (i := 42) rfl))) (notFace_of_selects (args := #[]) (mvT hZ (hw _ (List.mem_of_getElem? (i := 44) rfl)))) (mvT hZ (hw _ (List.mem_of_getElem? (i := 44) rfl))) (mvT hZ (hw _ (List.mem_of_getElem? (i := 43) rfl))) (by decide) (own_lenB (W := 1) hZ hw F1 (O2.ext O0.2) P5 (by decide) (by decide)) q19a q19c (g := (mkF m 8 #[vr a1, vj (((((((((-3750763034362895579 : Int64) ^^^ (c0.toInt64)) * (1099511628211 : Int64)) ^^^ (c1.toInt64)) * (1099511628211 : Int64)) ^^^ (c2.toInt64)) * (1099511628211 : Int64)) ^^^ (c3.toInt64)) * (1099511628211 : Int64)), ss, vi (4 : Int32)] [(.ref a1), (.int (4 : Int32))])) rfl (by rw [hml]; rfl) (Steps.refl _) (argsL := []) (rest := [(.int (4 : Int32))]) (lenOf pd_13 rfl) rfl (by show 2 * 0 + _ ≤ _; exact Nat.le_of_eq rfl) (hb hby d_prog_25_m_4_8) (fun _ _ => ⟨rfl, eh18, (by decide : 0 + 0 ≤ 0), (by decide : 0 + 0 ≤ 0)⟩)
  dsimp only [Pt.U, Pt.locs, Pt.cells, Pt.slots] at X19 l19 y19 z19 st19 hQ19
  subst l19 y19 z19
  obtain ⟨rfl, rfl, eh19⟩ := hQ19
  have N19 := Fr.app N18 (Fr.nil n0)
  refine own_gs st19 ?_
  show own_Fin p e below (T19.setTop (mkF m 11 #[vr a1, vj (((((((((-3750763034362895579 : Int64) ^^^ (c0.toInt64)) * (1099511628211 : Int64)) ^^^ (c1.toInt64)) * (1099511628211 : Int64)) ^^^ (c2.toInt64)) * (1099511628211 : Int64)) ^^^ (c3.toInt64)) * (1099511628211 : Int64)), ss, vi (4 : Int32)] [(.int (4 : Int32)), (.int (4 : Int32))])) _
  refine own_gs (cur' := T19.setTop (mkF m 36 #[vr a1, vj (((((((((-3750763034362895579 : Int64) ^^^ (c0.toInt64)) * (1099511628211 : Int64)) ^^^ (c1.toInt64)) * (1099511628211 : Int64)) ^^^ (c2.toInt64)) * (1099511628211 : Int64)) ^^^ (c3.toInt64)) * (1099511628211 : Int64)), ss, vi (4 : Int32)] [(.long (((((((((-3750763034362895579 : Int64) ^^^ (c0.toInt64)) * (1099511628211 : Int64)) ^^^ (c1.toInt64)) * (1099511628211 : Int64)) ^^^ (c2.toInt64)) * (1099511628211 : Int64)) ^^^ (c3.toInt64)) * (1099511628211 : Int64)))])) ?_ ?_
  · refine XS.icmpYes X19.here hx rfl (pc0 := 11) (pc' := 35) rfl (hb hby d_prog_25_m_4_11) rfl (flt ((by decide) : ¬ ((4 : Int32) < (4 : Int32)))).2.1 (by decide) (by decide) ?_
    refine XS.lloadN X19.here hx rfl (hb hby d_prog_25_m_4_35) rfl ?_
    exact Steps.refl _
  obtain ⟨fs, hr, hrun, hended, hW1, hsame⟩ := X19.leave (v := (some (.long (((((((((-3750763034362895579 : Int64) ^^^ (c0.toInt64)) * (1099511628211 : Int64)) ^^^ (c1.toInt64)) * (1099511628211 : Int64)) ^^^ (c2.toInt64)) * (1099511628211 : Int64)) ^^^ (c3.toInt64)) * (1099511628211 : Int64))))) (fun h => by rw [Bd.returns] at h; cases h)
  refine ⟨_, _, X19.lreturnOut hx Bd.returns (hb hby d_prog_25_m_4_36) hr, hrun, hended, _, _, rfl, ?_, ⟨_, rfl⟩, hW1, hsame.mono (by decide) (by decide)⟩
  show own_hash4_Q Z a1 t1 c0 c1 c2 c3 h0 n0 (some (.long (((((((((-3750763034362895579 : Int64) ^^^ (c0.toInt64)) * (1099511628211 : Int64)) ^^^ (c1.toInt64)) * (1099511628211 : Int64)) ^^^ (c2.toInt64)) * (1099511628211 : Int64)) ^^^ (c3.toInt64)) * (1099511628211 : Int64)))) T19.heap _
  rw [eh19]
  exact ⟨rfl, N19, rfl⟩
def own_law_Q (Z : State) (p0 p1 p2 p3 p4 : Int32) (h0 : Heap) (n0 : Nat) (v : Option Value) (h : Heap) (L : List Loc) : Prop := v = some (.int (1 : Int32)) ∧ Fr n0 L
theorem pn_com_example_idunn_idunn_PathHashesHashPinLaw : plainName "com/example/idunn/idunn/PathHashesHashPinLaw" = true := by first | (simp [plainName, overriddenIn]; done) | decide +kernel
theorem ef_own_law (m : MethodId) (x0 : Int32) (x1 : Int32) (x2 : Int32) (x3 : Int32) (x4 : Int32) : entryFrame m #[(.int x0), (.int x1), (.int x2), (.int x3), (.int x4)] maxLocals = mkF m 0 #[vi x0, vi x1, vi x2, vi x3, vi x4, .unset, .unset, .unset, .unset, .unset, .unset, .unset, .unset, .unset, .unset, .unset, .unset, .unset, .unset, .unset, .unset, .unset, .unset, .unset, .unset, .unset] [] := by first | (simp [entryFrame, mkF, argsToLocals, Value.category, maxLocals]; done) | rfl
theorem pd_15 : parseMethodDescriptor "([C)V" = some ⟨[(.array .char)], none⟩ := by decide +kernel
theorem pd_16 : parseMethodDescriptor "(Ljava/lang/String;)J" = some ⟨[(.object "java/lang/String")], some .long⟩ := by decide +kernel
set_option maxRecDepth 65536 in
set_option maxHeartbeats 40000000 in
theorem own_law (l : Launch) (Z : State) (a0 : Array Value) (hW : own_W Z a0) (ws : List Jvm.Cond) (p0 p1 p2 p3 p4 : Int32) (h0 : Heap) (n0 : Nat) (Z0 : n0 ≤ h0.size) (O0 : Old Z n0 h0)  :
    MetFree l x (head1 (Jvm.Cond.code x code maxLocals ret :: ws) room_1) (fun a U => a = #[(.int p0), (.int p1), (.int p2), (.int p3), (.int p4)] ∧ Z.Warmed39 U.vm ∧ U.heap = h0 ∧ CHv Z own_EL U.vm h0 ∧ ∀ x ∈ ([] : List Addr), Safe Z own_EL U.vm h0 x) (fun _ _ _ _ _ => True) (fun _ U o U' => ∃ v L, o = .returned v ∧ own_law_Q Z p0 p1 p2 p3 p4 h0 n0 v U'.heap L ∧ CHr Z own_EL U.vm U.heap U'.vm U'.heap ∧ ReturnedEndW U o U' L room_1.cells room_1.slots) := by
  refine MetFree.of_bodySF (plainFor_of_name pn_com_example_idunn_idunn_PathHashesHashPinLaw) hisR ?_
  intro p e s m args below meth c s₁ Bd hml0 hP hK
  obtain ⟨rfl, hZ, hh, hCH, hSf⟩ := hP
  obtain ⟨hw, ⟨G1, O2, P5⟩, ⟨G3, O4, rG3⟩, Oa, Oh, Ol⟩ := id hW
  have hx := Bd.exec
  have hby := Bd.bytes
  have hml : c.maxLocals = 26 := hml0
  have hown : s.vm.findClass "com/example/idunn/idunn/PathHashesHashPinLaw" = some m.cls := findClass_of_methodNamed Bd.named
  have hnm := (name_of_methodNamed Bd.named Bd.method).1
  have X0 : Stand p l e room_1 (s.setVm s.vm) m #[(.int p0), (.int p1), (.int p2), (.int p3), (.int p4)] below meth c s₁ [] 0 0 := Stand.of_body Bd
  have e0 : s₁.heap = h0 := by rw [← hh, Bd.state]; rfl
  have N0 := Fr.nil n0
  have K0 := Keep.refl h0 []
  have hS0 : s.Since s.vm h0.size := (State.WarmedH.refl s).since _
  have CH0 : CHr Z own_EL s.vm h0 s.vm h0 := CHr.refl hCH
  have hEL := own_EW hw
  have hSA := own_SA hw
  show own_Fin p e below (s₁.setTop (entryFrame m #[(.int p0), (.int p1), (.int p2), (.int p3), (.int p4)] maxLocals)) _
  refine own_gs (castTop (ef_own_law m p0 p1 p2 p3 p4) (Steps.refl _)) ?_
  show own_Fin p e below (s₁.setTop (mkF m 0 #[vi p0, vi p1, vi p2, vi p3, vi p4, uu, uu, uu, uu, uu, uu, uu, uu, uu, uu, uu, uu, uu, uu, uu, uu, uu, uu, uu, uu, uu] [])) _
  refine own_gs (cur' := s₁.setTop (mkF m 5 #[vi p0, vi p1, vi p2, vi p3, vi p4, uu, uu, uu, uu, uu, uu, uu, uu, uu, uu, uu, uu, uu, uu, uu, uu, uu, uu, uu, uu, uu] [(.int ((p1 &&& (65535 : Int32)).toUInt32.toUInt16.toUInt32.toInt32))])) ?_ ?_
  · refine XS.iloadN X0.here hx rfl (hb hby at_0) rfl ?_
    refine X0.ldcInt hx hown (mvT hZ (hw _ (List.mem_of_getElem? (i := 0) rfl))) (g := (mkF m 1 #[vi p0, vi p1, vi p2, vi p3, vi p4, uu, uu, uu, uu, uu, uu, uu, uu, uu, uu, uu, uu, uu, uu, uu, uu, uu, uu, uu, uu, uu] [(.int p1)])) rfl (hb hby at_1) _ ?_
    refine XS.iand X0.here hx rfl (hb hby at_3) rfl ?_
    show Steps p.tables e below (s₁.setTop (mkF m 4 #[vi p0, vi p1, vi p2, vi p3, vi p4, uu, uu, uu, uu, uu, uu, uu, uu, uu, uu, uu, uu, uu, uu, uu, uu, uu, uu, uu, uu, uu] [(.int (p1 &&& (65535 : Int32)))])) _
    refine XS.i2c X0.here hx rfl (hb hby at_4) rfl ?_
    exact Steps.refl _
  generalize hv_c0 : ((p1 &&& (65535 : Int32)).toUInt32.toUInt16.toUInt32.toInt32) = c0
  show own_Fin p e below (s₁.setTop (mkF m 5 #[vi p0, vi p1, vi p2, vi p3, vi p4, uu, uu, uu, uu, uu, uu, uu, uu, uu, uu, uu, uu, uu, uu, uu, uu, uu, uu, uu, uu, uu] [(.int c0)])) _
  have hc0 : ¬ c0 < 0 ∧ ¬ (65535 : Int32) < c0 := by rw [← hv_c0]; exact own_narb _
  refine own_gs (cur' := s₁.setTop (mkF m 12 #[vi p0, vi p1, vi p2, vi p3, vi p4, vi c0, uu, uu, uu, uu, uu, uu, uu, uu, uu, uu, uu, uu, uu, uu, uu, uu, uu, uu, uu, uu] [(.int ((p2 &&& (65535 : Int32)).toUInt32.toUInt16.toUInt32.toInt32))])) ?_ ?_
  · refine XS.istore X0.here hx rfl (hb hby at_5) rfl (l' := #[vi p0, vi p1, vi p2, vi p3, vi p4, vi c0, uu, uu, uu, uu, uu, uu, uu, uu, uu, uu, uu, uu, uu, uu, uu, uu, uu, uu, uu, uu]) rfl ?_
    refine XS.iloadN X0.here hx rfl (hb hby at_7) rfl ?_
    refine X0.ldcInt hx hown (mvT hZ (hw _ (List.mem_of_getElem? (i := 0) rfl))) (g := (mkF m 8 #[vi p0, vi p1, vi p2, vi p3, vi p4, vi c0, uu, uu, uu, uu, uu, uu, uu, uu, uu, uu, uu, uu, uu, uu, uu, uu, uu, uu, uu, uu] [(.int p2)])) rfl (hb hby at_8) _ ?_
    show Steps p.tables e below (s₁.setTop (mkF m 10 #[vi p0, vi p1, vi p2, vi p3, vi p4, vi c0, uu, uu, uu, uu, uu, uu, uu, uu, uu, uu, uu, uu, uu, uu, uu, uu, uu, uu, uu, uu] [(.int (65535 : Int32)), (.int p2)])) _
    refine XS.iand X0.here hx rfl (hb hby at_10) rfl ?_
    refine XS.i2c X0.here hx rfl (hb hby at_11) rfl ?_
    exact Steps.refl _
  generalize hv_c1 : ((p2 &&& (65535 : Int32)).toUInt32.toUInt16.toUInt32.toInt32) = c1
  show own_Fin p e below (s₁.setTop (mkF m 12 #[vi p0, vi p1, vi p2, vi p3, vi p4, vi c0, uu, uu, uu, uu, uu, uu, uu, uu, uu, uu, uu, uu, uu, uu, uu, uu, uu, uu, uu, uu] [(.int c1)])) _
  have hc1 : ¬ c1 < 0 ∧ ¬ (65535 : Int32) < c1 := by rw [← hv_c1]; exact own_narb _
  refine own_gs (cur' := s₁.setTop (mkF m 19 #[vi p0, vi p1, vi p2, vi p3, vi p4, vi c0, vi c1, uu, uu, uu, uu, uu, uu, uu, uu, uu, uu, uu, uu, uu, uu, uu, uu, uu, uu, uu] [(.int ((p3 &&& (65535 : Int32)).toUInt32.toUInt16.toUInt32.toInt32))])) ?_ ?_
  · refine XS.istore X0.here hx rfl (hb hby at_12) rfl (l' := #[vi p0, vi p1, vi p2, vi p3, vi p4, vi c0, vi c1, uu, uu, uu, uu, uu, uu, uu, uu, uu, uu, uu, uu, uu, uu, uu, uu, uu, uu, uu]) rfl ?_
    refine XS.iloadN X0.here hx rfl (hb hby at_14) rfl ?_
    refine X0.ldcInt hx hown (mvT hZ (hw _ (List.mem_of_getElem? (i := 0) rfl))) (g := (mkF m 15 #[vi p0, vi p1, vi p2, vi p3, vi p4, vi c0, vi c1, uu, uu, uu, uu, uu, uu, uu, uu, uu, uu, uu, uu, uu, uu, uu, uu, uu, uu, uu] [(.int p3)])) rfl (hb hby at_15) _ ?_
    show Steps p.tables e below (s₁.setTop (mkF m 17 #[vi p0, vi p1, vi p2, vi p3, vi p4, vi c0, vi c1, uu, uu, uu, uu, uu, uu, uu, uu, uu, uu, uu, uu, uu, uu, uu, uu, uu, uu, uu] [(.int (65535 : Int32)), (.int p3)])) _
    refine XS.iand X0.here hx rfl (hb hby at_17) rfl ?_
    refine XS.i2c X0.here hx rfl (hb hby at_18) rfl ?_
    exact Steps.refl _
  generalize hv_c2 : ((p3 &&& (65535 : Int32)).toUInt32.toUInt16.toUInt32.toInt32) = c2
  show own_Fin p e below (s₁.setTop (mkF m 19 #[vi p0, vi p1, vi p2, vi p3, vi p4, vi c0, vi c1, uu, uu, uu, uu, uu, uu, uu, uu, uu, uu, uu, uu, uu, uu, uu, uu, uu, uu, uu] [(.int c2)])) _
  have hc2 : ¬ c2 < 0 ∧ ¬ (65535 : Int32) < c2 := by rw [← hv_c2]; exact own_narb _
  refine own_gs (cur' := s₁.setTop (mkF m 27 #[vi p0, vi p1, vi p2, vi p3, vi p4, vi c0, vi c1, vi c2, uu, uu, uu, uu, uu, uu, uu, uu, uu, uu, uu, uu, uu, uu, uu, uu, uu, uu] [(.int ((p4 &&& (65535 : Int32)).toUInt32.toUInt16.toUInt32.toInt32))])) ?_ ?_
  · refine XS.istore X0.here hx rfl (hb hby at_19) rfl (l' := #[vi p0, vi p1, vi p2, vi p3, vi p4, vi c0, vi c1, vi c2, uu, uu, uu, uu, uu, uu, uu, uu, uu, uu, uu, uu, uu, uu, uu, uu, uu, uu]) rfl ?_
    refine XS.iload X0.here hx rfl (hb hby at_21) rfl ?_
    refine X0.ldcInt hx hown (mvT hZ (hw _ (List.mem_of_getElem? (i := 0) rfl))) (g := (mkF m 23 #[vi p0, vi p1, vi p2, vi p3, vi p4, vi c0, vi c1, vi c2, uu, uu, uu, uu, uu, uu, uu, uu, uu, uu, uu, uu, uu, uu, uu, uu, uu, uu] [(.int p4)])) rfl (hb hby at_23) _ ?_
    show Steps p.tables e below (s₁.setTop (mkF m 25 #[vi p0, vi p1, vi p2, vi p3, vi p4, vi c0, vi c1, vi c2, uu, uu, uu, uu, uu, uu, uu, uu, uu, uu, uu, uu, uu, uu, uu, uu, uu, uu] [(.int (65535 : Int32)), (.int p4)])) _
    refine XS.iand X0.here hx rfl (hb hby at_25) rfl ?_
    refine XS.i2c X0.here hx rfl (hb hby at_26) rfl ?_
    exact Steps.refl _
  generalize hv_c3 : ((p4 &&& (65535 : Int32)).toUInt32.toUInt16.toUInt32.toInt32) = c3
  show own_Fin p e below (s₁.setTop (mkF m 27 #[vi p0, vi p1, vi p2, vi p3, vi p4, vi c0, vi c1, vi c2, uu, uu, uu, uu, uu, uu, uu, uu, uu, uu, uu, uu, uu, uu, uu, uu, uu, uu] [(.int c3)])) _
  have hc3 : ¬ c3 < 0 ∧ ¬ (65535 : Int32) < c3 := by rw [← hv_c3]; exact own_narb _
  refine own_gs (cur' := s₁.setTop (mkF m 29 #[vi p0, vi p1, vi p2, vi p3, vi p4, vi c0, vi c1, vi c2, vi c3, uu, uu, uu, uu, uu, uu, uu, uu, uu, uu, uu, uu, uu, uu, uu, uu, uu] [])) ?_ ?_
  · refine XS.istore X0.here hx rfl (hb hby at_27) rfl (l' := #[vi p0, vi p1, vi p2, vi p3, vi p4, vi c0, vi c1, vi c2, vi c3, uu, uu, uu, uu, uu, uu, uu, uu, uu, uu, uu, uu, uu, uu, uu, uu, uu]) rfl ?_
    exact Steps.refl _
  obtain ⟨T11, h11, X11, e11, E11, A11, D11, -, st11⟩ := newO X0 hx hZ hown (hw _ (List.mem_of_getElem? (i := 1) rfl)) (hw _ (List.mem_of_getElem? (i := 2) rfl)) (hw _ (List.mem_of_getElem? (i := 3) rfl)) e0 (g := (mkF m 29 #[vi p0, vi p1, vi p2, vi p3, vi p4, vi c0, vi c1, vi c2, vi c3, uu, uu, uu, uu, uu, uu, uu, uu, uu, uu, uu, uu, uu, uu, uu, uu, uu] [])) rfl (hb hby at_29) (by decide) (by decide)
  obtain ⟨b11, g11⟩ : ∃ z, z = h0.size := ⟨_, rfl⟩
  rw [← g11] at A11 D11 st11
  have lt11 := own_lt A11.lt
  refine own_go st11 ?_
  show own_Fin p e below (T11.setTop (mkF m 32 #[vi p0, vi p1, vi p2, vi p3, vi p4, vi c0, vi c1, vi c2, vi c3, uu, uu, uu, uu, uu, uu, uu, uu, uu, uu, uu, uu, uu, uu, uu, uu, uu] [(.ref b11)])) _
  have z12 := E11.1
  have K12 := K0.ext E11
  have O12 := O0.ext E11
  have CH12 := CH0.trans (CHr.ext E11 CH0.1)
  have F11_value : Fld Z h11 b11 "java/lang/String" "value" "[B" .null := D11 (Or.inr (hw _ (List.mem_of_getElem? (i := 17) rfl))) (ty := (.array .byte)) (by decide)
  have F11_coder : Fld Z h11 b11 "java/lang/String" "coder" "B" (.int (0 : Int32)) := D11 (Or.inr (hw _ (List.mem_of_getElem? (i := 18) rfl))) (ty := .byte) (by decide)
  have Sf11 := Safe.ext E11 CH0.1 (Safe.new (by omega : h0.size ≤ b11))
  refine own_gs (cur' := T11.setTop (mkF m 34 #[vi p0, vi p1, vi p2, vi p3, vi p4, vi c0, vi c1, vi c2, vi c3, uu, uu, uu, uu, uu, uu, uu, uu, uu, uu, uu, uu, uu, uu, uu, uu, uu] [(.int (0 : Int32)), (.ref b11), (.ref b11)])) ?_ ?_
  · refine XS.dup X11.here hx rfl (hb hby at_32) rfl rfl ?_
    refine XS.iconst X11.here hx rfl (hb hby at_33) ?_
    exact Steps.refl _
  obtain ⟨T13, h13, k13, X13, e13, E13, A13, st13⟩ := newP X11 hx hZ (hw _ (List.mem_of_getElem? (i := 4) rfl)) e11 (g := (mkF m 34 #[vi p0, vi p1, vi p2, vi p3, vi p4, vi c0, vi c1, vi c2, vi c3, uu, uu, uu, uu, uu, uu, uu, uu, uu, uu, uu, uu, uu, uu, uu, uu, uu] [(.int (0 : Int32)), (.ref b11), (.ref b11)])) rfl (hb hby at_34) rfl (by decide) (cap := 0) (by decide) (by decide) (by decide) (by decide)
  obtain ⟨b13, g13⟩ : ∃ z, z = h11.size := ⟨_, rfl⟩
  rw [← g13] at A13 st13
  have lt13 := own_lt A13.lt
  refine own_go st13 ?_
  show own_Fin p e below (T13.setTop (mkF m 36 #[vi p0, vi p1, vi p2, vi p3, vi p4, vi c0, vi c1, vi c2, vi c3, uu, uu, uu, uu, uu, uu, uu, uu, uu, uu, uu, uu, uu, uu, uu, uu, uu] [(.ref b13), (.ref b11), (.ref b11)])) _
  have z14 := E13.1
  have K14 := K12.ext E13
  have O14 := O12.ext E13
  have CH14 := CH12.trans (CHr.ext E13 CH12.1)
  have V13 : Arv Z h13 b13 k13 .char (0 : Int32) [] (.int (0 : Int32)) := Arv.new A13 (by decide)
  have f15 := (A11.ext E13)
  have f16 := (F11_value.ext E13)
  have f17 := (F11_coder.ext E13)
  have f19 := (Safe.ext E13 CH12.1 Sf11)
  obtain ⟨_, _, ⟨T18, L18, k18, n18⟩, -, Xw18, hSw18, hgw18, ⟨Lc18, hQ18, l18, y18, z18, hC18⟩, st18⟩ := X13.specialBackS hx (y := (⟨"java/lang/String", "<init>", "([C)V"⟩ : MethodName)) rfl hown (mvT hZ (hw _ (List.mem_of_getElem? (i := 5) rfl))) (mvT hZ (hw _ (List.mem_of_getElem? (i := 6) rfl))) (mvT hZ (hw _ (List.mem_of_getElem? (i := 7) rfl))) (by decide) (own_backS (W := 1) (own_new1e l Z a0 hW b11 b13 .null (.int (0 : Int32)) k13 h13 n0 (by omega) O14 f15 f16 f17 (by omega) V13) hZ (hw _ (List.mem_of_getElem? (i := 7) rfl)) (hw _ (List.mem_of_getElem? (i := 3) rfl)) (by decide) (by decide) hEL CH14.1 (allS ⟨f19, own_lt (by omega)⟩ all0)) (g := (mkF m 36 #[vi p0, vi p1, vi p2, vi p3, vi p4, vi c0, vi c1, vi c2, vi c3, uu, uu, uu, uu, uu, uu, uu, uu, uu, uu, uu, uu, uu, uu, uu, uu, uu] [(.ref b13), (.ref b11), (.ref b11)])) rfl (by rw [hml]; rfl) (Steps.refl _) (a := b11) (argsL := [(.ref b13)]) (rest := [(.ref b11)]) (lenOf pd_15 rfl) rfl (by show 2 * 0 + _ ≤ _; exact Nat.le_of_eq rfl) (hb hby at_36) (fun _ _ => ⟨rfl, e13, (by decide : 2 + 4 ≤ 48), (by decide : 4 + 8 ≤ 1216)⟩)
  dsimp only [Pt.U, Pt.locs, Pt.cells, Pt.slots] at Xw18 hSw18 hgw18 hC18 l18 y18 z18 st18 hQ18
  subst l18 y18 z18
  obtain ⟨X18, hS18, hZ18, hown18⟩ := rebS hS0 (show h0.size ≤ T13.heap.size by rw [e13]; omega) Xw18 hSw18 hgw18 hZ hown
  obtain ⟨rfl, Nq18, Kq18, t18, hne18, F18⟩ := hQ18
  have N18 := Fr.app N0 Nq18
  have z20 := Kq18.1
  have K20 := K14.trans Kq18 (allS (Or.inr (by omega)) all0)
  have O20 := O14.keep Kq18 (allS (by omega) all0)
  have CH20 := CH14.trans hC18
  have lt18 := F18.lt
  refine own_gs st18 ?_
  show own_Fin p e below (T18.setTop (mkF m 39 #[vi p0, vi p1, vi p2, vi p3, vi p4, vi c0, vi c1, vi c2, vi c3, uu, uu, uu, uu, uu, uu, uu, uu, uu, uu, uu, uu, uu, uu, uu, uu, uu] [(.ref b11)])) _
  have Fs0 := F18
  refine own_gs (cur' := T18.setTop (mkF m 41 #[vi p0, vi p1, vi p2, vi p3, vi p4, vi c0, vi c1, vi c2, vi c3, vr b11, uu, uu, uu, uu, uu, uu, uu, uu, uu, uu, uu, uu, uu, uu, uu, uu] [])) ?_ ?_
  · refine XS.astore X18.here hx rfl (hb hby at_39) rfl rfl (l' := #[vi p0, vi p1, vi p2, vi p3, vi p4, vi c0, vi c1, vi c2, vi c3, vr b11, uu, uu, uu, uu, uu, uu, uu, uu, uu, uu, uu, uu, uu, uu, uu, uu]) rfl ?_
    exact Steps.refl _
  obtain ⟨T21, h21, X21, e21, E21, A21, D21, -, st21⟩ := newO X18 hx hZ18 hown18 (hw _ (List.mem_of_getElem? (i := 1) rfl)) (hw _ (List.mem_of_getElem? (i := 2) rfl)) (hw _ (List.mem_of_getElem? (i := 3) rfl)) rfl (g := (mkF m 41 #[vi p0, vi p1, vi p2, vi p3, vi p4, vi c0, vi c1, vi c2, vi c3, vr b11, uu, uu, uu, uu, uu, uu, uu, uu, uu, uu, uu, uu, uu, uu, uu, uu] [])) rfl (hb hby at_41) (by decide) (by decide)
  obtain ⟨b21, g21⟩ : ∃ z, z = T18.heap.size := ⟨_, rfl⟩
  rw [← g21] at A21 D21 st21
  have lt21 := own_lt A21.lt
  refine own_go st21 ?_
  show own_Fin p e below (T21.setTop (mkF m 44 #[vi p0, vi p1, vi p2, vi p3, vi p4, vi c0, vi c1, vi c2, vi c3, vr b11, uu, uu, uu, uu, uu, uu, uu, uu, uu, uu, uu, uu, uu, uu, uu, uu] [(.ref b21)])) _
  have z22 := E21.1
  have K22 := K20.ext E21
  have O22 := O20.ext E21
  have CH22 := CH20.trans (CHr.ext E21 CH20.1)
  have F21_value : Fld Z h21 b21 "java/lang/String" "value" "[B" .null := D21 (Or.inr (hw _ (List.mem_of_getElem? (i := 17) rfl))) (ty := (.array .byte)) (by decide)
  have F21_coder : Fld Z h21 b21 "java/lang/String" "coder" "B" (.int (0 : Int32)) := D21 (Or.inr (hw _ (List.mem_of_getElem? (i := 18) rfl))) (ty := .byte) (by decide)
  have Sf21 := Safe.ext E21 CH20.1 (Safe.new (by omega : T18.heap.size ≤ b21))
  refine own_gs (cur' := T21.setTop (mkF m 46 #[vi p0, vi p1, vi p2, vi p3, vi p4, vi c0, vi c1, vi c2, vi c3, vr b11, uu, uu, uu, uu, uu, uu, uu, uu, uu, uu, uu, uu, uu, uu, uu, uu] [(.int (1 : Int32)), (.ref b21), (.ref b21)])) ?_ ?_
  · refine XS.dup X21.here hx rfl (hb hby at_44) rfl rfl ?_
    refine XS.iconst X21.here hx rfl (hb hby at_45) ?_
    exact Steps.refl _
  obtain ⟨T23, h23, k23, X23, e23, E23, A23, st23⟩ := newP X21 hx hZ18 (hw _ (List.mem_of_getElem? (i := 4) rfl)) e21 (g := (mkF m 46 #[vi p0, vi p1, vi p2, vi p3, vi p4, vi c0, vi c1, vi c2, vi c3, vr b11, uu, uu, uu, uu, uu, uu, uu, uu, uu, uu, uu, uu, uu, uu, uu, uu] [(.int (1 : Int32)), (.ref b21), (.ref b21)])) rfl (hb hby at_46) rfl (by decide) (cap := 1) (by decide) (by decide) (by decide) (by decide)
  obtain ⟨b23, g23⟩ : ∃ z, z = h21.size := ⟨_, rfl⟩
  rw [← g23] at A23 st23
  have lt23 := own_lt A23.lt
  refine own_go st23 ?_
  show own_Fin p e below (T23.setTop (mkF m 48 #[vi p0, vi p1, vi p2, vi p3, vi p4, vi c0, vi c1, vi c2, vi c3, vr b11, uu, uu, uu, uu, uu, uu, uu, uu, uu, uu, uu, uu, uu, uu, uu, uu] [(.ref b23), (.ref b21), (.ref b21)])) _
  have z24 := E23.1
  have K24 := K22.ext E23
  have O24 := O22.ext E23
  have CH24 := CH22.trans (CHr.ext E23 CH22.1)
  have V23 : Arv Z h23 b23 k23 .char (1 : Int32) [(.int (0 : Int32))] (.int (0 : Int32)) := (Arv.new A23 (by decide)).pad (pad_rep [] (.int (0 : Int32)) 1)
  refine own_gs (cur' := T23.setTop (mkF m 52 #[vi p0, vi p1, vi p2, vi p3, vi p4, vi c0, vi c1, vi c2, vi c3, vr b11, uu, uu, uu, uu, uu, uu, uu, uu, uu, uu, uu, uu, uu, uu, uu, uu] [(.int c0), (.int (0 : Int32)), (.ref b23), (.ref b23), (.ref b21), (.ref b21)])) ?_ ?_
  · refine XS.dup X23.here hx rfl (hb hby at_48) rfl rfl ?_
    refine XS.iconst X23.here hx rfl (hb hby at_49) ?_
    refine XS.iload X23.here hx rfl (hb hby at_50) rfl ?_
    exact Steps.refl _
  obtain ⟨_, Ar26, -⟩ := id V23
  obtain ⟨cl25, Ar25, q25, S25, M25, Hs25, G25⟩ := id V23
  have hin25 : ¬ ((0 : Int32) < 0 ∨ cl25.slots.size ≤ ((0 : Int32)).toNatClampNeg) := inb_of S25 ⟨by decide, by decide⟩
  obtain ⟨T25, h25, X25, e25, W25, st25⟩ := stC X23 hx hZ18 e23 Ar25 (j := (0 : Int32)) hin25 (g := (mkF m 52 #[vi p0, vi p1, vi p2, vi p3, vi p4, vi c0, vi c1, vi c2, vi c3, vr b11, uu, uu, uu, uu, uu, uu, uu, uu, uu, uu, uu, uu, uu, uu, uu, uu] [(.int c0), (.int (0 : Int32)), (.ref b23), (.ref b23), (.ref b21), (.ref b21)])) rfl rfl (hb hby at_52)
  have V25 := Arv.set Ar25 q25 S25 M25 Hs25 G25 (fits_nar_char _) W25 0 rfl (Nat.le_of_ble_eq_true rfl)
  refine own_go st25 ?_
  show own_Fin p e below (T25.setTop (mkF m 53 #[vi p0, vi p1, vi p2, vi p3, vi p4, vi c0, vi c1, vi c2, vi c3, vr b11, uu, uu, uu, uu, uu, uu, uu, uu, uu, uu, uu, uu, uu, uu, uu, uu] [(.ref b23), (.ref b21), (.ref b21)])) _
  have z27 := W25.size
  have K27 := K24.wr W25 (Or.inr (by omega))
  have O27 := O24.wr W25 (by omega)
  have CH27 := CH24.trans (CHr.wr W25 (Safe.arr hZ18.alike Ar26 (by decide)) CH24.1)
  have N27 := Fr.snoc X25 N18 (by omega)
  have f28 := ((A21.ext E23).wr W25)
  have f29 := ((F21_value.ext E23).other W25 (Or.inl (own_ne (a := b21) (b := b23) (by omega))))
  have f30 := ((F21_coder.ext E23).other W25 (Or.inl (own_ne (a := b21) (b := b23) (by omega))))
  have f32 := (Safe.wr W25 (Safe.arr hZ18.alike Ar26 (by decide)) CH24.1 (Safe.ext E23 CH22.1 Sf21))
  obtain ⟨_, _, ⟨T31, L31, k31, n31⟩, -, X31, ⟨Lc31, hQ31, l31, y31, z31⟩, st31⟩ := X25.specialBack hx (y := (⟨"java/lang/String", "<init>", "([C)V"⟩ : MethodName)) rfl hown18 (mvT hZ18 (hw _ (List.mem_of_getElem? (i := 5) rfl))) (mvT hZ18 (hw _ (List.mem_of_getElem? (i := 6) rfl))) (mvT hZ18 (hw _ (List.mem_of_getElem? (i := 7) rfl))) (by decide) (backOf (W := 1) (own_u_new1_1 l Z a0 hW b21 b23 .null (.int (0 : Int32)) k23 (nar .char c0) h25 n0 (by omega) O27 f28 f29 f30 (by omega) V25 (own_narb _)) hZ18 (hw _ (List.mem_of_getElem? (i := 7) rfl)) (hw _ (List.mem_of_getElem? (i := 3) rfl)) (by decide) (by decide)) (g := (mkF m 53 #[vi p0, vi p1, vi p2, vi p3, vi p4, vi c0, vi c1, vi c2, vi c3, vr b11, uu, uu, uu, uu, uu, uu, uu, uu, uu, uu, uu, uu, uu, uu, uu, uu] [(.ref b23), (.ref b21), (.ref b21)])) rfl (by rw [hml]; rfl) (Steps.refl _) (a := b21) (argsL := [(.ref b23)]) (rest := [(.ref b21)]) (lenOf pd_15 rfl) rfl (by show 2 * 0 + _ ≤ _; exact Nat.le_of_eq rfl) (hb hby at_53) (fun _ _ => ⟨rfl, e25, (by decide : 8 + 2 ≤ 48), (by decide : 17 + 3 ≤ 1216)⟩)
  dsimp only [Pt.U, Pt.locs, Pt.cells, Pt.slots] at X31 l31 y31 z31 st31 hQ31
  subst l31 y31 z31
  obtain ⟨rfl, Nq31, Kq31, t31, hne31, F31⟩ := hQ31
  have N31 := Fr.app N27 Nq31
  have z33 := Kq31.1
  have K33 := K27.trans Kq31 (allS (Or.inr (by omega)) all0)
  have O33 := O27.keep Kq31 (allS (by omega) all0)
  have CH33 := CH27.trans (CHr.keep Kq31 (allS f32 all0) CH27.1)
  have lt31 := F31.lt
  refine own_gs st31 ?_
  show own_Fin p e below (T31.setTop (mkF m 56 #[vi p0, vi p1, vi p2, vi p3, vi p4, vi c0, vi c1, vi c2, vi c3, vr b11, uu, uu, uu, uu, uu, uu, uu, uu, uu, uu, uu, uu, uu, uu, uu, uu] [(.ref b21)])) _
  have Fs1 := F31
  rw [own_nar hc0.1 hc0.2] at Fs1
  refine own_gs (cur' := T31.setTop (mkF m 58 #[vi p0, vi p1, vi p2, vi p3, vi p4, vi c0, vi c1, vi c2, vi c3, vr b11, vr b21, uu, uu, uu, uu, uu, uu, uu, uu, uu, uu, uu, uu, uu, uu, uu] [])) ?_ ?_
  · refine XS.astore X31.here hx rfl (hb hby at_56) rfl rfl (l' := #[vi p0, vi p1, vi p2, vi p3, vi p4, vi c0, vi c1, vi c2, vi c3, vr b11, vr b21, uu, uu, uu, uu, uu, uu, uu, uu, uu, uu, uu, uu, uu, uu, uu]) rfl ?_
    exact Steps.refl _
  obtain ⟨T34, h34, X34, e34, E34, A34, D34, -, st34⟩ := newO X31 hx hZ18 hown18 (hw _ (List.mem_of_getElem? (i := 1) rfl)) (hw _ (List.mem_of_getElem? (i := 2) rfl)) (hw _ (List.mem_of_getElem? (i := 3) rfl)) rfl (g := (mkF m 58 #[vi p0, vi p1, vi p2, vi p3, vi p4, vi c0, vi c1, vi c2, vi c3, vr b11, vr b21, uu, uu, uu, uu, uu, uu, uu, uu, uu, uu, uu, uu, uu, uu, uu] [])) rfl (hb hby at_58) (by decide) (by decide)
  obtain ⟨b34, g34⟩ : ∃ z, z = T31.heap.size := ⟨_, rfl⟩
  rw [← g34] at A34 D34 st34
  have lt34 := own_lt A34.lt
  refine own_go st34 ?_
  show own_Fin p e below (T34.setTop (mkF m 61 #[vi p0, vi p1, vi p2, vi p3, vi p4, vi c0, vi c1, vi c2, vi c3, vr b11, vr b21, uu, uu, uu, uu, uu, uu, uu, uu, uu, uu, uu, uu, uu, uu, uu] [(.ref b34)])) _
  have z35 := E34.1
  have K35 := K33.ext E34
  have O35 := O33.ext E34
  have CH35 := CH33.trans (CHr.ext E34 CH33.1)
  have F34_value : Fld Z h34 b34 "java/lang/String" "value" "[B" .null := D34 (Or.inr (hw _ (List.mem_of_getElem? (i := 17) rfl))) (ty := (.array .byte)) (by decide)
  have F34_coder : Fld Z h34 b34 "java/lang/String" "coder" "B" (.int (0 : Int32)) := D34 (Or.inr (hw _ (List.mem_of_getElem? (i := 18) rfl))) (ty := .byte) (by decide)
  have Sf34 := Safe.ext E34 CH33.1 (Safe.new (by omega : T31.heap.size ≤ b34))
  refine own_gs (cur' := T34.setTop (mkF m 63 #[vi p0, vi p1, vi p2, vi p3, vi p4, vi c0, vi c1, vi c2, vi c3, vr b11, vr b21, uu, uu, uu, uu, uu, uu, uu, uu, uu, uu, uu, uu, uu, uu, uu] [(.int (2 : Int32)), (.ref b34), (.ref b34)])) ?_ ?_
  · refine XS.dup X34.here hx rfl (hb hby at_61) rfl rfl ?_
    refine XS.iconst X34.here hx rfl (hb hby at_62) ?_
    exact Steps.refl _
  obtain ⟨T36, h36, k36, X36, e36, E36, A36, st36⟩ := newP X34 hx hZ18 (hw _ (List.mem_of_getElem? (i := 4) rfl)) e34 (g := (mkF m 63 #[vi p0, vi p1, vi p2, vi p3, vi p4, vi c0, vi c1, vi c2, vi c3, vr b11, vr b21, uu, uu, uu, uu, uu, uu, uu, uu, uu, uu, uu, uu, uu, uu, uu] [(.int (2 : Int32)), (.ref b34), (.ref b34)])) rfl (hb hby at_63) rfl (by decide) (cap := 2) (by decide) (by decide) (by decide) (by decide)
  obtain ⟨b36, g36⟩ : ∃ z, z = h34.size := ⟨_, rfl⟩
  rw [← g36] at A36 st36
  have lt36 := own_lt A36.lt
  refine own_go st36 ?_
  show own_Fin p e below (T36.setTop (mkF m 65 #[vi p0, vi p1, vi p2, vi p3, vi p4, vi c0, vi c1, vi c2, vi c3, vr b11, vr b21, uu, uu, uu, uu, uu, uu, uu, uu, uu, uu, uu, uu, uu, uu, uu] [(.ref b36), (.ref b34), (.ref b34)])) _
  have z37 := E36.1
  have K37 := K35.ext E36
  have O37 := O35.ext E36
  have CH37 := CH35.trans (CHr.ext E36 CH35.1)
  have V36 : Arv Z h36 b36 k36 .char (2 : Int32) [(.int (0 : Int32)), (.int (0 : Int32))] (.int (0 : Int32)) := (Arv.new A36 (by decide)).pad (pad_rep [] (.int (0 : Int32)) 2)
  refine own_gs (cur' := T36.setTop (mkF m 69 #[vi p0, vi p1, vi p2, vi p3, vi p4, vi c0, vi c1, vi c2, vi c3, vr b11, vr b21, uu, uu, uu, uu, uu, uu, uu, uu, uu, uu, uu, uu, uu, uu, uu] [(.int c0), (.int (0 : Int32)), (.ref b36), (.ref b36), (.ref b34), (.ref b34)])) ?_ ?_
  · refine XS.dup X36.here hx rfl (hb hby at_65) rfl rfl ?_
    refine XS.iconst X36.here hx rfl (hb hby at_66) ?_
    refine XS.iload X36.here hx rfl (hb hby at_67) rfl ?_
    exact Steps.refl _
  obtain ⟨_, Ar39, -⟩ := id V36
  obtain ⟨cl38, Ar38, q38, S38, M38, Hs38, G38⟩ := id V36
  have hin38 : ¬ ((0 : Int32) < 0 ∨ cl38.slots.size ≤ ((0 : Int32)).toNatClampNeg) := inb_of S38 ⟨by decide, by decide⟩
  obtain ⟨T38, h38, X38, e38, W38, st38⟩ := stC X36 hx hZ18 e36 Ar38 (j := (0 : Int32)) hin38 (g := (mkF m 69 #[vi p0, vi p1, vi p2, vi p3, vi p4, vi c0, vi c1, vi c2, vi c3, vr b11, vr b21, uu, uu, uu, uu, uu, uu, uu, uu, uu, uu, uu, uu, uu, uu, uu] [(.int c0), (.int (0 : Int32)), (.ref b36), (.ref b36), (.ref b34), (.ref b34)])) rfl rfl (hb hby at_69)
  have V38 := Arv.set Ar38 q38 S38 M38 Hs38 G38 (fits_nar_char _) W38 0 rfl (Nat.le_of_ble_eq_true rfl)
  refine own_go st38 ?_
  show own_Fin p e below (T38.setTop (mkF m 70 #[vi p0, vi p1, vi p2, vi p3, vi p4, vi c0, vi c1, vi c2, vi c3, vr b11, vr b21, uu, uu, uu, uu, uu, uu, uu, uu, uu, uu, uu, uu, uu, uu, uu] [(.ref b36), (.ref b34), (.ref b34)])) _
  have z40 := W38.size
  have K40 := K37.wr W38 (Or.inr (by omega))
  have O40 := O37.wr W38 (by omega)
  have CH40 := CH37.trans (CHr.wr W38 (Safe.arr hZ18.alike Ar39 (by decide)) CH37.1)
  have N40 := Fr.snoc X38 N31 (by omega)
  refine own_gs (cur' := T38.setTop (mkF m 74 #[vi p0, vi p1, vi p2, vi p3, vi p4, vi c0, vi c1, vi c2, vi c3, vr b11, vr b21, uu, uu, uu, uu, uu, uu, uu, uu, uu, uu, uu, uu, uu, uu, uu] [(.int c1), (.int (1 : Int32)), (.ref b36), (.ref b36), (.ref b34), (.ref b34)])) ?_ ?_
  · refine XS.dup X38.here hx rfl (hb hby at_70) rfl rfl ?_
    refine XS.iconst X38.here hx rfl (hb hby at_71) ?_
    refine XS.iload X38.here hx rfl (hb hby at_72) rfl ?_
    exact Steps.refl _
  obtain ⟨_, Ar42, -⟩ := id V38
  obtain ⟨cl41, Ar41, q41, S41, M41, Hs41, G41⟩ := id V38
  have hin41 : ¬ ((1 : Int32) < 0 ∨ cl41.slots.size ≤ ((1 : Int32)).toNatClampNeg) := inb_of S41 ⟨by decide, by decide⟩
  obtain ⟨T41, h41, X41, e41, W41, st41⟩ := stC X38 hx hZ18 e38 Ar41 (j := (1 : Int32)) hin41 (g := (mkF m 74 #[vi p0, vi p1, vi p2, vi p3, vi p4, vi c0, vi c1, vi c2, vi c3, vr b11, vr b21, uu, uu, uu, uu, uu, uu, uu, uu, uu, uu, uu, uu, uu, uu, uu] [(.int c1), (.int (1 : Int32)), (.ref b36), (.ref b36), (.ref b34), (.ref b34)])) rfl rfl (hb hby at_74)
  have V41 := Arv.set Ar41 q41 S41 M41 Hs41 G41 (fits_nar_char _) W41 1 rfl (Nat.le_of_ble_eq_true rfl)
  refine own_go st41 ?_
  show own_Fin p e below (T41.setTop (mkF m 75 #[vi p0, vi p1, vi p2, vi p3, vi p4, vi c0, vi c1, vi c2, vi c3, vr b11, vr b21, uu, uu, uu, uu, uu, uu, uu, uu, uu, uu, uu, uu, uu, uu, uu] [(.ref b36), (.ref b34), (.ref b34)])) _
  have z43 := W41.size
  have K43 := K40.wr W41 (Or.inr (by omega))
  have O43 := O40.wr W41 (by omega)
  have CH43 := CH40.trans (CHr.wr W41 (Safe.arr hZ18.alike Ar42 (by decide)) CH40.1)
  have N43 := Fr.snoc X41 N40 (by omega)
  have f44 := (((A34.ext E36).wr W38).wr W41)
  have f45 := (((F34_value.ext E36).other W38 (Or.inl (own_ne (a := b34) (b := b36) (by omega)))).other W41 (Or.inl (own_ne (a := b34) (b := b36) (by omega))))
  have f46 := (((F34_coder.ext E36).other W38 (Or.inl (own_ne (a := b34) (b := b36) (by omega)))).other W41 (Or.inl (own_ne (a := b34) (b := b36) (by omega))))
  have f48 := (Safe.wr W41 (Safe.arr hZ18.alike Ar42 (by decide)) CH40.1 (Safe.wr W38 (Safe.arr hZ18.alike Ar39 (by decide)) CH37.1 (Safe.ext E36 CH35.1 Sf34)))
  obtain ⟨_, _, ⟨T47, L47, k47, n47⟩, -, X47, ⟨Lc47, hQ47, l47, y47, z47⟩, st47⟩ := X41.specialBack hx (y := (⟨"java/lang/String", "<init>", "([C)V"⟩ : MethodName)) rfl hown18 (mvT hZ18 (hw _ (List.mem_of_getElem? (i := 5) rfl))) (mvT hZ18 (hw _ (List.mem_of_getElem? (i := 6) rfl))) (mvT hZ18 (hw _ (List.mem_of_getElem? (i := 7) rfl))) (by decide) (backOf (W := 1) (own_u_new1_2 l Z a0 hW b34 b36 .null (.int (0 : Int32)) k36 (nar .char c0) (nar .char c1) h41 n0 (by omega) O43 f44 f45 f46 (by omega) V41 (own_narb _) (own_narb _)) hZ18 (hw _ (List.mem_of_getElem? (i := 7) rfl)) (hw _ (List.mem_of_getElem? (i := 3) rfl)) (by decide) (by decide)) (g := (mkF m 75 #[vi p0, vi p1, vi p2, vi p3, vi p4, vi c0, vi c1, vi c2, vi c3, vr b11, vr b21, uu, uu, uu, uu, uu, uu, uu, uu, uu, uu, uu, uu, uu, uu, uu] [(.ref b36), (.ref b34), (.ref b34)])) rfl (by rw [hml]; rfl) (Steps.refl _) (a := b34) (argsL := [(.ref b36)]) (rest := [(.ref b34)]) (lenOf pd_15 rfl) rfl (by show 2 * 0 + _ ≤ _; exact Nat.le_of_eq rfl) (hb hby at_75) (fun _ _ => ⟨rfl, e41, (by decide : 12 + 2 ≤ 48), (by decide : 26 + 6 ≤ 1216)⟩)
  dsimp only [Pt.U, Pt.locs, Pt.cells, Pt.slots] at X47 l47 y47 z47 st47 hQ47
  subst l47 y47 z47
  obtain ⟨rfl, Nq47, Kq47, t47, hne47, F47⟩ := hQ47
  have N47 := Fr.app N43 Nq47
  have z49 := Kq47.1
  have K49 := K43.trans Kq47 (allS (Or.inr (by omega)) all0)
  have O49 := O43.keep Kq47 (allS (by omega) all0)
  have CH49 := CH43.trans (CHr.keep Kq47 (allS f48 all0) CH43.1)
  have lt47 := F47.lt
  refine own_gs st47 ?_
  show own_Fin p e below (T47.setTop (mkF m 78 #[vi p0, vi p1, vi p2, vi p3, vi p4, vi c0, vi c1, vi c2, vi c3, vr b11, vr b21, uu, uu, uu, uu, uu, uu, uu, uu, uu, uu, uu, uu, uu, uu, uu] [(.ref b34)])) _
  have Fs2 := F47
  rw [own_nar hc0.1 hc0.2, own_nar hc1.1 hc1.2] at Fs2
  refine own_gs (cur' := T47.setTop (mkF m 80 #[vi p0, vi p1, vi p2, vi p3, vi p4, vi c0, vi c1, vi c2, vi c3, vr b11, vr b21, vr b34, uu, uu, uu, uu, uu, uu, uu, uu, uu, uu, uu, uu, uu, uu] [])) ?_ ?_
  · refine XS.astore X47.here hx rfl (hb hby at_78) rfl rfl (l' := #[vi p0, vi p1, vi p2, vi p3, vi p4, vi c0, vi c1, vi c2, vi c3, vr b11, vr b21, vr b34, uu, uu, uu, uu, uu, uu, uu, uu, uu, uu, uu, uu, uu, uu]) rfl ?_
    exact Steps.refl _
  obtain ⟨T50, h50, X50, e50, E50, A50, D50, -, st50⟩ := newO X47 hx hZ18 hown18 (hw _ (List.mem_of_getElem? (i := 1) rfl)) (hw _ (List.mem_of_getElem? (i := 2) rfl)) (hw _ (List.mem_of_getElem? (i := 3) rfl)) rfl (g := (mkF m 80 #[vi p0, vi p1, vi p2, vi p3, vi p4, vi c0, vi c1, vi c2, vi c3, vr b11, vr b21, vr b34, uu, uu, uu, uu, uu, uu, uu, uu, uu, uu, uu, uu, uu, uu] [])) rfl (hb hby at_80) (by decide) (by decide)
  obtain ⟨b50, g50⟩ : ∃ z, z = T47.heap.size := ⟨_, rfl⟩
  rw [← g50] at A50 D50 st50
  have lt50 := own_lt A50.lt
  refine own_go st50 ?_
  show own_Fin p e below (T50.setTop (mkF m 83 #[vi p0, vi p1, vi p2, vi p3, vi p4, vi c0, vi c1, vi c2, vi c3, vr b11, vr b21, vr b34, uu, uu, uu, uu, uu, uu, uu, uu, uu, uu, uu, uu, uu, uu] [(.ref b50)])) _
  have z51 := E50.1
  have K51 := K49.ext E50
  have O51 := O49.ext E50
  have CH51 := CH49.trans (CHr.ext E50 CH49.1)
  have F50_value : Fld Z h50 b50 "java/lang/String" "value" "[B" .null := D50 (Or.inr (hw _ (List.mem_of_getElem? (i := 17) rfl))) (ty := (.array .byte)) (by decide)
  have F50_coder : Fld Z h50 b50 "java/lang/String" "coder" "B" (.int (0 : Int32)) := D50 (Or.inr (hw _ (List.mem_of_getElem? (i := 18) rfl))) (ty := .byte) (by decide)
  have Sf50 := Safe.ext E50 CH49.1 (Safe.new (by omega : T47.heap.size ≤ b50))
  refine own_gs (cur' := T50.setTop (mkF m 85 #[vi p0, vi p1, vi p2, vi p3, vi p4, vi c0, vi c1, vi c2, vi c3, vr b11, vr b21, vr b34, uu, uu, uu, uu, uu, uu, uu, uu, uu, uu, uu, uu, uu, uu] [(.int (3 : Int32)), (.ref b50), (.ref b50)])) ?_ ?_
  · refine XS.dup X50.here hx rfl (hb hby at_83) rfl rfl ?_
    refine XS.iconst X50.here hx rfl (hb hby at_84) ?_
    exact Steps.refl _
  obtain ⟨T52, h52, k52, X52, e52, E52, A52, st52⟩ := newP X50 hx hZ18 (hw _ (List.mem_of_getElem? (i := 4) rfl)) e50 (g := (mkF m 85 #[vi p0, vi p1, vi p2, vi p3, vi p4, vi c0, vi c1, vi c2, vi c3, vr b11, vr b21, vr b34, uu, uu, uu, uu, uu, uu, uu, uu, uu, uu, uu, uu, uu, uu] [(.int (3 : Int32)), (.ref b50), (.ref b50)])) rfl (hb hby at_85) rfl (by decide) (cap := 3) (by decide) (by decide) (by decide) (by decide)
  obtain ⟨b52, g52⟩ : ∃ z, z = h50.size := ⟨_, rfl⟩
  rw [← g52] at A52 st52
  have lt52 := own_lt A52.lt
  refine own_go st52 ?_
  show own_Fin p e below (T52.setTop (mkF m 87 #[vi p0, vi p1, vi p2, vi p3, vi p4, vi c0, vi c1, vi c2, vi c3, vr b11, vr b21, vr b34, uu, uu, uu, uu, uu, uu, uu, uu, uu, uu, uu, uu, uu, uu] [(.ref b52), (.ref b50), (.ref b50)])) _
  have z53 := E52.1
  have K53 := K51.ext E52
  have O53 := O51.ext E52
  have CH53 := CH51.trans (CHr.ext E52 CH51.1)
  have V52 : Arv Z h52 b52 k52 .char (3 : Int32) [(.int (0 : Int32)), (.int (0 : Int32)), (.int (0 : Int32))] (.int (0 : Int32)) := (Arv.new A52 (by decide)).pad (pad_rep [] (.int (0 : Int32)) 3)
  refine own_gs (cur' := T52.setTop (mkF m 91 #[vi p0, vi p1, vi p2, vi p3, vi p4, vi c0, vi c1, vi c2, vi c3, vr b11, vr b21, vr b34, uu, uu, uu, uu, uu, uu, uu, uu, uu, uu, uu, uu, uu, uu] [(.int c0), (.int (0 : Int32)), (.ref b52), (.ref b52), (.ref b50), (.ref b50)])) ?_ ?_
  · refine XS.dup X52.here hx rfl (hb hby at_87) rfl rfl ?_
    refine XS.iconst X52.here hx rfl (hb hby at_88) ?_
    refine XS.iload X52.here hx rfl (hb hby at_89) rfl ?_
    exact Steps.refl _
  obtain ⟨_, Ar55, -⟩ := id V52
  obtain ⟨cl54, Ar54, q54, S54, M54, Hs54, G54⟩ := id V52
  have hin54 : ¬ ((0 : Int32) < 0 ∨ cl54.slots.size ≤ ((0 : Int32)).toNatClampNeg) := inb_of S54 ⟨by decide, by decide⟩
  obtain ⟨T54, h54, X54, e54, W54, st54⟩ := stC X52 hx hZ18 e52 Ar54 (j := (0 : Int32)) hin54 (g := (mkF m 91 #[vi p0, vi p1, vi p2, vi p3, vi p4, vi c0, vi c1, vi c2, vi c3, vr b11, vr b21, vr b34, uu, uu, uu, uu, uu, uu, uu, uu, uu, uu, uu, uu, uu, uu] [(.int c0), (.int (0 : Int32)), (.ref b52), (.ref b52), (.ref b50), (.ref b50)])) rfl rfl (hb hby at_91)
  have V54 := Arv.set Ar54 q54 S54 M54 Hs54 G54 (fits_nar_char _) W54 0 rfl (Nat.le_of_ble_eq_true rfl)
  refine own_go st54 ?_
  show own_Fin p e below (T54.setTop (mkF m 92 #[vi p0, vi p1, vi p2, vi p3, vi p4, vi c0, vi c1, vi c2, vi c3, vr b11, vr b21, vr b34, uu, uu, uu, uu, uu, uu, uu, uu, uu, uu, uu, uu, uu, uu] [(.ref b52), (.ref b50), (.ref b50)])) _
  have z56 := W54.size
  have K56 := K53.wr W54 (Or.inr (by omega))
  have O56 := O53.wr W54 (by omega)
  have CH56 := CH53.trans (CHr.wr W54 (Safe.arr hZ18.alike Ar55 (by decide)) CH53.1)
  have N56 := Fr.snoc X54 N47 (by omega)
  refine own_gs (cur' := T54.setTop (mkF m 96 #[vi p0, vi p1, vi p2, vi p3, vi p4, vi c0, vi c1, vi c2, vi c3, vr b11, vr b21, vr b34, uu, uu, uu, uu, uu, uu, uu, uu, uu, uu, uu, uu, uu, uu] [(.int c1), (.int (1 : Int32)), (.ref b52), (.ref b52), (.ref b50), (.ref b50)])) ?_ ?_
  · refine XS.dup X54.here hx rfl (hb hby at_92) rfl rfl ?_
    refine XS.iconst X54.here hx rfl (hb hby at_93) ?_
    refine XS.iload X54.here hx rfl (hb hby at_94) rfl ?_
    exact Steps.refl _
  obtain ⟨_, Ar58, -⟩ := id V54
  obtain ⟨cl57, Ar57, q57, S57, M57, Hs57, G57⟩ := id V54
  have hin57 : ¬ ((1 : Int32) < 0 ∨ cl57.slots.size ≤ ((1 : Int32)).toNatClampNeg) := inb_of S57 ⟨by decide, by decide⟩
  obtain ⟨T57, h57, X57, e57, W57, st57⟩ := stC X54 hx hZ18 e54 Ar57 (j := (1 : Int32)) hin57 (g := (mkF m 96 #[vi p0, vi p1, vi p2, vi p3, vi p4, vi c0, vi c1, vi c2, vi c3, vr b11, vr b21, vr b34, uu, uu, uu, uu, uu, uu, uu, uu, uu, uu, uu, uu, uu, uu] [(.int c1), (.int (1 : Int32)), (.ref b52), (.ref b52), (.ref b50), (.ref b50)])) rfl rfl (hb hby at_96)
  have V57 := Arv.set Ar57 q57 S57 M57 Hs57 G57 (fits_nar_char _) W57 1 rfl (Nat.le_of_ble_eq_true rfl)
  refine own_go st57 ?_
  show own_Fin p e below (T57.setTop (mkF m 97 #[vi p0, vi p1, vi p2, vi p3, vi p4, vi c0, vi c1, vi c2, vi c3, vr b11, vr b21, vr b34, uu, uu, uu, uu, uu, uu, uu, uu, uu, uu, uu, uu, uu, uu] [(.ref b52), (.ref b50), (.ref b50)])) _
  have z59 := W57.size
  have K59 := K56.wr W57 (Or.inr (by omega))
  have O59 := O56.wr W57 (by omega)
  have CH59 := CH56.trans (CHr.wr W57 (Safe.arr hZ18.alike Ar58 (by decide)) CH56.1)
  have N59 := Fr.snoc X57 N56 (by omega)
  refine own_gs (cur' := T57.setTop (mkF m 101 #[vi p0, vi p1, vi p2, vi p3, vi p4, vi c0, vi c1, vi c2, vi c3, vr b11, vr b21, vr b34, uu, uu, uu, uu, uu, uu, uu, uu, uu, uu, uu, uu, uu, uu] [(.int c2), (.int (2 : Int32)), (.ref b52), (.ref b52), (.ref b50), (.ref b50)])) ?_ ?_
  · refine XS.dup X57.here hx rfl (hb hby at_97) rfl rfl ?_
    refine XS.iconst X57.here hx rfl (hb hby at_98) ?_
    refine XS.iload X57.here hx rfl (hb hby at_99) rfl ?_
    exact Steps.refl _
  obtain ⟨_, Ar61, -⟩ := id V57
  obtain ⟨cl60, Ar60, q60, S60, M60, Hs60, G60⟩ := id V57
  have hin60 : ¬ ((2 : Int32) < 0 ∨ cl60.slots.size ≤ ((2 : Int32)).toNatClampNeg) := inb_of S60 ⟨by decide, by decide⟩
  obtain ⟨T60, h60, X60, e60, W60, st60⟩ := stC X57 hx hZ18 e57 Ar60 (j := (2 : Int32)) hin60 (g := (mkF m 101 #[vi p0, vi p1, vi p2, vi p3, vi p4, vi c0, vi c1, vi c2, vi c3, vr b11, vr b21, vr b34, uu, uu, uu, uu, uu, uu, uu, uu, uu, uu, uu, uu, uu, uu] [(.int c2), (.int (2 : Int32)), (.ref b52), (.ref b52), (.ref b50), (.ref b50)])) rfl rfl (hb hby at_101)
  have V60 := Arv.set Ar60 q60 S60 M60 Hs60 G60 (fits_nar_char _) W60 2 rfl (Nat.le_of_ble_eq_true rfl)
  refine own_go st60 ?_
  show own_Fin p e below (T60.setTop (mkF m 102 #[vi p0, vi p1, vi p2, vi p3, vi p4, vi c0, vi c1, vi c2, vi c3, vr b11, vr b21, vr b34, uu, uu, uu, uu, uu, uu, uu, uu, uu, uu, uu, uu, uu, uu] [(.ref b52), (.ref b50), (.ref b50)])) _
  have z62 := W60.size
  have K62 := K59.wr W60 (Or.inr (by omega))
  have O62 := O59.wr W60 (by omega)
  have CH62 := CH59.trans (CHr.wr W60 (Safe.arr hZ18.alike Ar61 (by decide)) CH59.1)
  have N62 := Fr.snoc X60 N59 (by omega)
  have f63 := ((((A50.ext E52).wr W54).wr W57).wr W60)
  have f64 := ((((F50_value.ext E52).other W54 (Or.inl (own_ne (a := b50) (b := b52) (by omega)))).other W57 (Or.inl (own_ne (a := b50) (b := b52) (by omega)))).other W60 (Or.inl (own_ne (a := b50) (b := b52) (by omega))))
  have f65 := ((((F50_coder.ext E52).other W54 (Or.inl (own_ne (a := b50) (b := b52) (by omega)))).other W57 (Or.inl (own_ne (a := b50) (b := b52) (by omega)))).other W60 (Or.inl (own_ne (a := b50) (b := b52) (by omega))))
  have f67 := (Safe.wr W60 (Safe.arr hZ18.alike Ar61 (by decide)) CH59.1 (Safe.wr W57 (Safe.arr hZ18.alike Ar58 (by decide)) CH56.1 (Safe.wr W54 (Safe.arr hZ18.alike Ar55 (by decide)) CH53.1 (Safe.ext E52 CH51.1 Sf50))))
  obtain ⟨_, _, ⟨T66, L66, k66, n66⟩, -, X66, ⟨Lc66, hQ66, l66, y66, z66⟩, st66⟩ := X60.specialBack hx (y := (⟨"java/lang/String", "<init>", "([C)V"⟩ : MethodName)) rfl hown18 (mvT hZ18 (hw _ (List.mem_of_getElem? (i := 5) rfl))) (mvT hZ18 (hw _ (List.mem_of_getElem? (i := 6) rfl))) (mvT hZ18 (hw _ (List.mem_of_getElem? (i := 7) rfl))) (by decide) (backOf (W := 1) (own_u_new1_3 l Z a0 hW b50 b52 .null (.int (0 : Int32)) k52 (nar .char c0) (nar .char c1) (nar .char c2) h60 n0 (by omega) O62 f63 f64 f65 (by omega) V60 (own_narb _) (own_narb _) (own_narb _)) hZ18 (hw _ (List.mem_of_getElem? (i := 7) rfl)) (hw _ (List.mem_of_getElem? (i := 3) rfl)) (by decide) (by decide)) (g := (mkF m 102 #[vi p0, vi p1, vi p2, vi p3, vi p4, vi c0, vi c1, vi c2, vi c3, vr b11, vr b21, vr b34, uu, uu, uu, uu, uu, uu, uu, uu, uu, uu, uu, uu, uu, uu] [(.ref b52), (.ref b50), (.ref b50)])) rfl (by rw [hml]; rfl) (Steps.refl _) (a := b50) (argsL := [(.ref b52)]) (rest := [(.ref b50)]) (lenOf pd_15 rfl) rfl (by show 2 * 0 + _ ≤ _; exact Nat.le_of_eq rfl) (hb hby at_102) (fun _ _ => ⟨rfl, e60, (by decide : 16 + 2 ≤ 48), (by decide : 39 + 9 ≤ 1216)⟩)
  dsimp only [Pt.U, Pt.locs, Pt.cells, Pt.slots] at X66 l66 y66 z66 st66 hQ66
  subst l66 y66 z66
  obtain ⟨rfl, Nq66, Kq66, t66, hne66, F66⟩ := hQ66
  have N66 := Fr.app N62 Nq66
  have z68 := Kq66.1
  have K68 := K62.trans Kq66 (allS (Or.inr (by omega)) all0)
  have O68 := O62.keep Kq66 (allS (by omega) all0)
  have CH68 := CH62.trans (CHr.keep Kq66 (allS f67 all0) CH62.1)
  have lt66 := F66.lt
  refine own_gs st66 ?_
  show own_Fin p e below (T66.setTop (mkF m 105 #[vi p0, vi p1, vi p2, vi p3, vi p4, vi c0, vi c1, vi c2, vi c3, vr b11, vr b21, vr b34, uu, uu, uu, uu, uu, uu, uu, uu, uu, uu, uu, uu, uu, uu] [(.ref b50)])) _
  have Fs3 := F66
  rw [own_nar hc0.1 hc0.2, own_nar hc1.1 hc1.2, own_nar hc2.1 hc2.2] at Fs3
  refine own_gs (cur' := T66.setTop (mkF m 107 #[vi p0, vi p1, vi p2, vi p3, vi p4, vi c0, vi c1, vi c2, vi c3, vr b11, vr b21, vr b34, vr b50, uu, uu, uu, uu, uu, uu, uu, uu, uu, uu, uu, uu, uu] [])) ?_ ?_
  · refine XS.astore X66.here hx rfl (hb hby at_105) rfl rfl (l' := #[vi p0, vi p1, vi p2, vi p3, vi p4, vi c0, vi c1, vi c2, vi c3, vr b11, vr b21, vr b34, vr b50, uu, uu, uu, uu, uu, uu, uu, uu, uu, uu, uu, uu, uu]) rfl ?_
    exact Steps.refl _
  obtain ⟨T69, h69, X69, e69, E69, A69, D69, -, st69⟩ := newO X66 hx hZ18 hown18 (hw _ (List.mem_of_getElem? (i := 1) rfl)) (hw _ (List.mem_of_getElem? (i := 2) rfl)) (hw _ (List.mem_of_getElem? (i := 3) rfl)) rfl (g := (mkF m 107 #[vi p0, vi p1, vi p2, vi p3, vi p4, vi c0, vi c1, vi c2, vi c3, vr b11, vr b21, vr b34, vr b50, uu, uu, uu, uu, uu, uu, uu, uu, uu, uu, uu, uu, uu] [])) rfl (hb hby at_107) (by decide) (by decide)
  obtain ⟨b69, g69⟩ : ∃ z, z = T66.heap.size := ⟨_, rfl⟩
  rw [← g69] at A69 D69 st69
  have lt69 := own_lt A69.lt
  refine own_go st69 ?_
  show own_Fin p e below (T69.setTop (mkF m 110 #[vi p0, vi p1, vi p2, vi p3, vi p4, vi c0, vi c1, vi c2, vi c3, vr b11, vr b21, vr b34, vr b50, uu, uu, uu, uu, uu, uu, uu, uu, uu, uu, uu, uu, uu] [(.ref b69)])) _
  have z70 := E69.1
  have K70 := K68.ext E69
  have O70 := O68.ext E69
  have CH70 := CH68.trans (CHr.ext E69 CH68.1)
  have F69_value : Fld Z h69 b69 "java/lang/String" "value" "[B" .null := D69 (Or.inr (hw _ (List.mem_of_getElem? (i := 17) rfl))) (ty := (.array .byte)) (by decide)
  have F69_coder : Fld Z h69 b69 "java/lang/String" "coder" "B" (.int (0 : Int32)) := D69 (Or.inr (hw _ (List.mem_of_getElem? (i := 18) rfl))) (ty := .byte) (by decide)
  have Sf69 := Safe.ext E69 CH68.1 (Safe.new (by omega : T66.heap.size ≤ b69))
  refine own_gs (cur' := T69.setTop (mkF m 112 #[vi p0, vi p1, vi p2, vi p3, vi p4, vi c0, vi c1, vi c2, vi c3, vr b11, vr b21, vr b34, vr b50, uu, uu, uu, uu, uu, uu, uu, uu, uu, uu, uu, uu, uu] [(.int (4 : Int32)), (.ref b69), (.ref b69)])) ?_ ?_
  · refine XS.dup X69.here hx rfl (hb hby at_110) rfl rfl ?_
    refine XS.iconst X69.here hx rfl (hb hby at_111) ?_
    exact Steps.refl _
  obtain ⟨T71, h71, k71, X71, e71, E71, A71, st71⟩ := newP X69 hx hZ18 (hw _ (List.mem_of_getElem? (i := 4) rfl)) e69 (g := (mkF m 112 #[vi p0, vi p1, vi p2, vi p3, vi p4, vi c0, vi c1, vi c2, vi c3, vr b11, vr b21, vr b34, vr b50, uu, uu, uu, uu, uu, uu, uu, uu, uu, uu, uu, uu, uu] [(.int (4 : Int32)), (.ref b69), (.ref b69)])) rfl (hb hby at_112) rfl (by decide) (cap := 4) (by decide) (by decide) (by decide) (by decide)
  obtain ⟨b71, g71⟩ : ∃ z, z = h69.size := ⟨_, rfl⟩
  rw [← g71] at A71 st71
  have lt71 := own_lt A71.lt
  refine own_go st71 ?_
  show own_Fin p e below (T71.setTop (mkF m 114 #[vi p0, vi p1, vi p2, vi p3, vi p4, vi c0, vi c1, vi c2, vi c3, vr b11, vr b21, vr b34, vr b50, uu, uu, uu, uu, uu, uu, uu, uu, uu, uu, uu, uu, uu] [(.ref b71), (.ref b69), (.ref b69)])) _
  have z72 := E71.1
  have K72 := K70.ext E71
  have O72 := O70.ext E71
  have CH72 := CH70.trans (CHr.ext E71 CH70.1)
  have V71 : Arv Z h71 b71 k71 .char (4 : Int32) [(.int (0 : Int32)), (.int (0 : Int32)), (.int (0 : Int32)), (.int (0 : Int32))] (.int (0 : Int32)) := (Arv.new A71 (by decide)).pad (pad_rep [] (.int (0 : Int32)) 4)
  refine own_gs (cur' := T71.setTop (mkF m 118 #[vi p0, vi p1, vi p2, vi p3, vi p4, vi c0, vi c1, vi c2, vi c3, vr b11, vr b21, vr b34, vr b50, uu, uu, uu, uu, uu, uu, uu, uu, uu, uu, uu, uu, uu] [(.int c0), (.int (0 : Int32)), (.ref b71), (.ref b71), (.ref b69), (.ref b69)])) ?_ ?_
  · refine XS.dup X71.here hx rfl (hb hby at_114) rfl rfl ?_
    refine XS.iconst X71.here hx rfl (hb hby at_115) ?_
    refine XS.iload X71.here hx rfl (hb hby at_116) rfl ?_
    exact Steps.refl _
  obtain ⟨_, Ar74, -⟩ := id V71
  obtain ⟨cl73, Ar73, q73, S73, M73, Hs73, G73⟩ := id V71
  have hin73 : ¬ ((0 : Int32) < 0 ∨ cl73.slots.size ≤ ((0 : Int32)).toNatClampNeg) := inb_of S73 ⟨by decide, by decide⟩
  obtain ⟨T73, h73, X73, e73, W73, st73⟩ := stC X71 hx hZ18 e71 Ar73 (j := (0 : Int32)) hin73 (g := (mkF m 118 #[vi p0, vi p1, vi p2, vi p3, vi p4, vi c0, vi c1, vi c2, vi c3, vr b11, vr b21, vr b34, vr b50, uu, uu, uu, uu, uu, uu, uu, uu, uu, uu, uu, uu, uu] [(.int c0), (.int (0 : Int32)), (.ref b71), (.ref b71), (.ref b69), (.ref b69)])) rfl rfl (hb hby at_118)
  have V73 := Arv.set Ar73 q73 S73 M73 Hs73 G73 (fits_nar_char _) W73 0 rfl (Nat.le_of_ble_eq_true rfl)
  refine own_go st73 ?_
  show own_Fin p e below (T73.setTop (mkF m 119 #[vi p0, vi p1, vi p2, vi p3, vi p4, vi c0, vi c1, vi c2, vi c3, vr b11, vr b21, vr b34, vr b50, uu, uu, uu, uu, uu, uu, uu, uu, uu, uu, uu, uu, uu] [(.ref b71), (.ref b69), (.ref b69)])) _
  have z75 := W73.size
  have K75 := K72.wr W73 (Or.inr (by omega))
  have O75 := O72.wr W73 (by omega)
  have CH75 := CH72.trans (CHr.wr W73 (Safe.arr hZ18.alike Ar74 (by decide)) CH72.1)
  have N75 := Fr.snoc X73 N66 (by omega)
  refine own_gs (cur' := T73.setTop (mkF m 123 #[vi p0, vi p1, vi p2, vi p3, vi p4, vi c0, vi c1, vi c2, vi c3, vr b11, vr b21, vr b34, vr b50, uu, uu, uu, uu, uu, uu, uu, uu, uu, uu, uu, uu, uu] [(.int c1), (.int (1 : Int32)), (.ref b71), (.ref b71), (.ref b69), (.ref b69)])) ?_ ?_
  · refine XS.dup X73.here hx rfl (hb hby at_119) rfl rfl ?_
    refine XS.iconst X73.here hx rfl (hb hby at_120) ?_
    refine XS.iload X73.here hx rfl (hb hby at_121) rfl ?_
    exact Steps.refl _
  obtain ⟨_, Ar77, -⟩ := id V73
  obtain ⟨cl76, Ar76, q76, S76, M76, Hs76, G76⟩ := id V73
  have hin76 : ¬ ((1 : Int32) < 0 ∨ cl76.slots.size ≤ ((1 : Int32)).toNatClampNeg) := inb_of S76 ⟨by decide, by decide⟩
  obtain ⟨T76, h76, X76, e76, W76, st76⟩ := stC X73 hx hZ18 e73 Ar76 (j := (1 : Int32)) hin76 (g := (mkF m 123 #[vi p0, vi p1, vi p2, vi p3, vi p4, vi c0, vi c1, vi c2, vi c3, vr b11, vr b21, vr b34, vr b50, uu, uu, uu, uu, uu, uu, uu, uu, uu, uu, uu, uu, uu] [(.int c1), (.int (1 : Int32)), (.ref b71), (.ref b71), (.ref b69), (.ref b69)])) rfl rfl (hb hby at_123)
  have V76 := Arv.set Ar76 q76 S76 M76 Hs76 G76 (fits_nar_char _) W76 1 rfl (Nat.le_of_ble_eq_true rfl)
  refine own_go st76 ?_
  show own_Fin p e below (T76.setTop (mkF m 124 #[vi p0, vi p1, vi p2, vi p3, vi p4, vi c0, vi c1, vi c2, vi c3, vr b11, vr b21, vr b34, vr b50, uu, uu, uu, uu, uu, uu, uu, uu, uu, uu, uu, uu, uu] [(.ref b71), (.ref b69), (.ref b69)])) _
  have z78 := W76.size
  have K78 := K75.wr W76 (Or.inr (by omega))
  have O78 := O75.wr W76 (by omega)
  have CH78 := CH75.trans (CHr.wr W76 (Safe.arr hZ18.alike Ar77 (by decide)) CH75.1)
  have N78 := Fr.snoc X76 N75 (by omega)
  refine own_gs (cur' := T76.setTop (mkF m 128 #[vi p0, vi p1, vi p2, vi p3, vi p4, vi c0, vi c1, vi c2, vi c3, vr b11, vr b21, vr b34, vr b50, uu, uu, uu, uu, uu, uu, uu, uu, uu, uu, uu, uu, uu] [(.int c2), (.int (2 : Int32)), (.ref b71), (.ref b71), (.ref b69), (.ref b69)])) ?_ ?_
  · refine XS.dup X76.here hx rfl (hb hby at_124) rfl rfl ?_
    refine XS.iconst X76.here hx rfl (hb hby at_125) ?_
    refine XS.iload X76.here hx rfl (hb hby at_126) rfl ?_
    exact Steps.refl _
  obtain ⟨_, Ar80, -⟩ := id V76
  obtain ⟨cl79, Ar79, q79, S79, M79, Hs79, G79⟩ := id V76
  have hin79 : ¬ ((2 : Int32) < 0 ∨ cl79.slots.size ≤ ((2 : Int32)).toNatClampNeg) := inb_of S79 ⟨by decide, by decide⟩
  obtain ⟨T79, h79, X79, e79, W79, st79⟩ := stC X76 hx hZ18 e76 Ar79 (j := (2 : Int32)) hin79 (g := (mkF m 128 #[vi p0, vi p1, vi p2, vi p3, vi p4, vi c0, vi c1, vi c2, vi c3, vr b11, vr b21, vr b34, vr b50, uu, uu, uu, uu, uu, uu, uu, uu, uu, uu, uu, uu, uu] [(.int c2), (.int (2 : Int32)), (.ref b71), (.ref b71), (.ref b69), (.ref b69)])) rfl rfl (hb hby at_128)
  have V79 := Arv.set Ar79 q79 S79 M79 Hs79 G79 (fits_nar_char _) W79 2 rfl (Nat.le_of_ble_eq_true rfl)
  refine own_go st79 ?_
  show own_Fin p e below (T79.setTop (mkF m 129 #[vi p0, vi p1, vi p2, vi p3, vi p4, vi c0, vi c1, vi c2, vi c3, vr b11, vr b21, vr b34, vr b50, uu, uu, uu, uu, uu, uu, uu, uu, uu, uu, uu, uu, uu] [(.ref b71), (.ref b69), (.ref b69)])) _
  have z81 := W79.size
  have K81 := K78.wr W79 (Or.inr (by omega))
  have O81 := O78.wr W79 (by omega)
  have CH81 := CH78.trans (CHr.wr W79 (Safe.arr hZ18.alike Ar80 (by decide)) CH78.1)
  have N81 := Fr.snoc X79 N78 (by omega)
  refine own_gs (cur' := T79.setTop (mkF m 133 #[vi p0, vi p1, vi p2, vi p3, vi p4, vi c0, vi c1, vi c2, vi c3, vr b11, vr b21, vr b34, vr b50, uu, uu, uu, uu, uu, uu, uu, uu, uu, uu, uu, uu, uu] [(.int c3), (.int (3 : Int32)), (.ref b71), (.ref b71), (.ref b69), (.ref b69)])) ?_ ?_
  · refine XS.dup X79.here hx rfl (hb hby at_129) rfl rfl ?_
    refine XS.iconst X79.here hx rfl (hb hby at_130) ?_
    refine XS.iload X79.here hx rfl (hb hby at_131) rfl ?_
    exact Steps.refl _
  obtain ⟨_, Ar83, -⟩ := id V79
  obtain ⟨cl82, Ar82, q82, S82, M82, Hs82, G82⟩ := id V79
  have hin82 : ¬ ((3 : Int32) < 0 ∨ cl82.slots.size ≤ ((3 : Int32)).toNatClampNeg) := inb_of S82 ⟨by decide, by decide⟩
  obtain ⟨T82, h82, X82, e82, W82, st82⟩ := stC X79 hx hZ18 e79 Ar82 (j := (3 : Int32)) hin82 (g := (mkF m 133 #[vi p0, vi p1, vi p2, vi p3, vi p4, vi c0, vi c1, vi c2, vi c3, vr b11, vr b21, vr b34, vr b50, uu, uu, uu, uu, uu, uu, uu, uu, uu, uu, uu, uu, uu] [(.int c3), (.int (3 : Int32)), (.ref b71), (.ref b71), (.ref b69), (.ref b69)])) rfl rfl (hb hby at_133)
  have V82 := Arv.set Ar82 q82 S82 M82 Hs82 G82 (fits_nar_char _) W82 3 rfl (Nat.le_of_ble_eq_true rfl)
  refine own_go st82 ?_
  show own_Fin p e below (T82.setTop (mkF m 134 #[vi p0, vi p1, vi p2, vi p3, vi p4, vi c0, vi c1, vi c2, vi c3, vr b11, vr b21, vr b34, vr b50, uu, uu, uu, uu, uu, uu, uu, uu, uu, uu, uu, uu, uu] [(.ref b71), (.ref b69), (.ref b69)])) _
  have z84 := W82.size
  have K84 := K81.wr W82 (Or.inr (by omega))
  have O84 := O81.wr W82 (by omega)
  have CH84 := CH81.trans (CHr.wr W82 (Safe.arr hZ18.alike Ar83 (by decide)) CH81.1)
  have N84 := Fr.snoc X82 N81 (by omega)
  have f85 := (((((A69.ext E71).wr W73).wr W76).wr W79).wr W82)
  have f86 := (((((F69_value.ext E71).other W73 (Or.inl (own_ne (a := b69) (b := b71) (by omega)))).other W76 (Or.inl (own_ne (a := b69) (b := b71) (by omega)))).other W79 (Or.inl (own_ne (a := b69) (b := b71) (by omega)))).other W82 (Or.inl (own_ne (a := b69) (b := b71) (by omega))))
  have f87 := (((((F69_coder.ext E71).other W73 (Or.inl (own_ne (a := b69) (b := b71) (by omega)))).other W76 (Or.inl (own_ne (a := b69) (b := b71) (by omega)))).other W79 (Or.inl (own_ne (a := b69) (b := b71) (by omega)))).other W82 (Or.inl (own_ne (a := b69) (b := b71) (by omega))))
  have f89 := (Safe.wr W82 (Safe.arr hZ18.alike Ar83 (by decide)) CH81.1 (Safe.wr W79 (Safe.arr hZ18.alike Ar80 (by decide)) CH78.1 (Safe.wr W76 (Safe.arr hZ18.alike Ar77 (by decide)) CH75.1 (Safe.wr W73 (Safe.arr hZ18.alike Ar74 (by decide)) CH72.1 (Safe.ext E71 CH70.1 Sf69)))))
  obtain ⟨_, _, ⟨T88, L88, k88, n88⟩, -, X88, ⟨Lc88, hQ88, l88, y88, z88⟩, st88⟩ := X82.specialBack hx (y := (⟨"java/lang/String", "<init>", "([C)V"⟩ : MethodName)) rfl hown18 (mvT hZ18 (hw _ (List.mem_of_getElem? (i := 5) rfl))) (mvT hZ18 (hw _ (List.mem_of_getElem? (i := 6) rfl))) (mvT hZ18 (hw _ (List.mem_of_getElem? (i := 7) rfl))) (by decide) (backOf (W := 1) (own_u_new1_4 l Z a0 hW b69 b71 .null (.int (0 : Int32)) k71 (nar .char c0) (nar .char c1) (nar .char c2) (nar .char c3) h82 n0 (by omega) O84 f85 f86 f87 (by omega) V82 (own_narb _) (own_narb _) (own_narb _) (own_narb _)) hZ18 (hw _ (List.mem_of_getElem? (i := 7) rfl)) (hw _ (List.mem_of_getElem? (i := 3) rfl)) (by decide) (by decide)) (g := (mkF m 134 #[vi p0, vi p1, vi p2, vi p3, vi p4, vi c0, vi c1, vi c2, vi c3, vr b11, vr b21, vr b34, vr b50, uu, uu, uu, uu, uu, uu, uu, uu, uu, uu, uu, uu, uu] [(.ref b71), (.ref b69), (.ref b69)])) rfl (by rw [hml]; rfl) (Steps.refl _) (a := b69) (argsL := [(.ref b71)]) (rest := [(.ref b69)]) (lenOf pd_15 rfl) rfl (by show 2 * 0 + _ ≤ _; exact Nat.le_of_eq rfl) (hb hby at_134) (fun _ _ => ⟨rfl, e82, (by decide : 20 + 2 ≤ 48), (by decide : 56 + 12 ≤ 1216)⟩)
  dsimp only [Pt.U, Pt.locs, Pt.cells, Pt.slots] at X88 l88 y88 z88 st88 hQ88
  subst l88 y88 z88
  obtain ⟨rfl, Nq88, Kq88, t88, hne88, F88⟩ := hQ88
  have N88 := Fr.app N84 Nq88
  have z90 := Kq88.1
  have K90 := K84.trans Kq88 (allS (Or.inr (by omega)) all0)
  have O90 := O84.keep Kq88 (allS (by omega) all0)
  have CH90 := CH84.trans (CHr.keep Kq88 (allS f89 all0) CH84.1)
  have lt88 := F88.lt
  refine own_gs st88 ?_
  show own_Fin p e below (T88.setTop (mkF m 137 #[vi p0, vi p1, vi p2, vi p3, vi p4, vi c0, vi c1, vi c2, vi c3, vr b11, vr b21, vr b34, vr b50, uu, uu, uu, uu, uu, uu, uu, uu, uu, uu, uu, uu, uu] [(.ref b69)])) _
  have Fs4 := F88
  rw [own_nar hc0.1 hc0.2, own_nar hc1.1 hc1.2, own_nar hc2.1 hc2.2, own_nar hc3.1 hc3.2] at Fs4
  refine own_gs (cur' := T88.setTop (mkF m 142 #[vi p0, vi p1, vi p2, vi p3, vi p4, vi c0, vi c1, vi c2, vi c3, vr b11, vr b21, vr b34, vr b50, vr b69, uu, uu, uu, uu, uu, uu, uu, uu, uu, uu, uu, uu] [(.int (p0 &&& (3 : Int32)))])) ?_ ?_
  · refine XS.astore X88.here hx rfl (hb hby at_137) rfl rfl (l' := #[vi p0, vi p1, vi p2, vi p3, vi p4, vi c0, vi c1, vi c2, vi c3, vr b11, vr b21, vr b34, vr b50, vr b69, uu, uu, uu, uu, uu, uu, uu, uu, uu, uu, uu, uu]) rfl ?_
    refine XS.iloadN X88.here hx rfl (hb hby at_139) rfl ?_
    refine XS.iconst X88.here hx rfl (hb hby at_140) ?_
    show Steps p.tables e below (T88.setTop (mkF m 141 #[vi p0, vi p1, vi p2, vi p3, vi p4, vi c0, vi c1, vi c2, vi c3, vr b11, vr b21, vr b34, vr b50, vr b69, uu, uu, uu, uu, uu, uu, uu, uu, uu, uu, uu, uu] [(.int (3 : Int32)), (.int p0)])) _
    refine XS.iand X88.here hx rfl (hb hby at_141) rfl ?_
    exact Steps.refl _
  rcases own_and3 p0 with hn | hn | hn | hn
  · rw [hn]
    show own_Fin p e below (T88.setTop (mkF m 142 #[vi p0, vi p1, vi p2, vi p3, vi p4, vi c0, vi c1, vi c2, vi c3, vr b11, vr b21, vr b34, vr b50, vr b69, uu, uu, uu, uu, uu, uu, uu, uu, uu, uu, uu, uu] [(.int (0 : Int32))])) _
    have f91 := ((((((((((((((((((((((Fs0.ext E21).ext E23).keep (Keep.of_wr W25) (ninS (own_ne (a := b11) (b := b23) (by omega)) nin0) (ninS (own_ne (a := t18) (b := b23) (by omega)) nin0)).keep Kq31 (ninS (own_ne (a := b11) (b := b21) (by omega)) nin0) (ninS (own_ne (a := t18) (b := b21) (by omega)) nin0)).ext E34).ext E36).keep (Keep.of_wr W38) (ninS (own_ne (a := b11) (b := b36) (by omega)) nin0) (ninS (own_ne (a := t18) (b := b36) (by omega)) nin0)).keep (Keep.of_wr W41) (ninS (own_ne (a := b11) (b := b36) (by omega)) nin0) (ninS (own_ne (a := t18) (b := b36) (by omega)) nin0)).keep Kq47 (ninS (own_ne (a := b11) (b := b34) (by omega)) nin0) (ninS (own_ne (a := t18) (b := b34) (by omega)) nin0)).ext E50).ext E52).keep (Keep.of_wr W54) (ninS (own_ne (a := b11) (b := b52) (by omega)) nin0) (ninS (own_ne (a := t18) (b := b52) (by omega)) nin0)).keep (Keep.of_wr W57) (ninS (own_ne (a := b11) (b := b52) (by omega)) nin0) (ninS (own_ne (a := t18) (b := b52) (by omega)) nin0)).keep (Keep.of_wr W60) (ninS (own_ne (a := b11) (b := b52) (by omega)) nin0) (ninS (own_ne (a := t18) (b := b52) (by omega)) nin0)).keep Kq66 (ninS (own_ne (a := b11) (b := b50) (by omega)) nin0) (ninS (own_ne (a := t18) (b := b50) (by omega)) nin0)).ext E69).ext E71).keep (Keep.of_wr W73) (ninS (own_ne (a := b11) (b := b71) (by omega)) nin0) (ninS (own_ne (a := t18) (b := b71) (by omega)) nin0)).keep (Keep.of_wr W76) (ninS (own_ne (a := b11) (b := b71) (by omega)) nin0) (ninS (own_ne (a := t18) (b := b71) (by omega)) nin0)).keep (Keep.of_wr W79) (ninS (own_ne (a := b11) (b := b71) (by omega)) nin0) (ninS (own_ne (a := t18) (b := b71) (by omega)) nin0)).keep (Keep.of_wr W82) (ninS (own_ne (a := b11) (b := b71) (by omega)) nin0) (ninS (own_ne (a := t18) (b := b71) (by omega)) nin0)).keep Kq88 (ninS (own_ne (a := b11) (b := b69) (by omega)) nin0) (ninS (own_ne (a := t18) (b := b69) (by omega)) nin0))
    refine own_gs (cur' := T88.setTop (mkF m 230 #[vi p0, vi p1, vi p2, vi p3, vi p4, vi c0, vi c1, vi c2, vi c3, vr b11, vr b21, vr b34, vr b50, vr b69, vi (0 : Int32), vr b11, vr b21, vi c0, vj (-3750763034362895579 : Int64), ss, vj (1099511628211 : Int64), ss, uu, uu, uu, uu] [(.ref b11)])) ?_ ?_
    · refine XS.istore X88.here hx rfl (hb hby at_142) rfl (l' := #[vi p0, vi p1, vi p2, vi p3, vi p4, vi c0, vi c1, vi c2, vi c3, vr b11, vr b21, vr b34, vr b50, vr b69, vi (0 : Int32), uu, uu, uu, uu, uu, uu, uu, uu, uu, uu, uu]) rfl ?_
      refine XS.iload X88.here hx rfl (hb hby at_144) rfl ?_
      refine XS.ifNo X88.here hx rfl (hb hby at_146) rfl ((if0 _ _).trans (teq ((by decide) : (0 : Int32) = (0 : Int32))).2) ?_
      show Steps p.tables e below (T88.setTop (mkF m 149 #[vi p0, vi p1, vi p2, vi p3, vi p4, vi c0, vi c1, vi c2, vi c3, vr b11, vr b21, vr b34, vr b50, vr b69, vi (0 : Int32), uu, uu, uu, uu, uu, uu, uu, uu, uu, uu, uu] [])) _
      refine XS.aload X88.here hx rfl (hb hby at_149) rfl rfl ?_
      refine XS.astore X88.here hx rfl (hb hby at_151) rfl rfl (l' := #[vi p0, vi p1, vi p2, vi p3, vi p4, vi c0, vi c1, vi c2, vi c3, vr b11, vr b21, vr b34, vr b50, vr b69, vi (0 : Int32), vr b11, uu, uu, uu, uu, uu, uu, uu, uu, uu, uu]) rfl ?_
      refine XS.aload X88.here hx rfl (hb hby at_153) rfl rfl ?_
      show Steps p.tables e below (T88.setTop (mkF m 155 #[vi p0, vi p1, vi p2, vi p3, vi p4, vi c0, vi c1, vi c2, vi c3, vr b11, vr b21, vr b34, vr b50, vr b69, vi (0 : Int32), vr b11, uu, uu, uu, uu, uu, uu, uu, uu, uu, uu] [(.ref b21)])) _
      refine XS.astore X88.here hx rfl (hb hby at_155) rfl rfl (l' := #[vi p0, vi p1, vi p2, vi p3, vi p4, vi c0, vi c1, vi c2, vi c3, vr b11, vr b21, vr b34, vr b50, vr b69, vi (0 : Int32), vr b11, vr b21, uu, uu, uu, uu, uu, uu, uu, uu, uu]) rfl ?_
      refine XS.iload X88.here hx rfl (hb hby at_157) rfl ?_
      refine XS.istore X88.here hx rfl (hb hby at_159) rfl (l' := #[vi p0, vi p1, vi p2, vi p3, vi p4, vi c0, vi c1, vi c2, vi c3, vr b11, vr b21, vr b34, vr b50, vr b69, vi (0 : Int32), vr b11, vr b21, vi c0, uu, uu, uu, uu, uu, uu, uu, uu]) rfl ?_
      show Steps p.tables e below (T88.setTop (mkF m 161 #[vi p0, vi p1, vi p2, vi p3, vi p4, vi c0, vi c1, vi c2, vi c3, vr b11, vr b21, vr b34, vr b50, vr b69, vi (0 : Int32), vr b11, vr b21, vi c0, uu, uu, uu, uu, uu, uu, uu, uu] [])) _
      refine XS.goto X88.here hx rfl (pc0 := 161) (pc' := 218) rfl (hb hby at_161) (by decide) (by decide) ?_
      refine X88.ldc2Long hx hown18 (mvT hZ18 (hw _ (List.mem_of_getElem? (i := 34) rfl))) (g := (mkF m 218 #[vi p0, vi p1, vi p2, vi p3, vi p4, vi c0, vi c1, vi c2, vi c3, vr b11, vr b21, vr b34, vr b50, vr b69, vi (0 : Int32), vr b11, vr b21, vi c0, uu, uu, uu, uu, uu, uu, uu, uu] [])) rfl (hb hby at_218) _ ?_
      refine XS.lstore X88.here hx rfl (hb hby at_221) rfl (l' := #[vi p0, vi p1, vi p2, vi p3, vi p4, vi c0, vi c1, vi c2, vi c3, vr b11, vr b21, vr b34, vr b50, vr b69, vi (0 : Int32), vr b11, vr b21, vi c0, vj (-3750763034362895579 : Int64), ss, uu, uu, uu, uu, uu, uu]) rfl ?_
      show Steps p.tables e below (T88.setTop (mkF m 223 #[vi p0, vi p1, vi p2, vi p3, vi p4, vi c0, vi c1, vi c2, vi c3, vr b11, vr b21, vr b34, vr b50, vr b69, vi (0 : Int32), vr b11, vr b21, vi c0, vj (-3750763034362895579 : Int64), ss, uu, uu, uu, uu, uu, uu] [])) _
      refine X88.ldc2Long hx hown18 (mvT hZ18 (hw _ (List.mem_of_getElem? (i := 35) rfl))) (g := (mkF m 223 #[vi p0, vi p1, vi p2, vi p3, vi p4, vi c0, vi c1, vi c2, vi c3, vr b11, vr b21, vr b34, vr b50, vr b69, vi (0 : Int32), vr b11, vr b21, vi c0, vj (-3750763034362895579 : Int64), ss, uu, uu, uu, uu, uu, uu] [])) rfl (hb hby at_223) _ ?_
      refine XS.lstore X88.here hx rfl (hb hby at_226) rfl (l' := #[vi p0, vi p1, vi p2, vi p3, vi p4, vi c0, vi c1, vi c2, vi c3, vr b11, vr b21, vr b34, vr b50, vr b69, vi (0 : Int32), vr b11, vr b21, vi c0, vj (-3750763034362895579 : Int64), ss, vj (1099511628211 : Int64), ss, uu, uu, uu, uu]) rfl ?_
      refine XS.aload X88.here hx rfl (hb hby at_228) rfl rfl ?_
      exact Steps.refl _
    obtain ⟨_, _, ⟨T92, L92, k92, n92⟩, -, X92, ⟨Lc92, hQ92, l92, y92, z92⟩, st92⟩ := Jvm.LawKit.callS X88 hx (y := (⟨"com/example/idunn/idunn/PathHashes", "hash", "(Ljava/lang/String;)J"⟩ : MethodName)) hown18 (mvT hZ18 (hw _ (List.mem_of_getElem? (i := 36) rfl))) (mvT hZ18 (hw _ (List.mem_of_getElem? (i := 37) rfl))) (mvT hZ18 (hw _ (List.mem_of_getElem? (i := 38) rfl))) (mvT hZ18 (hw _ (List.mem_of_getElem? (i := 39) rfl))) (by decide) (backOf (W := 0) (own_hash0 l Z a0 hW b11 t18  T88.heap n0 (by omega) O90 f91) hZ18 (hw _ (List.mem_of_getElem? (i := 39) rfl)) (hw _ (List.mem_of_getElem? (i := 38) rfl)) (by decide) (by decide)) (g := (mkF m 230 #[vi p0, vi p1, vi p2, vi p3, vi p4, vi c0, vi c1, vi c2, vi c3, vr b11, vr b21, vr b34, vr b50, vr b69, vi (0 : Int32), vr b11, vr b21, vi c0, vj (-3750763034362895579 : Int64), ss, vj (1099511628211 : Int64), ss, uu, uu, uu, uu] [(.ref b11)])) rfl (by rw [hml]; rfl) (argsL := [(.ref b11)]) (rest := []) (lenOf pd_16 rfl) rfl (by show 2 * 0 + _ ≤ _; exact Nat.le_of_eq rfl) (hb hby at_230) (fun _ _ => ⟨rfl, rfl, (by decide : 22 + 0 ≤ 48), (by decide : 68 + 0 ≤ 1216)⟩)
    dsimp only [Pt.U, Pt.locs, Pt.cells, Pt.slots] at X92 l92 y92 z92 st92 hQ92
    subst l92 y92 z92
    obtain ⟨rfl, Nq92, eh92⟩ := hQ92
    have N92 := Fr.app N88 Nq92
    refine own_go st92 ?_
    show own_Fin p e below (T92.setTop (mkF m 233 #[vi p0, vi p1, vi p2, vi p3, vi p4, vi c0, vi c1, vi c2, vi c3, vr b11, vr b21, vr b34, vr b50, vr b69, vi (0 : Int32), vr b11, vr b21, vi c0, vj (-3750763034362895579 : Int64), ss, vj (1099511628211 : Int64), ss, uu, uu, uu, uu] [(.long (own_fnv []))])) _
    refine own_gs (cur' := T92.setTop (mkF m 248 #[vi p0, vi p1, vi p2, vi p3, vi p4, vi c0, vi c1, vi c2, vi c3, vr b11, vr b21, vr b34, vr b50, vr b69, vi (0 : Int32), vr b11, vr b21, vi c0, vj (-3750763034362895579 : Int64), ss, vj (1099511628211 : Int64), ss, vi (1 : Int32), uu, uu, uu] [(.ref b11)])) ?_ ?_
    · refine XS.lload X92.here hx rfl (hb hby at_233) rfl ?_
      refine XS.lcmp X92.here hx rfl (hb hby at_235) rfl ?_
      refine XS.ifNo X92.here hx rfl (hb hby at_236) rfl ((if0 _ _).trans (teq (((lw_eq _ _).mpr rfl) : (lcmpW (own_fnv []) (-3750763034362895579 : Int64)) = (0 : Int32))).2) ?_
      show Steps p.tables e below (T92.setTop (mkF m 239 #[vi p0, vi p1, vi p2, vi p3, vi p4, vi c0, vi c1, vi c2, vi c3, vr b11, vr b21, vr b34, vr b50, vr b69, vi (0 : Int32), vr b11, vr b21, vi c0, vj (-3750763034362895579 : Int64), ss, vj (1099511628211 : Int64), ss, uu, uu, uu, uu] [])) _
      refine XS.iconst X92.here hx rfl (hb hby at_239) ?_
      refine XS.goto X92.here hx rfl (pc0 := 240) (pc' := 244) rfl (hb hby at_240) (by decide) (by decide) ?_
      refine XS.istore X92.here hx rfl (hb hby at_244) rfl (l' := #[vi p0, vi p1, vi p2, vi p3, vi p4, vi c0, vi c1, vi c2, vi c3, vr b11, vr b21, vr b34, vr b50, vr b69, vi (0 : Int32), vr b11, vr b21, vi c0, vj (-3750763034362895579 : Int64), ss, vj (1099511628211 : Int64), ss, vi (1 : Int32), uu, uu, uu]) rfl ?_
      show Steps p.tables e below (T92.setTop (mkF m 246 #[vi p0, vi p1, vi p2, vi p3, vi p4, vi c0, vi c1, vi c2, vi c3, vr b11, vr b21, vr b34, vr b50, vr b69, vi (0 : Int32), vr b11, vr b21, vi c0, vj (-3750763034362895579 : Int64), ss, vj (1099511628211 : Int64), ss, vi (1 : Int32), uu, uu, uu] [])) _
      refine XS.aload X92.here hx rfl (hb hby at_246) rfl rfl ?_
      exact Steps.refl _
    obtain ⟨_, _, ⟨T93, L93, k93, n93⟩, -, X93, ⟨Lc93, hQ93, l93, y93, z93⟩, st93⟩ := Jvm.LawKit.callS X92 hx (y := (⟨"com/example/idunn/idunn/PathHashes", "hash", "(Ljava/lang/String;)J"⟩ : MethodName)) hown18 (mvT hZ18 (hw _ (List.mem_of_getElem? (i := 36) rfl))) (mvT hZ18 (hw _ (List.mem_of_getElem? (i := 37) rfl))) (mvT hZ18 (hw _ (List.mem_of_getElem? (i := 38) rfl))) (mvT hZ18 (hw _ (List.mem_of_getElem? (i := 39) rfl))) (by decide) (backOf (W := 0) (own_hash0 l Z a0 hW b11 t18  T88.heap n0 (by omega) O90 f91) hZ18 (hw _ (List.mem_of_getElem? (i := 39) rfl)) (hw _ (List.mem_of_getElem? (i := 38) rfl)) (by decide) (by decide)) (g := (mkF m 248 #[vi p0, vi p1, vi p2, vi p3, vi p4, vi c0, vi c1, vi c2, vi c3, vr b11, vr b21, vr b34, vr b50, vr b69, vi (0 : Int32), vr b11, vr b21, vi c0, vj (-3750763034362895579 : Int64), ss, vj (1099511628211 : Int64), ss, vi (1 : Int32), uu, uu, uu] [(.ref b11)])) rfl (by rw [hml]; rfl) (argsL := [(.ref b11)]) (rest := []) (lenOf pd_16 rfl) rfl (by show 2 * 0 + _ ≤ _; exact Nat.le_of_eq rfl) (hb hby at_248) (fun _ _ => ⟨rfl, eh92, (by decide : 22 + 0 ≤ 48), (by decide : 68 + 0 ≤ 1216)⟩)
    dsimp only [Pt.U, Pt.locs, Pt.cells, Pt.slots] at X93 l93 y93 z93 st93 hQ93
    subst l93 y93 z93
    obtain ⟨rfl, Nq93, eh93⟩ := hQ93
    have N93 := Fr.app N92 Nq93
    refine own_go st93 ?_
    show own_Fin p e below (T93.setTop (mkF m 251 #[vi p0, vi p1, vi p2, vi p3, vi p4, vi c0, vi c1, vi c2, vi c3, vr b11, vr b21, vr b34, vr b50, vr b69, vi (0 : Int32), vr b11, vr b21, vi c0, vj (-3750763034362895579 : Int64), ss, vj (1099511628211 : Int64), ss, vi (1 : Int32), uu, uu, uu] [(.long (own_fnv []))])) _
    have f94 := ((((((((((((((((((Fs1.ext E34).ext E36).keep (Keep.of_wr W38) (ninS (own_ne (a := b21) (b := b36) (by omega)) nin0) (ninS (own_ne (a := t31) (b := b36) (by omega)) nin0)).keep (Keep.of_wr W41) (ninS (own_ne (a := b21) (b := b36) (by omega)) nin0) (ninS (own_ne (a := t31) (b := b36) (by omega)) nin0)).keep Kq47 (ninS (own_ne (a := b21) (b := b34) (by omega)) nin0) (ninS (own_ne (a := t31) (b := b34) (by omega)) nin0)).ext E50).ext E52).keep (Keep.of_wr W54) (ninS (own_ne (a := b21) (b := b52) (by omega)) nin0) (ninS (own_ne (a := t31) (b := b52) (by omega)) nin0)).keep (Keep.of_wr W57) (ninS (own_ne (a := b21) (b := b52) (by omega)) nin0) (ninS (own_ne (a := t31) (b := b52) (by omega)) nin0)).keep (Keep.of_wr W60) (ninS (own_ne (a := b21) (b := b52) (by omega)) nin0) (ninS (own_ne (a := t31) (b := b52) (by omega)) nin0)).keep Kq66 (ninS (own_ne (a := b21) (b := b50) (by omega)) nin0) (ninS (own_ne (a := t31) (b := b50) (by omega)) nin0)).ext E69).ext E71).keep (Keep.of_wr W73) (ninS (own_ne (a := b21) (b := b71) (by omega)) nin0) (ninS (own_ne (a := t31) (b := b71) (by omega)) nin0)).keep (Keep.of_wr W76) (ninS (own_ne (a := b21) (b := b71) (by omega)) nin0) (ninS (own_ne (a := t31) (b := b71) (by omega)) nin0)).keep (Keep.of_wr W79) (ninS (own_ne (a := b21) (b := b71) (by omega)) nin0) (ninS (own_ne (a := t31) (b := b71) (by omega)) nin0)).keep (Keep.of_wr W82) (ninS (own_ne (a := b21) (b := b71) (by omega)) nin0) (ninS (own_ne (a := t31) (b := b71) (by omega)) nin0)).keep Kq88 (ninS (own_ne (a := b21) (b := b69) (by omega)) nin0) (ninS (own_ne (a := t31) (b := b69) (by omega)) nin0))
    refine own_gs (cur' := T93.setTop (mkF m 262 #[vi p0, vi p1, vi p2, vi p3, vi p4, vi c0, vi c1, vi c2, vi c3, vr b11, vr b21, vr b34, vr b50, vr b69, vi (0 : Int32), vr b11, vr b21, vi c0, vj (-3750763034362895579 : Int64), ss, vj (1099511628211 : Int64), ss, vi (1 : Int32), vj (((own_fnv []) ^^^ (c0.toInt64)) * (1099511628211 : Int64)), ss, uu] [(.ref b21)])) ?_ ?_
    · refine XS.iload X93.here hx rfl (hb hby at_251) rfl ?_
      refine XS.i2l X93.here hx rfl (hb hby at_253) rfl ?_
      refine XS.lxor X93.here hx rfl (hb hby at_254) rfl ?_
      show Steps p.tables e below (T93.setTop (mkF m 255 #[vi p0, vi p1, vi p2, vi p3, vi p4, vi c0, vi c1, vi c2, vi c3, vr b11, vr b21, vr b34, vr b50, vr b69, vi (0 : Int32), vr b11, vr b21, vi c0, vj (-3750763034362895579 : Int64), ss, vj (1099511628211 : Int64), ss, vi (1 : Int32), uu, uu, uu] [(.long ((own_fnv []) ^^^ (c0.toInt64)))])) _
      refine XS.lload X93.here hx rfl (hb hby at_255) rfl ?_
      refine XS.lmul X93.here hx rfl (hb hby at_257) rfl ?_
      refine XS.lstore X93.here hx rfl (hb hby at_258) rfl (l' := #[vi p0, vi p1, vi p2, vi p3, vi p4, vi c0, vi c1, vi c2, vi c3, vr b11, vr b21, vr b34, vr b50, vr b69, vi (0 : Int32), vr b11, vr b21, vi c0, vj (-3750763034362895579 : Int64), ss, vj (1099511628211 : Int64), ss, vi (1 : Int32), vj (((own_fnv []) ^^^ (c0.toInt64)) * (1099511628211 : Int64)), ss, uu]) rfl ?_
      show Steps p.tables e below (T93.setTop (mkF m 260 #[vi p0, vi p1, vi p2, vi p3, vi p4, vi c0, vi c1, vi c2, vi c3, vr b11, vr b21, vr b34, vr b50, vr b69, vi (0 : Int32), vr b11, vr b21, vi c0, vj (-3750763034362895579 : Int64), ss, vj (1099511628211 : Int64), ss, vi (1 : Int32), vj (((own_fnv []) ^^^ (c0.toInt64)) * (1099511628211 : Int64)), ss, uu] [])) _
      refine XS.aload X93.here hx rfl (hb hby at_260) rfl rfl ?_
      exact Steps.refl _
    obtain ⟨_, _, ⟨T95, L95, k95, n95⟩, -, X95, ⟨Lc95, hQ95, l95, y95, z95⟩, st95⟩ := Jvm.LawKit.callS X93 hx (y := (⟨"com/example/idunn/idunn/PathHashes", "hash", "(Ljava/lang/String;)J"⟩ : MethodName)) hown18 (mvT hZ18 (hw _ (List.mem_of_getElem? (i := 36) rfl))) (mvT hZ18 (hw _ (List.mem_of_getElem? (i := 37) rfl))) (mvT hZ18 (hw _ (List.mem_of_getElem? (i := 38) rfl))) (mvT hZ18 (hw _ (List.mem_of_getElem? (i := 39) rfl))) (by decide) (backOf (W := 0) (own_hash1 l Z a0 hW b21 t31 c0 T88.heap n0 (by omega) O90 f94) hZ18 (hw _ (List.mem_of_getElem? (i := 39) rfl)) (hw _ (List.mem_of_getElem? (i := 38) rfl)) (by decide) (by decide)) (g := (mkF m 262 #[vi p0, vi p1, vi p2, vi p3, vi p4, vi c0, vi c1, vi c2, vi c3, vr b11, vr b21, vr b34, vr b50, vr b69, vi (0 : Int32), vr b11, vr b21, vi c0, vj (-3750763034362895579 : Int64), ss, vj (1099511628211 : Int64), ss, vi (1 : Int32), vj (((own_fnv []) ^^^ (c0.toInt64)) * (1099511628211 : Int64)), ss, uu] [(.ref b21)])) rfl (by rw [hml]; rfl) (argsL := [(.ref b21)]) (rest := []) (lenOf pd_16 rfl) rfl (by show 2 * 0 + _ ≤ _; exact Nat.le_of_eq rfl) (hb hby at_262) (fun _ _ => ⟨rfl, eh93, (by decide : 22 + 0 ≤ 48), (by decide : 68 + 0 ≤ 1216)⟩)
    dsimp only [Pt.U, Pt.locs, Pt.cells, Pt.slots] at X95 l95 y95 z95 st95 hQ95
    subst l95 y95 z95
    obtain ⟨rfl, Nq95, eh95⟩ := hQ95
    have N95 := Fr.app N93 Nq95
    refine own_go st95 ?_
    show own_Fin p e below (T95.setTop (mkF m 265 #[vi p0, vi p1, vi p2, vi p3, vi p4, vi c0, vi c1, vi c2, vi c3, vr b11, vr b21, vr b34, vr b50, vr b69, vi (0 : Int32), vr b11, vr b21, vi c0, vj (-3750763034362895579 : Int64), ss, vj (1099511628211 : Int64), ss, vi (1 : Int32), vj (((own_fnv []) ^^^ (c0.toInt64)) * (1099511628211 : Int64)), ss, uu] [(.long (own_fnv [c0]))])) _
    refine own_gs (cur' := T95.setTop (mkF m 293 #[vi p0, vi p1, vi p2, vi p3, vi p4, vi c0, vi c1, vi c2, vi c3, vr b11, vr b21, vr b34, vr b50, vr b69, vi (0 : Int32), vr b11, vr b21, vi c0, vj (-3750763034362895579 : Int64), ss, vj (1099511628211 : Int64), ss, vi (1 : Int32), vj (((own_fnv []) ^^^ (c0.toInt64)) * (1099511628211 : Int64)), ss, vi (1 : Int32)] [(.int (1 : Int32))])) ?_ ?_
    · refine XS.lload X95.here hx rfl (hb hby at_265) rfl ?_
      refine XS.lcmp X95.here hx rfl (hb hby at_267) rfl ?_
      refine XS.ifNo X95.here hx rfl (hb hby at_268) rfl ((if0 _ _).trans (teq (((lw_eq _ _).mpr rfl) : (lcmpW (own_fnv [c0]) (((own_fnv []) ^^^ (c0.toInt64)) * (1099511628211 : Int64))) = (0 : Int32))).2) ?_
      show Steps p.tables e below (T95.setTop (mkF m 271 #[vi p0, vi p1, vi p2, vi p3, vi p4, vi c0, vi c1, vi c2, vi c3, vr b11, vr b21, vr b34, vr b50, vr b69, vi (0 : Int32), vr b11, vr b21, vi c0, vj (-3750763034362895579 : Int64), ss, vj (1099511628211 : Int64), ss, vi (1 : Int32), vj (((own_fnv []) ^^^ (c0.toInt64)) * (1099511628211 : Int64)), ss, uu] [])) _
      refine XS.iconst X95.here hx rfl (hb hby at_271) ?_
      refine XS.goto X95.here hx rfl (pc0 := 272) (pc' := 276) rfl (hb hby at_272) (by decide) (by decide) ?_
      refine XS.istore X95.here hx rfl (hb hby at_276) rfl (l' := #[vi p0, vi p1, vi p2, vi p3, vi p4, vi c0, vi c1, vi c2, vi c3, vr b11, vr b21, vr b34, vr b50, vr b69, vi (0 : Int32), vr b11, vr b21, vi c0, vj (-3750763034362895579 : Int64), ss, vj (1099511628211 : Int64), ss, vi (1 : Int32), vj (((own_fnv []) ^^^ (c0.toInt64)) * (1099511628211 : Int64)), ss, vi (1 : Int32)]) rfl ?_
      show Steps p.tables e below (T95.setTop (mkF m 278 #[vi p0, vi p1, vi p2, vi p3, vi p4, vi c0, vi c1, vi c2, vi c3, vr b11, vr b21, vr b34, vr b50, vr b69, vi (0 : Int32), vr b11, vr b21, vi c0, vj (-3750763034362895579 : Int64), ss, vj (1099511628211 : Int64), ss, vi (1 : Int32), vj (((own_fnv []) ^^^ (c0.toInt64)) * (1099511628211 : Int64)), ss, vi (1 : Int32)] [])) _
      refine XS.iload X95.here hx rfl (hb hby at_278) rfl ?_
      refine XS.ifNo X95.here hx rfl (hb hby at_280) rfl ((if0 _ _).trans (feq ((by decide) : ¬ ((1 : Int32) = (0 : Int32)))).1) ?_
      refine XS.iload X95.here hx rfl (hb hby at_283) rfl ?_
      show Steps p.tables e below (T95.setTop (mkF m 285 #[vi p0, vi p1, vi p2, vi p3, vi p4, vi c0, vi c1, vi c2, vi c3, vr b11, vr b21, vr b34, vr b50, vr b69, vi (0 : Int32), vr b11, vr b21, vi c0, vj (-3750763034362895579 : Int64), ss, vj (1099511628211 : Int64), ss, vi (1 : Int32), vj (((own_fnv []) ^^^ (c0.toInt64)) * (1099511628211 : Int64)), ss, vi (1 : Int32)] [(.int (1 : Int32))])) _
      refine XS.ifNo X95.here hx rfl (hb hby at_285) rfl ((if0 _ _).trans (feq ((by decide) : ¬ ((1 : Int32) = (0 : Int32)))).1) ?_
      refine XS.iconst X95.here hx rfl (hb hby at_288) ?_
      refine XS.goto X95.here hx rfl (pc0 := 289) (pc' := 293) rfl (hb hby at_289) (by decide) (by decide) ?_
      exact Steps.refl _
    obtain ⟨fs, hr, hrun, hended, hRE⟩ := X95.leaveW hS18 (show T18.heap.size ≤ T95.heap.size by rw [eh95]; omega) (v := (some (.int (1 : Int32)))) (fun h => by rw [Bd.returns] at h; cases h)
    refine ⟨_, _, retN X95 hx (t := .boolean) Bd.returns (by simp) (hb hby at_293) hr, hrun, hended, _, _, rfl, ?_, ?_, hRE.1, hRE.2.1, hRE.2.2.1, hRE.2.2.2.mono (by decide) (by decide)⟩
    · show own_law_Q Z p0 p1 p2 p3 p4 h0 n0 (some (.int (1 : Int32))) T95.heap _
      rw [eh95]
      exact ⟨rfl, N95⟩
    · have hfin := CH90.trans (CHv.at X95 hZ18 hEL CH90.1)
      rw [hh]
      show CHr Z own_EL s.vm h0 T95.vm T95.heap
      rw [eh95]
      exact hfin
  · rw [hn]
    show own_Fin p e below (T88.setTop (mkF m 142 #[vi p0, vi p1, vi p2, vi p3, vi p4, vi c0, vi c1, vi c2, vi c3, vr b11, vr b21, vr b34, vr b50, vr b69, uu, uu, uu, uu, uu, uu, uu, uu, uu, uu, uu, uu] [(.int (1 : Int32))])) _
    have f96 := ((((((((((((((((((((((Fs0.ext E21).ext E23).keep (Keep.of_wr W25) (ninS (own_ne (a := b11) (b := b23) (by omega)) nin0) (ninS (own_ne (a := t18) (b := b23) (by omega)) nin0)).keep Kq31 (ninS (own_ne (a := b11) (b := b21) (by omega)) nin0) (ninS (own_ne (a := t18) (b := b21) (by omega)) nin0)).ext E34).ext E36).keep (Keep.of_wr W38) (ninS (own_ne (a := b11) (b := b36) (by omega)) nin0) (ninS (own_ne (a := t18) (b := b36) (by omega)) nin0)).keep (Keep.of_wr W41) (ninS (own_ne (a := b11) (b := b36) (by omega)) nin0) (ninS (own_ne (a := t18) (b := b36) (by omega)) nin0)).keep Kq47 (ninS (own_ne (a := b11) (b := b34) (by omega)) nin0) (ninS (own_ne (a := t18) (b := b34) (by omega)) nin0)).ext E50).ext E52).keep (Keep.of_wr W54) (ninS (own_ne (a := b11) (b := b52) (by omega)) nin0) (ninS (own_ne (a := t18) (b := b52) (by omega)) nin0)).keep (Keep.of_wr W57) (ninS (own_ne (a := b11) (b := b52) (by omega)) nin0) (ninS (own_ne (a := t18) (b := b52) (by omega)) nin0)).keep (Keep.of_wr W60) (ninS (own_ne (a := b11) (b := b52) (by omega)) nin0) (ninS (own_ne (a := t18) (b := b52) (by omega)) nin0)).keep Kq66 (ninS (own_ne (a := b11) (b := b50) (by omega)) nin0) (ninS (own_ne (a := t18) (b := b50) (by omega)) nin0)).ext E69).ext E71).keep (Keep.of_wr W73) (ninS (own_ne (a := b11) (b := b71) (by omega)) nin0) (ninS (own_ne (a := t18) (b := b71) (by omega)) nin0)).keep (Keep.of_wr W76) (ninS (own_ne (a := b11) (b := b71) (by omega)) nin0) (ninS (own_ne (a := t18) (b := b71) (by omega)) nin0)).keep (Keep.of_wr W79) (ninS (own_ne (a := b11) (b := b71) (by omega)) nin0) (ninS (own_ne (a := t18) (b := b71) (by omega)) nin0)).keep (Keep.of_wr W82) (ninS (own_ne (a := b11) (b := b71) (by omega)) nin0) (ninS (own_ne (a := t18) (b := b71) (by omega)) nin0)).keep Kq88 (ninS (own_ne (a := b11) (b := b69) (by omega)) nin0) (ninS (own_ne (a := t18) (b := b69) (by omega)) nin0))
    refine own_gs (cur' := T88.setTop (mkF m 230 #[vi p0, vi p1, vi p2, vi p3, vi p4, vi c0, vi c1, vi c2, vi c3, vr b11, vr b21, vr b34, vr b50, vr b69, vi (1 : Int32), vr b21, vr b34, vi c1, vj (-3750763034362895579 : Int64), ss, vj (1099511628211 : Int64), ss, uu, uu, uu, uu] [(.ref b11)])) ?_ ?_
    · refine XS.istore X88.here hx rfl (hb hby at_142) rfl (l' := #[vi p0, vi p1, vi p2, vi p3, vi p4, vi c0, vi c1, vi c2, vi c3, vr b11, vr b21, vr b34, vr b50, vr b69, vi (1 : Int32), uu, uu, uu, uu, uu, uu, uu, uu, uu, uu, uu]) rfl ?_
      refine XS.iload X88.here hx rfl (hb hby at_144) rfl ?_
      refine XS.ifYes X88.here hx rfl (pc0 := 146) (pc' := 164) rfl (hb hby at_146) rfl ((if0 _ _).trans (feq ((by decide) : ¬ ((1 : Int32) = (0 : Int32)))).2) (by decide) (by decide) ?_
      show Steps p.tables e below (T88.setTop (mkF m 164 #[vi p0, vi p1, vi p2, vi p3, vi p4, vi c0, vi c1, vi c2, vi c3, vr b11, vr b21, vr b34, vr b50, vr b69, vi (1 : Int32), uu, uu, uu, uu, uu, uu, uu, uu, uu, uu, uu] [])) _
      refine XS.iload X88.here hx rfl (hb hby at_164) rfl ?_
      refine XS.iconst X88.here hx rfl (hb hby at_166) ?_
      refine XS.icmpNo X88.here hx rfl (hb hby at_167) rfl (teq ((by decide) : (1 : Int32) = (1 : Int32))).2 ?_
      show Steps p.tables e below (T88.setTop (mkF m 170 #[vi p0, vi p1, vi p2, vi p3, vi p4, vi c0, vi c1, vi c2, vi c3, vr b11, vr b21, vr b34, vr b50, vr b69, vi (1 : Int32), uu, uu, uu, uu, uu, uu, uu, uu, uu, uu, uu] [])) _
      refine XS.aload X88.here hx rfl (hb hby at_170) rfl rfl ?_
      refine XS.astore X88.here hx rfl (hb hby at_172) rfl rfl (l' := #[vi p0, vi p1, vi p2, vi p3, vi p4, vi c0, vi c1, vi c2, vi c3, vr b11, vr b21, vr b34, vr b50, vr b69, vi (1 : Int32), vr b21, uu, uu, uu, uu, uu, uu, uu, uu, uu, uu]) rfl ?_
      refine XS.aload X88.here hx rfl (hb hby at_174) rfl rfl ?_
      show Steps p.tables e below (T88.setTop (mkF m 176 #[vi p0, vi p1, vi p2, vi p3, vi p4, vi c0, vi c1, vi c2, vi c3, vr b11, vr b21, vr b34, vr b50, vr b69, vi (1 : Int32), vr b21, uu, uu, uu, uu, uu, uu, uu, uu, uu, uu] [(.ref b34)])) _
      refine XS.astore X88.here hx rfl (hb hby at_176) rfl rfl (l' := #[vi p0, vi p1, vi p2, vi p3, vi p4, vi c0, vi c1, vi c2, vi c3, vr b11, vr b21, vr b34, vr b50, vr b69, vi (1 : Int32), vr b21, vr b34, uu, uu, uu, uu, uu, uu, uu, uu, uu]) rfl ?_
      refine XS.iload X88.here hx rfl (hb hby at_178) rfl ?_
      refine XS.istore X88.here hx rfl (hb hby at_180) rfl (l' := #[vi p0, vi p1, vi p2, vi p3, vi p4, vi c0, vi c1, vi c2, vi c3, vr b11, vr b21, vr b34, vr b50, vr b69, vi (1 : Int32), vr b21, vr b34, vi c1, uu, uu, uu, uu, uu, uu, uu, uu]) rfl ?_
      show Steps p.tables e below (T88.setTop (mkF m 182 #[vi p0, vi p1, vi p2, vi p3, vi p4, vi c0, vi c1, vi c2, vi c3, vr b11, vr b21, vr b34, vr b50, vr b69, vi (1 : Int32), vr b21, vr b34, vi c1, uu, uu, uu, uu, uu, uu, uu, uu] [])) _
      refine XS.goto X88.here hx rfl (pc0 := 182) (pc' := 218) rfl (hb hby at_182) (by decide) (by decide) ?_
      refine X88.ldc2Long hx hown18 (mvT hZ18 (hw _ (List.mem_of_getElem? (i := 34) rfl))) (g := (mkF m 218 #[vi p0, vi p1, vi p2, vi p3, vi p4, vi c0, vi c1, vi c2, vi c3, vr b11, vr b21, vr b34, vr b50, vr b69, vi (1 : Int32), vr b21, vr b34, vi c1, uu, uu, uu, uu, uu, uu, uu, uu] [])) rfl (hb hby at_218) _ ?_
      refine XS.lstore X88.here hx rfl (hb hby at_221) rfl (l' := #[vi p0, vi p1, vi p2, vi p3, vi p4, vi c0, vi c1, vi c2, vi c3, vr b11, vr b21, vr b34, vr b50, vr b69, vi (1 : Int32), vr b21, vr b34, vi c1, vj (-3750763034362895579 : Int64), ss, uu, uu, uu, uu, uu, uu]) rfl ?_
      show Steps p.tables e below (T88.setTop (mkF m 223 #[vi p0, vi p1, vi p2, vi p3, vi p4, vi c0, vi c1, vi c2, vi c3, vr b11, vr b21, vr b34, vr b50, vr b69, vi (1 : Int32), vr b21, vr b34, vi c1, vj (-3750763034362895579 : Int64), ss, uu, uu, uu, uu, uu, uu] [])) _
      refine X88.ldc2Long hx hown18 (mvT hZ18 (hw _ (List.mem_of_getElem? (i := 35) rfl))) (g := (mkF m 223 #[vi p0, vi p1, vi p2, vi p3, vi p4, vi c0, vi c1, vi c2, vi c3, vr b11, vr b21, vr b34, vr b50, vr b69, vi (1 : Int32), vr b21, vr b34, vi c1, vj (-3750763034362895579 : Int64), ss, uu, uu, uu, uu, uu, uu] [])) rfl (hb hby at_223) _ ?_
      refine XS.lstore X88.here hx rfl (hb hby at_226) rfl (l' := #[vi p0, vi p1, vi p2, vi p3, vi p4, vi c0, vi c1, vi c2, vi c3, vr b11, vr b21, vr b34, vr b50, vr b69, vi (1 : Int32), vr b21, vr b34, vi c1, vj (-3750763034362895579 : Int64), ss, vj (1099511628211 : Int64), ss, uu, uu, uu, uu]) rfl ?_
      refine XS.aload X88.here hx rfl (hb hby at_228) rfl rfl ?_
      exact Steps.refl _
    obtain ⟨_, _, ⟨T97, L97, k97, n97⟩, -, X97, ⟨Lc97, hQ97, l97, y97, z97⟩, st97⟩ := Jvm.LawKit.callS X88 hx (y := (⟨"com/example/idunn/idunn/PathHashes", "hash", "(Ljava/lang/String;)J"⟩ : MethodName)) hown18 (mvT hZ18 (hw _ (List.mem_of_getElem? (i := 36) rfl))) (mvT hZ18 (hw _ (List.mem_of_getElem? (i := 37) rfl))) (mvT hZ18 (hw _ (List.mem_of_getElem? (i := 38) rfl))) (mvT hZ18 (hw _ (List.mem_of_getElem? (i := 39) rfl))) (by decide) (backOf (W := 0) (own_hash0 l Z a0 hW b11 t18  T88.heap n0 (by omega) O90 f96) hZ18 (hw _ (List.mem_of_getElem? (i := 39) rfl)) (hw _ (List.mem_of_getElem? (i := 38) rfl)) (by decide) (by decide)) (g := (mkF m 230 #[vi p0, vi p1, vi p2, vi p3, vi p4, vi c0, vi c1, vi c2, vi c3, vr b11, vr b21, vr b34, vr b50, vr b69, vi (1 : Int32), vr b21, vr b34, vi c1, vj (-3750763034362895579 : Int64), ss, vj (1099511628211 : Int64), ss, uu, uu, uu, uu] [(.ref b11)])) rfl (by rw [hml]; rfl) (argsL := [(.ref b11)]) (rest := []) (lenOf pd_16 rfl) rfl (by show 2 * 0 + _ ≤ _; exact Nat.le_of_eq rfl) (hb hby at_230) (fun _ _ => ⟨rfl, rfl, (by decide : 22 + 0 ≤ 48), (by decide : 68 + 0 ≤ 1216)⟩)
    dsimp only [Pt.U, Pt.locs, Pt.cells, Pt.slots] at X97 l97 y97 z97 st97 hQ97
    subst l97 y97 z97
    obtain ⟨rfl, Nq97, eh97⟩ := hQ97
    have N97 := Fr.app N88 Nq97
    refine own_go st97 ?_
    show own_Fin p e below (T97.setTop (mkF m 233 #[vi p0, vi p1, vi p2, vi p3, vi p4, vi c0, vi c1, vi c2, vi c3, vr b11, vr b21, vr b34, vr b50, vr b69, vi (1 : Int32), vr b21, vr b34, vi c1, vj (-3750763034362895579 : Int64), ss, vj (1099511628211 : Int64), ss, uu, uu, uu, uu] [(.long (own_fnv []))])) _
    have f98 := ((((((((((((((((((Fs1.ext E34).ext E36).keep (Keep.of_wr W38) (ninS (own_ne (a := b21) (b := b36) (by omega)) nin0) (ninS (own_ne (a := t31) (b := b36) (by omega)) nin0)).keep (Keep.of_wr W41) (ninS (own_ne (a := b21) (b := b36) (by omega)) nin0) (ninS (own_ne (a := t31) (b := b36) (by omega)) nin0)).keep Kq47 (ninS (own_ne (a := b21) (b := b34) (by omega)) nin0) (ninS (own_ne (a := t31) (b := b34) (by omega)) nin0)).ext E50).ext E52).keep (Keep.of_wr W54) (ninS (own_ne (a := b21) (b := b52) (by omega)) nin0) (ninS (own_ne (a := t31) (b := b52) (by omega)) nin0)).keep (Keep.of_wr W57) (ninS (own_ne (a := b21) (b := b52) (by omega)) nin0) (ninS (own_ne (a := t31) (b := b52) (by omega)) nin0)).keep (Keep.of_wr W60) (ninS (own_ne (a := b21) (b := b52) (by omega)) nin0) (ninS (own_ne (a := t31) (b := b52) (by omega)) nin0)).keep Kq66 (ninS (own_ne (a := b21) (b := b50) (by omega)) nin0) (ninS (own_ne (a := t31) (b := b50) (by omega)) nin0)).ext E69).ext E71).keep (Keep.of_wr W73) (ninS (own_ne (a := b21) (b := b71) (by omega)) nin0) (ninS (own_ne (a := t31) (b := b71) (by omega)) nin0)).keep (Keep.of_wr W76) (ninS (own_ne (a := b21) (b := b71) (by omega)) nin0) (ninS (own_ne (a := t31) (b := b71) (by omega)) nin0)).keep (Keep.of_wr W79) (ninS (own_ne (a := b21) (b := b71) (by omega)) nin0) (ninS (own_ne (a := t31) (b := b71) (by omega)) nin0)).keep (Keep.of_wr W82) (ninS (own_ne (a := b21) (b := b71) (by omega)) nin0) (ninS (own_ne (a := t31) (b := b71) (by omega)) nin0)).keep Kq88 (ninS (own_ne (a := b21) (b := b69) (by omega)) nin0) (ninS (own_ne (a := t31) (b := b69) (by omega)) nin0))
    refine own_gs (cur' := T97.setTop (mkF m 248 #[vi p0, vi p1, vi p2, vi p3, vi p4, vi c0, vi c1, vi c2, vi c3, vr b11, vr b21, vr b34, vr b50, vr b69, vi (1 : Int32), vr b21, vr b34, vi c1, vj (-3750763034362895579 : Int64), ss, vj (1099511628211 : Int64), ss, vi (1 : Int32), uu, uu, uu] [(.ref b21)])) ?_ ?_
    · refine XS.lload X97.here hx rfl (hb hby at_233) rfl ?_
      refine XS.lcmp X97.here hx rfl (hb hby at_235) rfl ?_
      refine XS.ifNo X97.here hx rfl (hb hby at_236) rfl ((if0 _ _).trans (teq (((lw_eq _ _).mpr rfl) : (lcmpW (own_fnv []) (-3750763034362895579 : Int64)) = (0 : Int32))).2) ?_
      show Steps p.tables e below (T97.setTop (mkF m 239 #[vi p0, vi p1, vi p2, vi p3, vi p4, vi c0, vi c1, vi c2, vi c3, vr b11, vr b21, vr b34, vr b50, vr b69, vi (1 : Int32), vr b21, vr b34, vi c1, vj (-3750763034362895579 : Int64), ss, vj (1099511628211 : Int64), ss, uu, uu, uu, uu] [])) _
      refine XS.iconst X97.here hx rfl (hb hby at_239) ?_
      refine XS.goto X97.here hx rfl (pc0 := 240) (pc' := 244) rfl (hb hby at_240) (by decide) (by decide) ?_
      refine XS.istore X97.here hx rfl (hb hby at_244) rfl (l' := #[vi p0, vi p1, vi p2, vi p3, vi p4, vi c0, vi c1, vi c2, vi c3, vr b11, vr b21, vr b34, vr b50, vr b69, vi (1 : Int32), vr b21, vr b34, vi c1, vj (-3750763034362895579 : Int64), ss, vj (1099511628211 : Int64), ss, vi (1 : Int32), uu, uu, uu]) rfl ?_
      show Steps p.tables e below (T97.setTop (mkF m 246 #[vi p0, vi p1, vi p2, vi p3, vi p4, vi c0, vi c1, vi c2, vi c3, vr b11, vr b21, vr b34, vr b50, vr b69, vi (1 : Int32), vr b21, vr b34, vi c1, vj (-3750763034362895579 : Int64), ss, vj (1099511628211 : Int64), ss, vi (1 : Int32), uu, uu, uu] [])) _
      refine XS.aload X97.here hx rfl (hb hby at_246) rfl rfl ?_
      exact Steps.refl _
    obtain ⟨_, _, ⟨T99, L99, k99, n99⟩, -, X99, ⟨Lc99, hQ99, l99, y99, z99⟩, st99⟩ := Jvm.LawKit.callS X97 hx (y := (⟨"com/example/idunn/idunn/PathHashes", "hash", "(Ljava/lang/String;)J"⟩ : MethodName)) hown18 (mvT hZ18 (hw _ (List.mem_of_getElem? (i := 36) rfl))) (mvT hZ18 (hw _ (List.mem_of_getElem? (i := 37) rfl))) (mvT hZ18 (hw _ (List.mem_of_getElem? (i := 38) rfl))) (mvT hZ18 (hw _ (List.mem_of_getElem? (i := 39) rfl))) (by decide) (backOf (W := 0) (own_hash1 l Z a0 hW b21 t31 c0 T88.heap n0 (by omega) O90 f98) hZ18 (hw _ (List.mem_of_getElem? (i := 39) rfl)) (hw _ (List.mem_of_getElem? (i := 38) rfl)) (by decide) (by decide)) (g := (mkF m 248 #[vi p0, vi p1, vi p2, vi p3, vi p4, vi c0, vi c1, vi c2, vi c3, vr b11, vr b21, vr b34, vr b50, vr b69, vi (1 : Int32), vr b21, vr b34, vi c1, vj (-3750763034362895579 : Int64), ss, vj (1099511628211 : Int64), ss, vi (1 : Int32), uu, uu, uu] [(.ref b21)])) rfl (by rw [hml]; rfl) (argsL := [(.ref b21)]) (rest := []) (lenOf pd_16 rfl) rfl (by show 2 * 0 + _ ≤ _; exact Nat.le_of_eq rfl) (hb hby at_248) (fun _ _ => ⟨rfl, eh97, (by decide : 22 + 0 ≤ 48), (by decide : 68 + 0 ≤ 1216)⟩)
    dsimp only [Pt.U, Pt.locs, Pt.cells, Pt.slots] at X99 l99 y99 z99 st99 hQ99
    subst l99 y99 z99
    obtain ⟨rfl, Nq99, eh99⟩ := hQ99
    have N99 := Fr.app N97 Nq99
    refine own_go st99 ?_
    show own_Fin p e below (T99.setTop (mkF m 251 #[vi p0, vi p1, vi p2, vi p3, vi p4, vi c0, vi c1, vi c2, vi c3, vr b11, vr b21, vr b34, vr b50, vr b69, vi (1 : Int32), vr b21, vr b34, vi c1, vj (-3750763034362895579 : Int64), ss, vj (1099511628211 : Int64), ss, vi (1 : Int32), uu, uu, uu] [(.long (own_fnv [c0]))])) _
    have f100 := (((((((((((((Fs2.ext E50).ext E52).keep (Keep.of_wr W54) (ninS (own_ne (a := b34) (b := b52) (by omega)) nin0) (ninS (own_ne (a := t47) (b := b52) (by omega)) nin0)).keep (Keep.of_wr W57) (ninS (own_ne (a := b34) (b := b52) (by omega)) nin0) (ninS (own_ne (a := t47) (b := b52) (by omega)) nin0)).keep (Keep.of_wr W60) (ninS (own_ne (a := b34) (b := b52) (by omega)) nin0) (ninS (own_ne (a := t47) (b := b52) (by omega)) nin0)).keep Kq66 (ninS (own_ne (a := b34) (b := b50) (by omega)) nin0) (ninS (own_ne (a := t47) (b := b50) (by omega)) nin0)).ext E69).ext E71).keep (Keep.of_wr W73) (ninS (own_ne (a := b34) (b := b71) (by omega)) nin0) (ninS (own_ne (a := t47) (b := b71) (by omega)) nin0)).keep (Keep.of_wr W76) (ninS (own_ne (a := b34) (b := b71) (by omega)) nin0) (ninS (own_ne (a := t47) (b := b71) (by omega)) nin0)).keep (Keep.of_wr W79) (ninS (own_ne (a := b34) (b := b71) (by omega)) nin0) (ninS (own_ne (a := t47) (b := b71) (by omega)) nin0)).keep (Keep.of_wr W82) (ninS (own_ne (a := b34) (b := b71) (by omega)) nin0) (ninS (own_ne (a := t47) (b := b71) (by omega)) nin0)).keep Kq88 (ninS (own_ne (a := b34) (b := b69) (by omega)) nin0) (ninS (own_ne (a := t47) (b := b69) (by omega)) nin0))
    refine own_gs (cur' := T99.setTop (mkF m 262 #[vi p0, vi p1, vi p2, vi p3, vi p4, vi c0, vi c1, vi c2, vi c3, vr b11, vr b21, vr b34, vr b50, vr b69, vi (1 : Int32), vr b21, vr b34, vi c1, vj (-3750763034362895579 : Int64), ss, vj (1099511628211 : Int64), ss, vi (1 : Int32), vj (((own_fnv [c0]) ^^^ (c1.toInt64)) * (1099511628211 : Int64)), ss, uu] [(.ref b34)])) ?_ ?_
    · refine XS.iload X99.here hx rfl (hb hby at_251) rfl ?_
      refine XS.i2l X99.here hx rfl (hb hby at_253) rfl ?_
      refine XS.lxor X99.here hx rfl (hb hby at_254) rfl ?_
      show Steps p.tables e below (T99.setTop (mkF m 255 #[vi p0, vi p1, vi p2, vi p3, vi p4, vi c0, vi c1, vi c2, vi c3, vr b11, vr b21, vr b34, vr b50, vr b69, vi (1 : Int32), vr b21, vr b34, vi c1, vj (-3750763034362895579 : Int64), ss, vj (1099511628211 : Int64), ss, vi (1 : Int32), uu, uu, uu] [(.long ((own_fnv [c0]) ^^^ (c1.toInt64)))])) _
      refine XS.lload X99.here hx rfl (hb hby at_255) rfl ?_
      refine XS.lmul X99.here hx rfl (hb hby at_257) rfl ?_
      refine XS.lstore X99.here hx rfl (hb hby at_258) rfl (l' := #[vi p0, vi p1, vi p2, vi p3, vi p4, vi c0, vi c1, vi c2, vi c3, vr b11, vr b21, vr b34, vr b50, vr b69, vi (1 : Int32), vr b21, vr b34, vi c1, vj (-3750763034362895579 : Int64), ss, vj (1099511628211 : Int64), ss, vi (1 : Int32), vj (((own_fnv [c0]) ^^^ (c1.toInt64)) * (1099511628211 : Int64)), ss, uu]) rfl ?_
      show Steps p.tables e below (T99.setTop (mkF m 260 #[vi p0, vi p1, vi p2, vi p3, vi p4, vi c0, vi c1, vi c2, vi c3, vr b11, vr b21, vr b34, vr b50, vr b69, vi (1 : Int32), vr b21, vr b34, vi c1, vj (-3750763034362895579 : Int64), ss, vj (1099511628211 : Int64), ss, vi (1 : Int32), vj (((own_fnv [c0]) ^^^ (c1.toInt64)) * (1099511628211 : Int64)), ss, uu] [])) _
      refine XS.aload X99.here hx rfl (hb hby at_260) rfl rfl ?_
      exact Steps.refl _
    obtain ⟨_, _, ⟨T101, L101, k101, n101⟩, -, X101, ⟨Lc101, hQ101, l101, y101, z101⟩, st101⟩ := Jvm.LawKit.callS X99 hx (y := (⟨"com/example/idunn/idunn/PathHashes", "hash", "(Ljava/lang/String;)J"⟩ : MethodName)) hown18 (mvT hZ18 (hw _ (List.mem_of_getElem? (i := 36) rfl))) (mvT hZ18 (hw _ (List.mem_of_getElem? (i := 37) rfl))) (mvT hZ18 (hw _ (List.mem_of_getElem? (i := 38) rfl))) (mvT hZ18 (hw _ (List.mem_of_getElem? (i := 39) rfl))) (by decide) (backOf (W := 0) (own_hash2 l Z a0 hW b34 t47 c0 c1 T88.heap n0 (by omega) O90 f100) hZ18 (hw _ (List.mem_of_getElem? (i := 39) rfl)) (hw _ (List.mem_of_getElem? (i := 38) rfl)) (by decide) (by decide)) (g := (mkF m 262 #[vi p0, vi p1, vi p2, vi p3, vi p4, vi c0, vi c1, vi c2, vi c3, vr b11, vr b21, vr b34, vr b50, vr b69, vi (1 : Int32), vr b21, vr b34, vi c1, vj (-3750763034362895579 : Int64), ss, vj (1099511628211 : Int64), ss, vi (1 : Int32), vj (((own_fnv [c0]) ^^^ (c1.toInt64)) * (1099511628211 : Int64)), ss, uu] [(.ref b34)])) rfl (by rw [hml]; rfl) (argsL := [(.ref b34)]) (rest := []) (lenOf pd_16 rfl) rfl (by show 2 * 0 + _ ≤ _; exact Nat.le_of_eq rfl) (hb hby at_262) (fun _ _ => ⟨rfl, eh99, (by decide : 22 + 0 ≤ 48), (by decide : 68 + 0 ≤ 1216)⟩)
    dsimp only [Pt.U, Pt.locs, Pt.cells, Pt.slots] at X101 l101 y101 z101 st101 hQ101
    subst l101 y101 z101
    obtain ⟨rfl, Nq101, eh101⟩ := hQ101
    have N101 := Fr.app N99 Nq101
    refine own_go st101 ?_
    show own_Fin p e below (T101.setTop (mkF m 265 #[vi p0, vi p1, vi p2, vi p3, vi p4, vi c0, vi c1, vi c2, vi c3, vr b11, vr b21, vr b34, vr b50, vr b69, vi (1 : Int32), vr b21, vr b34, vi c1, vj (-3750763034362895579 : Int64), ss, vj (1099511628211 : Int64), ss, vi (1 : Int32), vj (((own_fnv [c0]) ^^^ (c1.toInt64)) * (1099511628211 : Int64)), ss, uu] [(.long (own_fnv [c0, c1]))])) _
    refine own_gs (cur' := T101.setTop (mkF m 293 #[vi p0, vi p1, vi p2, vi p3, vi p4, vi c0, vi c1, vi c2, vi c3, vr b11, vr b21, vr b34, vr b50, vr b69, vi (1 : Int32), vr b21, vr b34, vi c1, vj (-3750763034362895579 : Int64), ss, vj (1099511628211 : Int64), ss, vi (1 : Int32), vj (((own_fnv [c0]) ^^^ (c1.toInt64)) * (1099511628211 : Int64)), ss, vi (1 : Int32)] [(.int (1 : Int32))])) ?_ ?_
    · refine XS.lload X101.here hx rfl (hb hby at_265) rfl ?_
      refine XS.lcmp X101.here hx rfl (hb hby at_267) rfl ?_
      refine XS.ifNo X101.here hx rfl (hb hby at_268) rfl ((if0 _ _).trans (teq (((lw_eq _ _).mpr rfl) : (lcmpW (own_fnv [c0, c1]) (((own_fnv [c0]) ^^^ (c1.toInt64)) * (1099511628211 : Int64))) = (0 : Int32))).2) ?_
      show Steps p.tables e below (T101.setTop (mkF m 271 #[vi p0, vi p1, vi p2, vi p3, vi p4, vi c0, vi c1, vi c2, vi c3, vr b11, vr b21, vr b34, vr b50, vr b69, vi (1 : Int32), vr b21, vr b34, vi c1, vj (-3750763034362895579 : Int64), ss, vj (1099511628211 : Int64), ss, vi (1 : Int32), vj (((own_fnv [c0]) ^^^ (c1.toInt64)) * (1099511628211 : Int64)), ss, uu] [])) _
      refine XS.iconst X101.here hx rfl (hb hby at_271) ?_
      refine XS.goto X101.here hx rfl (pc0 := 272) (pc' := 276) rfl (hb hby at_272) (by decide) (by decide) ?_
      refine XS.istore X101.here hx rfl (hb hby at_276) rfl (l' := #[vi p0, vi p1, vi p2, vi p3, vi p4, vi c0, vi c1, vi c2, vi c3, vr b11, vr b21, vr b34, vr b50, vr b69, vi (1 : Int32), vr b21, vr b34, vi c1, vj (-3750763034362895579 : Int64), ss, vj (1099511628211 : Int64), ss, vi (1 : Int32), vj (((own_fnv [c0]) ^^^ (c1.toInt64)) * (1099511628211 : Int64)), ss, vi (1 : Int32)]) rfl ?_
      show Steps p.tables e below (T101.setTop (mkF m 278 #[vi p0, vi p1, vi p2, vi p3, vi p4, vi c0, vi c1, vi c2, vi c3, vr b11, vr b21, vr b34, vr b50, vr b69, vi (1 : Int32), vr b21, vr b34, vi c1, vj (-3750763034362895579 : Int64), ss, vj (1099511628211 : Int64), ss, vi (1 : Int32), vj (((own_fnv [c0]) ^^^ (c1.toInt64)) * (1099511628211 : Int64)), ss, vi (1 : Int32)] [])) _
      refine XS.iload X101.here hx rfl (hb hby at_278) rfl ?_
      refine XS.ifNo X101.here hx rfl (hb hby at_280) rfl ((if0 _ _).trans (feq ((by decide) : ¬ ((1 : Int32) = (0 : Int32)))).1) ?_
      refine XS.iload X101.here hx rfl (hb hby at_283) rfl ?_
      show Steps p.tables e below (T101.setTop (mkF m 285 #[vi p0, vi p1, vi p2, vi p3, vi p4, vi c0, vi c1, vi c2, vi c3, vr b11, vr b21, vr b34, vr b50, vr b69, vi (1 : Int32), vr b21, vr b34, vi c1, vj (-3750763034362895579 : Int64), ss, vj (1099511628211 : Int64), ss, vi (1 : Int32), vj (((own_fnv [c0]) ^^^ (c1.toInt64)) * (1099511628211 : Int64)), ss, vi (1 : Int32)] [(.int (1 : Int32))])) _
      refine XS.ifNo X101.here hx rfl (hb hby at_285) rfl ((if0 _ _).trans (feq ((by decide) : ¬ ((1 : Int32) = (0 : Int32)))).1) ?_
      refine XS.iconst X101.here hx rfl (hb hby at_288) ?_
      refine XS.goto X101.here hx rfl (pc0 := 289) (pc' := 293) rfl (hb hby at_289) (by decide) (by decide) ?_
      exact Steps.refl _
    obtain ⟨fs, hr, hrun, hended, hRE⟩ := X101.leaveW hS18 (show T18.heap.size ≤ T101.heap.size by rw [eh101]; omega) (v := (some (.int (1 : Int32)))) (fun h => by rw [Bd.returns] at h; cases h)
    refine ⟨_, _, retN X101 hx (t := .boolean) Bd.returns (by simp) (hb hby at_293) hr, hrun, hended, _, _, rfl, ?_, ?_, hRE.1, hRE.2.1, hRE.2.2.1, hRE.2.2.2.mono (by decide) (by decide)⟩
    · show own_law_Q Z p0 p1 p2 p3 p4 h0 n0 (some (.int (1 : Int32))) T101.heap _
      rw [eh101]
      exact ⟨rfl, N101⟩
    · have hfin := CH90.trans (CHv.at X101 hZ18 hEL CH90.1)
      rw [hh]
      show CHr Z own_EL s.vm h0 T101.vm T101.heap
      rw [eh101]
      exact hfin
  · rw [hn]
    show own_Fin p e below (T88.setTop (mkF m 142 #[vi p0, vi p1, vi p2, vi p3, vi p4, vi c0, vi c1, vi c2, vi c3, vr b11, vr b21, vr b34, vr b50, vr b69, uu, uu, uu, uu, uu, uu, uu, uu, uu, uu, uu, uu] [(.int (2 : Int32))])) _
    have f102 := ((((((((((((((((((((((Fs0.ext E21).ext E23).keep (Keep.of_wr W25) (ninS (own_ne (a := b11) (b := b23) (by omega)) nin0) (ninS (own_ne (a := t18) (b := b23) (by omega)) nin0)).keep Kq31 (ninS (own_ne (a := b11) (b := b21) (by omega)) nin0) (ninS (own_ne (a := t18) (b := b21) (by omega)) nin0)).ext E34).ext E36).keep (Keep.of_wr W38) (ninS (own_ne (a := b11) (b := b36) (by omega)) nin0) (ninS (own_ne (a := t18) (b := b36) (by omega)) nin0)).keep (Keep.of_wr W41) (ninS (own_ne (a := b11) (b := b36) (by omega)) nin0) (ninS (own_ne (a := t18) (b := b36) (by omega)) nin0)).keep Kq47 (ninS (own_ne (a := b11) (b := b34) (by omega)) nin0) (ninS (own_ne (a := t18) (b := b34) (by omega)) nin0)).ext E50).ext E52).keep (Keep.of_wr W54) (ninS (own_ne (a := b11) (b := b52) (by omega)) nin0) (ninS (own_ne (a := t18) (b := b52) (by omega)) nin0)).keep (Keep.of_wr W57) (ninS (own_ne (a := b11) (b := b52) (by omega)) nin0) (ninS (own_ne (a := t18) (b := b52) (by omega)) nin0)).keep (Keep.of_wr W60) (ninS (own_ne (a := b11) (b := b52) (by omega)) nin0) (ninS (own_ne (a := t18) (b := b52) (by omega)) nin0)).keep Kq66 (ninS (own_ne (a := b11) (b := b50) (by omega)) nin0) (ninS (own_ne (a := t18) (b := b50) (by omega)) nin0)).ext E69).ext E71).keep (Keep.of_wr W73) (ninS (own_ne (a := b11) (b := b71) (by omega)) nin0) (ninS (own_ne (a := t18) (b := b71) (by omega)) nin0)).keep (Keep.of_wr W76) (ninS (own_ne (a := b11) (b := b71) (by omega)) nin0) (ninS (own_ne (a := t18) (b := b71) (by omega)) nin0)).keep (Keep.of_wr W79) (ninS (own_ne (a := b11) (b := b71) (by omega)) nin0) (ninS (own_ne (a := t18) (b := b71) (by omega)) nin0)).keep (Keep.of_wr W82) (ninS (own_ne (a := b11) (b := b71) (by omega)) nin0) (ninS (own_ne (a := t18) (b := b71) (by omega)) nin0)).keep Kq88 (ninS (own_ne (a := b11) (b := b69) (by omega)) nin0) (ninS (own_ne (a := t18) (b := b69) (by omega)) nin0))
    refine own_gs (cur' := T88.setTop (mkF m 230 #[vi p0, vi p1, vi p2, vi p3, vi p4, vi c0, vi c1, vi c2, vi c3, vr b11, vr b21, vr b34, vr b50, vr b69, vi (2 : Int32), vr b34, vr b50, vi c2, vj (-3750763034362895579 : Int64), ss, vj (1099511628211 : Int64), ss, uu, uu, uu, uu] [(.ref b11)])) ?_ ?_
    · refine XS.istore X88.here hx rfl (hb hby at_142) rfl (l' := #[vi p0, vi p1, vi p2, vi p3, vi p4, vi c0, vi c1, vi c2, vi c3, vr b11, vr b21, vr b34, vr b50, vr b69, vi (2 : Int32), uu, uu, uu, uu, uu, uu, uu, uu, uu, uu, uu]) rfl ?_
      refine XS.iload X88.here hx rfl (hb hby at_144) rfl ?_
      refine XS.ifYes X88.here hx rfl (pc0 := 146) (pc' := 164) rfl (hb hby at_146) rfl ((if0 _ _).trans (feq ((by decide) : ¬ ((2 : Int32) = (0 : Int32)))).2) (by decide) (by decide) ?_
      show Steps p.tables e below (T88.setTop (mkF m 164 #[vi p0, vi p1, vi p2, vi p3, vi p4, vi c0, vi c1, vi c2, vi c3, vr b11, vr b21, vr b34, vr b50, vr b69, vi (2 : Int32), uu, uu, uu, uu, uu, uu, uu, uu, uu, uu, uu] [])) _
      refine XS.iload X88.here hx rfl (hb hby at_164) rfl ?_
      refine XS.iconst X88.here hx rfl (hb hby at_166) ?_
      refine XS.icmpYes X88.here hx rfl (pc0 := 167) (pc' := 185) rfl (hb hby at_167) rfl (feq ((by decide) : ¬ ((2 : Int32) = (1 : Int32)))).2 (by decide) (by decide) ?_
      show Steps p.tables e below (T88.setTop (mkF m 185 #[vi p0, vi p1, vi p2, vi p3, vi p4, vi c0, vi c1, vi c2, vi c3, vr b11, vr b21, vr b34, vr b50, vr b69, vi (2 : Int32), uu, uu, uu, uu, uu, uu, uu, uu, uu, uu, uu] [])) _
      refine XS.iload X88.here hx rfl (hb hby at_185) rfl ?_
      refine XS.iconst X88.here hx rfl (hb hby at_187) ?_
      refine XS.icmpNo X88.here hx rfl (hb hby at_188) rfl (teq ((by decide) : (2 : Int32) = (2 : Int32))).2 ?_
      show Steps p.tables e below (T88.setTop (mkF m 191 #[vi p0, vi p1, vi p2, vi p3, vi p4, vi c0, vi c1, vi c2, vi c3, vr b11, vr b21, vr b34, vr b50, vr b69, vi (2 : Int32), uu, uu, uu, uu, uu, uu, uu, uu, uu, uu, uu] [])) _
      refine XS.aload X88.here hx rfl (hb hby at_191) rfl rfl ?_
      refine XS.astore X88.here hx rfl (hb hby at_193) rfl rfl (l' := #[vi p0, vi p1, vi p2, vi p3, vi p4, vi c0, vi c1, vi c2, vi c3, vr b11, vr b21, vr b34, vr b50, vr b69, vi (2 : Int32), vr b34, uu, uu, uu, uu, uu, uu, uu, uu, uu, uu]) rfl ?_
      refine XS.aload X88.here hx rfl (hb hby at_195) rfl rfl ?_
      show Steps p.tables e below (T88.setTop (mkF m 197 #[vi p0, vi p1, vi p2, vi p3, vi p4, vi c0, vi c1, vi c2, vi c3, vr b11, vr b21, vr b34, vr b50, vr b69, vi (2 : Int32), vr b34, uu, uu, uu, uu, uu, uu, uu, uu, uu, uu] [(.ref b50)])) _
      refine XS.astore X88.here hx rfl (hb hby at_197) rfl rfl (l' := #[vi p0, vi p1, vi p2, vi p3, vi p4, vi c0, vi c1, vi c2, vi c3, vr b11, vr b21, vr b34, vr b50, vr b69, vi (2 : Int32), vr b34, vr b50, uu, uu, uu, uu, uu, uu, uu, uu, uu]) rfl ?_
      refine XS.iload X88.here hx rfl (hb hby at_199) rfl ?_
      refine XS.istore X88.here hx rfl (hb hby at_201) rfl (l' := #[vi p0, vi p1, vi p2, vi p3, vi p4, vi c0, vi c1, vi c2, vi c3, vr b11, vr b21, vr b34, vr b50, vr b69, vi (2 : Int32), vr b34, vr b50, vi c2, uu, uu, uu, uu, uu, uu, uu, uu]) rfl ?_
      show Steps p.tables e below (T88.setTop (mkF m 203 #[vi p0, vi p1, vi p2, vi p3, vi p4, vi c0, vi c1, vi c2, vi c3, vr b11, vr b21, vr b34, vr b50, vr b69, vi (2 : Int32), vr b34, vr b50, vi c2, uu, uu, uu, uu, uu, uu, uu, uu] [])) _
      refine XS.goto X88.here hx rfl (pc0 := 203) (pc' := 218) rfl (hb hby at_203) (by decide) (by decide) ?_
      refine X88.ldc2Long hx hown18 (mvT hZ18 (hw _ (List.mem_of_getElem? (i := 34) rfl))) (g := (mkF m 218 #[vi p0, vi p1, vi p2, vi p3, vi p4, vi c0, vi c1, vi c2, vi c3, vr b11, vr b21, vr b34, vr b50, vr b69, vi (2 : Int32), vr b34, vr b50, vi c2, uu, uu, uu, uu, uu, uu, uu, uu] [])) rfl (hb hby at_218) _ ?_
      refine XS.lstore X88.here hx rfl (hb hby at_221) rfl (l' := #[vi p0, vi p1, vi p2, vi p3, vi p4, vi c0, vi c1, vi c2, vi c3, vr b11, vr b21, vr b34, vr b50, vr b69, vi (2 : Int32), vr b34, vr b50, vi c2, vj (-3750763034362895579 : Int64), ss, uu, uu, uu, uu, uu, uu]) rfl ?_
      show Steps p.tables e below (T88.setTop (mkF m 223 #[vi p0, vi p1, vi p2, vi p3, vi p4, vi c0, vi c1, vi c2, vi c3, vr b11, vr b21, vr b34, vr b50, vr b69, vi (2 : Int32), vr b34, vr b50, vi c2, vj (-3750763034362895579 : Int64), ss, uu, uu, uu, uu, uu, uu] [])) _
      refine X88.ldc2Long hx hown18 (mvT hZ18 (hw _ (List.mem_of_getElem? (i := 35) rfl))) (g := (mkF m 223 #[vi p0, vi p1, vi p2, vi p3, vi p4, vi c0, vi c1, vi c2, vi c3, vr b11, vr b21, vr b34, vr b50, vr b69, vi (2 : Int32), vr b34, vr b50, vi c2, vj (-3750763034362895579 : Int64), ss, uu, uu, uu, uu, uu, uu] [])) rfl (hb hby at_223) _ ?_
      refine XS.lstore X88.here hx rfl (hb hby at_226) rfl (l' := #[vi p0, vi p1, vi p2, vi p3, vi p4, vi c0, vi c1, vi c2, vi c3, vr b11, vr b21, vr b34, vr b50, vr b69, vi (2 : Int32), vr b34, vr b50, vi c2, vj (-3750763034362895579 : Int64), ss, vj (1099511628211 : Int64), ss, uu, uu, uu, uu]) rfl ?_
      refine XS.aload X88.here hx rfl (hb hby at_228) rfl rfl ?_
      exact Steps.refl _
    obtain ⟨_, _, ⟨T103, L103, k103, n103⟩, -, X103, ⟨Lc103, hQ103, l103, y103, z103⟩, st103⟩ := Jvm.LawKit.callS X88 hx (y := (⟨"com/example/idunn/idunn/PathHashes", "hash", "(Ljava/lang/String;)J"⟩ : MethodName)) hown18 (mvT hZ18 (hw _ (List.mem_of_getElem? (i := 36) rfl))) (mvT hZ18 (hw _ (List.mem_of_getElem? (i := 37) rfl))) (mvT hZ18 (hw _ (List.mem_of_getElem? (i := 38) rfl))) (mvT hZ18 (hw _ (List.mem_of_getElem? (i := 39) rfl))) (by decide) (backOf (W := 0) (own_hash0 l Z a0 hW b11 t18  T88.heap n0 (by omega) O90 f102) hZ18 (hw _ (List.mem_of_getElem? (i := 39) rfl)) (hw _ (List.mem_of_getElem? (i := 38) rfl)) (by decide) (by decide)) (g := (mkF m 230 #[vi p0, vi p1, vi p2, vi p3, vi p4, vi c0, vi c1, vi c2, vi c3, vr b11, vr b21, vr b34, vr b50, vr b69, vi (2 : Int32), vr b34, vr b50, vi c2, vj (-3750763034362895579 : Int64), ss, vj (1099511628211 : Int64), ss, uu, uu, uu, uu] [(.ref b11)])) rfl (by rw [hml]; rfl) (argsL := [(.ref b11)]) (rest := []) (lenOf pd_16 rfl) rfl (by show 2 * 0 + _ ≤ _; exact Nat.le_of_eq rfl) (hb hby at_230) (fun _ _ => ⟨rfl, rfl, (by decide : 22 + 0 ≤ 48), (by decide : 68 + 0 ≤ 1216)⟩)
    dsimp only [Pt.U, Pt.locs, Pt.cells, Pt.slots] at X103 l103 y103 z103 st103 hQ103
    subst l103 y103 z103
    obtain ⟨rfl, Nq103, eh103⟩ := hQ103
    have N103 := Fr.app N88 Nq103
    refine own_go st103 ?_
    show own_Fin p e below (T103.setTop (mkF m 233 #[vi p0, vi p1, vi p2, vi p3, vi p4, vi c0, vi c1, vi c2, vi c3, vr b11, vr b21, vr b34, vr b50, vr b69, vi (2 : Int32), vr b34, vr b50, vi c2, vj (-3750763034362895579 : Int64), ss, vj (1099511628211 : Int64), ss, uu, uu, uu, uu] [(.long (own_fnv []))])) _
    have f104 := (((((((((((((Fs2.ext E50).ext E52).keep (Keep.of_wr W54) (ninS (own_ne (a := b34) (b := b52) (by omega)) nin0) (ninS (own_ne (a := t47) (b := b52) (by omega)) nin0)).keep (Keep.of_wr W57) (ninS (own_ne (a := b34) (b := b52) (by omega)) nin0) (ninS (own_ne (a := t47) (b := b52) (by omega)) nin0)).keep (Keep.of_wr W60) (ninS (own_ne (a := b34) (b := b52) (by omega)) nin0) (ninS (own_ne (a := t47) (b := b52) (by omega)) nin0)).keep Kq66 (ninS (own_ne (a := b34) (b := b50) (by omega)) nin0) (ninS (own_ne (a := t47) (b := b50) (by omega)) nin0)).ext E69).ext E71).keep (Keep.of_wr W73) (ninS (own_ne (a := b34) (b := b71) (by omega)) nin0) (ninS (own_ne (a := t47) (b := b71) (by omega)) nin0)).keep (Keep.of_wr W76) (ninS (own_ne (a := b34) (b := b71) (by omega)) nin0) (ninS (own_ne (a := t47) (b := b71) (by omega)) nin0)).keep (Keep.of_wr W79) (ninS (own_ne (a := b34) (b := b71) (by omega)) nin0) (ninS (own_ne (a := t47) (b := b71) (by omega)) nin0)).keep (Keep.of_wr W82) (ninS (own_ne (a := b34) (b := b71) (by omega)) nin0) (ninS (own_ne (a := t47) (b := b71) (by omega)) nin0)).keep Kq88 (ninS (own_ne (a := b34) (b := b69) (by omega)) nin0) (ninS (own_ne (a := t47) (b := b69) (by omega)) nin0))
    refine own_gs (cur' := T103.setTop (mkF m 248 #[vi p0, vi p1, vi p2, vi p3, vi p4, vi c0, vi c1, vi c2, vi c3, vr b11, vr b21, vr b34, vr b50, vr b69, vi (2 : Int32), vr b34, vr b50, vi c2, vj (-3750763034362895579 : Int64), ss, vj (1099511628211 : Int64), ss, vi (1 : Int32), uu, uu, uu] [(.ref b34)])) ?_ ?_
    · refine XS.lload X103.here hx rfl (hb hby at_233) rfl ?_
      refine XS.lcmp X103.here hx rfl (hb hby at_235) rfl ?_
      refine XS.ifNo X103.here hx rfl (hb hby at_236) rfl ((if0 _ _).trans (teq (((lw_eq _ _).mpr rfl) : (lcmpW (own_fnv []) (-3750763034362895579 : Int64)) = (0 : Int32))).2) ?_
      show Steps p.tables e below (T103.setTop (mkF m 239 #[vi p0, vi p1, vi p2, vi p3, vi p4, vi c0, vi c1, vi c2, vi c3, vr b11, vr b21, vr b34, vr b50, vr b69, vi (2 : Int32), vr b34, vr b50, vi c2, vj (-3750763034362895579 : Int64), ss, vj (1099511628211 : Int64), ss, uu, uu, uu, uu] [])) _
      refine XS.iconst X103.here hx rfl (hb hby at_239) ?_
      refine XS.goto X103.here hx rfl (pc0 := 240) (pc' := 244) rfl (hb hby at_240) (by decide) (by decide) ?_
      refine XS.istore X103.here hx rfl (hb hby at_244) rfl (l' := #[vi p0, vi p1, vi p2, vi p3, vi p4, vi c0, vi c1, vi c2, vi c3, vr b11, vr b21, vr b34, vr b50, vr b69, vi (2 : Int32), vr b34, vr b50, vi c2, vj (-3750763034362895579 : Int64), ss, vj (1099511628211 : Int64), ss, vi (1 : Int32), uu, uu, uu]) rfl ?_
      show Steps p.tables e below (T103.setTop (mkF m 246 #[vi p0, vi p1, vi p2, vi p3, vi p4, vi c0, vi c1, vi c2, vi c3, vr b11, vr b21, vr b34, vr b50, vr b69, vi (2 : Int32), vr b34, vr b50, vi c2, vj (-3750763034362895579 : Int64), ss, vj (1099511628211 : Int64), ss, vi (1 : Int32), uu, uu, uu] [])) _
      refine XS.aload X103.here hx rfl (hb hby at_246) rfl rfl ?_
      exact Steps.refl _
    obtain ⟨_, _, ⟨T105, L105, k105, n105⟩, -, X105, ⟨Lc105, hQ105, l105, y105, z105⟩, st105⟩ := Jvm.LawKit.callS X103 hx (y := (⟨"com/example/idunn/idunn/PathHashes", "hash", "(Ljava/lang/String;)J"⟩ : MethodName)) hown18 (mvT hZ18 (hw _ (List.mem_of_getElem? (i := 36) rfl))) (mvT hZ18 (hw _ (List.mem_of_getElem? (i := 37) rfl))) (mvT hZ18 (hw _ (List.mem_of_getElem? (i := 38) rfl))) (mvT hZ18 (hw _ (List.mem_of_getElem? (i := 39) rfl))) (by decide) (backOf (W := 0) (own_hash2 l Z a0 hW b34 t47 c0 c1 T88.heap n0 (by omega) O90 f104) hZ18 (hw _ (List.mem_of_getElem? (i := 39) rfl)) (hw _ (List.mem_of_getElem? (i := 38) rfl)) (by decide) (by decide)) (g := (mkF m 248 #[vi p0, vi p1, vi p2, vi p3, vi p4, vi c0, vi c1, vi c2, vi c3, vr b11, vr b21, vr b34, vr b50, vr b69, vi (2 : Int32), vr b34, vr b50, vi c2, vj (-3750763034362895579 : Int64), ss, vj (1099511628211 : Int64), ss, vi (1 : Int32), uu, uu, uu] [(.ref b34)])) rfl (by rw [hml]; rfl) (argsL := [(.ref b34)]) (rest := []) (lenOf pd_16 rfl) rfl (by show 2 * 0 + _ ≤ _; exact Nat.le_of_eq rfl) (hb hby at_248) (fun _ _ => ⟨rfl, eh103, (by decide : 22 + 0 ≤ 48), (by decide : 68 + 0 ≤ 1216)⟩)
    dsimp only [Pt.U, Pt.locs, Pt.cells, Pt.slots] at X105 l105 y105 z105 st105 hQ105
    subst l105 y105 z105
    obtain ⟨rfl, Nq105, eh105⟩ := hQ105
    have N105 := Fr.app N103 Nq105
    refine own_go st105 ?_
    show own_Fin p e below (T105.setTop (mkF m 251 #[vi p0, vi p1, vi p2, vi p3, vi p4, vi c0, vi c1, vi c2, vi c3, vr b11, vr b21, vr b34, vr b50, vr b69, vi (2 : Int32), vr b34, vr b50, vi c2, vj (-3750763034362895579 : Int64), ss, vj (1099511628211 : Int64), ss, vi (1 : Int32), uu, uu, uu] [(.long (own_fnv [c0, c1]))])) _
    have f106 := (((((((Fs3.ext E69).ext E71).keep (Keep.of_wr W73) (ninS (own_ne (a := b50) (b := b71) (by omega)) nin0) (ninS (own_ne (a := t66) (b := b71) (by omega)) nin0)).keep (Keep.of_wr W76) (ninS (own_ne (a := b50) (b := b71) (by omega)) nin0) (ninS (own_ne (a := t66) (b := b71) (by omega)) nin0)).keep (Keep.of_wr W79) (ninS (own_ne (a := b50) (b := b71) (by omega)) nin0) (ninS (own_ne (a := t66) (b := b71) (by omega)) nin0)).keep (Keep.of_wr W82) (ninS (own_ne (a := b50) (b := b71) (by omega)) nin0) (ninS (own_ne (a := t66) (b := b71) (by omega)) nin0)).keep Kq88 (ninS (own_ne (a := b50) (b := b69) (by omega)) nin0) (ninS (own_ne (a := t66) (b := b69) (by omega)) nin0))
    refine own_gs (cur' := T105.setTop (mkF m 262 #[vi p0, vi p1, vi p2, vi p3, vi p4, vi c0, vi c1, vi c2, vi c3, vr b11, vr b21, vr b34, vr b50, vr b69, vi (2 : Int32), vr b34, vr b50, vi c2, vj (-3750763034362895579 : Int64), ss, vj (1099511628211 : Int64), ss, vi (1 : Int32), vj (((own_fnv [c0, c1]) ^^^ (c2.toInt64)) * (1099511628211 : Int64)), ss, uu] [(.ref b50)])) ?_ ?_
    · refine XS.iload X105.here hx rfl (hb hby at_251) rfl ?_
      refine XS.i2l X105.here hx rfl (hb hby at_253) rfl ?_
      refine XS.lxor X105.here hx rfl (hb hby at_254) rfl ?_
      show Steps p.tables e below (T105.setTop (mkF m 255 #[vi p0, vi p1, vi p2, vi p3, vi p4, vi c0, vi c1, vi c2, vi c3, vr b11, vr b21, vr b34, vr b50, vr b69, vi (2 : Int32), vr b34, vr b50, vi c2, vj (-3750763034362895579 : Int64), ss, vj (1099511628211 : Int64), ss, vi (1 : Int32), uu, uu, uu] [(.long ((own_fnv [c0, c1]) ^^^ (c2.toInt64)))])) _
      refine XS.lload X105.here hx rfl (hb hby at_255) rfl ?_
      refine XS.lmul X105.here hx rfl (hb hby at_257) rfl ?_
      refine XS.lstore X105.here hx rfl (hb hby at_258) rfl (l' := #[vi p0, vi p1, vi p2, vi p3, vi p4, vi c0, vi c1, vi c2, vi c3, vr b11, vr b21, vr b34, vr b50, vr b69, vi (2 : Int32), vr b34, vr b50, vi c2, vj (-3750763034362895579 : Int64), ss, vj (1099511628211 : Int64), ss, vi (1 : Int32), vj (((own_fnv [c0, c1]) ^^^ (c2.toInt64)) * (1099511628211 : Int64)), ss, uu]) rfl ?_
      show Steps p.tables e below (T105.setTop (mkF m 260 #[vi p0, vi p1, vi p2, vi p3, vi p4, vi c0, vi c1, vi c2, vi c3, vr b11, vr b21, vr b34, vr b50, vr b69, vi (2 : Int32), vr b34, vr b50, vi c2, vj (-3750763034362895579 : Int64), ss, vj (1099511628211 : Int64), ss, vi (1 : Int32), vj (((own_fnv [c0, c1]) ^^^ (c2.toInt64)) * (1099511628211 : Int64)), ss, uu] [])) _
      refine XS.aload X105.here hx rfl (hb hby at_260) rfl rfl ?_
      exact Steps.refl _
    obtain ⟨_, _, ⟨T107, L107, k107, n107⟩, -, X107, ⟨Lc107, hQ107, l107, y107, z107⟩, st107⟩ := Jvm.LawKit.callS X105 hx (y := (⟨"com/example/idunn/idunn/PathHashes", "hash", "(Ljava/lang/String;)J"⟩ : MethodName)) hown18 (mvT hZ18 (hw _ (List.mem_of_getElem? (i := 36) rfl))) (mvT hZ18 (hw _ (List.mem_of_getElem? (i := 37) rfl))) (mvT hZ18 (hw _ (List.mem_of_getElem? (i := 38) rfl))) (mvT hZ18 (hw _ (List.mem_of_getElem? (i := 39) rfl))) (by decide) (backOf (W := 0) (own_hash3 l Z a0 hW b50 t66 c0 c1 c2 T88.heap n0 (by omega) O90 f106) hZ18 (hw _ (List.mem_of_getElem? (i := 39) rfl)) (hw _ (List.mem_of_getElem? (i := 38) rfl)) (by decide) (by decide)) (g := (mkF m 262 #[vi p0, vi p1, vi p2, vi p3, vi p4, vi c0, vi c1, vi c2, vi c3, vr b11, vr b21, vr b34, vr b50, vr b69, vi (2 : Int32), vr b34, vr b50, vi c2, vj (-3750763034362895579 : Int64), ss, vj (1099511628211 : Int64), ss, vi (1 : Int32), vj (((own_fnv [c0, c1]) ^^^ (c2.toInt64)) * (1099511628211 : Int64)), ss, uu] [(.ref b50)])) rfl (by rw [hml]; rfl) (argsL := [(.ref b50)]) (rest := []) (lenOf pd_16 rfl) rfl (by show 2 * 0 + _ ≤ _; exact Nat.le_of_eq rfl) (hb hby at_262) (fun _ _ => ⟨rfl, eh105, (by decide : 22 + 0 ≤ 48), (by decide : 68 + 0 ≤ 1216)⟩)
    dsimp only [Pt.U, Pt.locs, Pt.cells, Pt.slots] at X107 l107 y107 z107 st107 hQ107
    subst l107 y107 z107
    obtain ⟨rfl, Nq107, eh107⟩ := hQ107
    have N107 := Fr.app N105 Nq107
    refine own_go st107 ?_
    show own_Fin p e below (T107.setTop (mkF m 265 #[vi p0, vi p1, vi p2, vi p3, vi p4, vi c0, vi c1, vi c2, vi c3, vr b11, vr b21, vr b34, vr b50, vr b69, vi (2 : Int32), vr b34, vr b50, vi c2, vj (-3750763034362895579 : Int64), ss, vj (1099511628211 : Int64), ss, vi (1 : Int32), vj (((own_fnv [c0, c1]) ^^^ (c2.toInt64)) * (1099511628211 : Int64)), ss, uu] [(.long (own_fnv [c0, c1, c2]))])) _
    refine own_gs (cur' := T107.setTop (mkF m 293 #[vi p0, vi p1, vi p2, vi p3, vi p4, vi c0, vi c1, vi c2, vi c3, vr b11, vr b21, vr b34, vr b50, vr b69, vi (2 : Int32), vr b34, vr b50, vi c2, vj (-3750763034362895579 : Int64), ss, vj (1099511628211 : Int64), ss, vi (1 : Int32), vj (((own_fnv [c0, c1]) ^^^ (c2.toInt64)) * (1099511628211 : Int64)), ss, vi (1 : Int32)] [(.int (1 : Int32))])) ?_ ?_
    · refine XS.lload X107.here hx rfl (hb hby at_265) rfl ?_
      refine XS.lcmp X107.here hx rfl (hb hby at_267) rfl ?_
      refine XS.ifNo X107.here hx rfl (hb hby at_268) rfl ((if0 _ _).trans (teq (((lw_eq _ _).mpr rfl) : (lcmpW (own_fnv [c0, c1, c2]) (((own_fnv [c0, c1]) ^^^ (c2.toInt64)) * (1099511628211 : Int64))) = (0 : Int32))).2) ?_
      show Steps p.tables e below (T107.setTop (mkF m 271 #[vi p0, vi p1, vi p2, vi p3, vi p4, vi c0, vi c1, vi c2, vi c3, vr b11, vr b21, vr b34, vr b50, vr b69, vi (2 : Int32), vr b34, vr b50, vi c2, vj (-3750763034362895579 : Int64), ss, vj (1099511628211 : Int64), ss, vi (1 : Int32), vj (((own_fnv [c0, c1]) ^^^ (c2.toInt64)) * (1099511628211 : Int64)), ss, uu] [])) _
      refine XS.iconst X107.here hx rfl (hb hby at_271) ?_
      refine XS.goto X107.here hx rfl (pc0 := 272) (pc' := 276) rfl (hb hby at_272) (by decide) (by decide) ?_
      refine XS.istore X107.here hx rfl (hb hby at_276) rfl (l' := #[vi p0, vi p1, vi p2, vi p3, vi p4, vi c0, vi c1, vi c2, vi c3, vr b11, vr b21, vr b34, vr b50, vr b69, vi (2 : Int32), vr b34, vr b50, vi c2, vj (-3750763034362895579 : Int64), ss, vj (1099511628211 : Int64), ss, vi (1 : Int32), vj (((own_fnv [c0, c1]) ^^^ (c2.toInt64)) * (1099511628211 : Int64)), ss, vi (1 : Int32)]) rfl ?_
      show Steps p.tables e below (T107.setTop (mkF m 278 #[vi p0, vi p1, vi p2, vi p3, vi p4, vi c0, vi c1, vi c2, vi c3, vr b11, vr b21, vr b34, vr b50, vr b69, vi (2 : Int32), vr b34, vr b50, vi c2, vj (-3750763034362895579 : Int64), ss, vj (1099511628211 : Int64), ss, vi (1 : Int32), vj (((own_fnv [c0, c1]) ^^^ (c2.toInt64)) * (1099511628211 : Int64)), ss, vi (1 : Int32)] [])) _
      refine XS.iload X107.here hx rfl (hb hby at_278) rfl ?_
      refine XS.ifNo X107.here hx rfl (hb hby at_280) rfl ((if0 _ _).trans (feq ((by decide) : ¬ ((1 : Int32) = (0 : Int32)))).1) ?_
      refine XS.iload X107.here hx rfl (hb hby at_283) rfl ?_
      show Steps p.tables e below (T107.setTop (mkF m 285 #[vi p0, vi p1, vi p2, vi p3, vi p4, vi c0, vi c1, vi c2, vi c3, vr b11, vr b21, vr b34, vr b50, vr b69, vi (2 : Int32), vr b34, vr b50, vi c2, vj (-3750763034362895579 : Int64), ss, vj (1099511628211 : Int64), ss, vi (1 : Int32), vj (((own_fnv [c0, c1]) ^^^ (c2.toInt64)) * (1099511628211 : Int64)), ss, vi (1 : Int32)] [(.int (1 : Int32))])) _
      refine XS.ifNo X107.here hx rfl (hb hby at_285) rfl ((if0 _ _).trans (feq ((by decide) : ¬ ((1 : Int32) = (0 : Int32)))).1) ?_
      refine XS.iconst X107.here hx rfl (hb hby at_288) ?_
      refine XS.goto X107.here hx rfl (pc0 := 289) (pc' := 293) rfl (hb hby at_289) (by decide) (by decide) ?_
      exact Steps.refl _
    obtain ⟨fs, hr, hrun, hended, hRE⟩ := X107.leaveW hS18 (show T18.heap.size ≤ T107.heap.size by rw [eh107]; omega) (v := (some (.int (1 : Int32)))) (fun h => by rw [Bd.returns] at h; cases h)
    refine ⟨_, _, retN X107 hx (t := .boolean) Bd.returns (by simp) (hb hby at_293) hr, hrun, hended, _, _, rfl, ?_, ?_, hRE.1, hRE.2.1, hRE.2.2.1, hRE.2.2.2.mono (by decide) (by decide)⟩
    · show own_law_Q Z p0 p1 p2 p3 p4 h0 n0 (some (.int (1 : Int32))) T107.heap _
      rw [eh107]
      exact ⟨rfl, N107⟩
    · have hfin := CH90.trans (CHv.at X107 hZ18 hEL CH90.1)
      rw [hh]
      show CHr Z own_EL s.vm h0 T107.vm T107.heap
      rw [eh107]
      exact hfin
  · rw [hn]
    show own_Fin p e below (T88.setTop (mkF m 142 #[vi p0, vi p1, vi p2, vi p3, vi p4, vi c0, vi c1, vi c2, vi c3, vr b11, vr b21, vr b34, vr b50, vr b69, uu, uu, uu, uu, uu, uu, uu, uu, uu, uu, uu, uu] [(.int (3 : Int32))])) _
    have f108 := ((((((((((((((((((((((Fs0.ext E21).ext E23).keep (Keep.of_wr W25) (ninS (own_ne (a := b11) (b := b23) (by omega)) nin0) (ninS (own_ne (a := t18) (b := b23) (by omega)) nin0)).keep Kq31 (ninS (own_ne (a := b11) (b := b21) (by omega)) nin0) (ninS (own_ne (a := t18) (b := b21) (by omega)) nin0)).ext E34).ext E36).keep (Keep.of_wr W38) (ninS (own_ne (a := b11) (b := b36) (by omega)) nin0) (ninS (own_ne (a := t18) (b := b36) (by omega)) nin0)).keep (Keep.of_wr W41) (ninS (own_ne (a := b11) (b := b36) (by omega)) nin0) (ninS (own_ne (a := t18) (b := b36) (by omega)) nin0)).keep Kq47 (ninS (own_ne (a := b11) (b := b34) (by omega)) nin0) (ninS (own_ne (a := t18) (b := b34) (by omega)) nin0)).ext E50).ext E52).keep (Keep.of_wr W54) (ninS (own_ne (a := b11) (b := b52) (by omega)) nin0) (ninS (own_ne (a := t18) (b := b52) (by omega)) nin0)).keep (Keep.of_wr W57) (ninS (own_ne (a := b11) (b := b52) (by omega)) nin0) (ninS (own_ne (a := t18) (b := b52) (by omega)) nin0)).keep (Keep.of_wr W60) (ninS (own_ne (a := b11) (b := b52) (by omega)) nin0) (ninS (own_ne (a := t18) (b := b52) (by omega)) nin0)).keep Kq66 (ninS (own_ne (a := b11) (b := b50) (by omega)) nin0) (ninS (own_ne (a := t18) (b := b50) (by omega)) nin0)).ext E69).ext E71).keep (Keep.of_wr W73) (ninS (own_ne (a := b11) (b := b71) (by omega)) nin0) (ninS (own_ne (a := t18) (b := b71) (by omega)) nin0)).keep (Keep.of_wr W76) (ninS (own_ne (a := b11) (b := b71) (by omega)) nin0) (ninS (own_ne (a := t18) (b := b71) (by omega)) nin0)).keep (Keep.of_wr W79) (ninS (own_ne (a := b11) (b := b71) (by omega)) nin0) (ninS (own_ne (a := t18) (b := b71) (by omega)) nin0)).keep (Keep.of_wr W82) (ninS (own_ne (a := b11) (b := b71) (by omega)) nin0) (ninS (own_ne (a := t18) (b := b71) (by omega)) nin0)).keep Kq88 (ninS (own_ne (a := b11) (b := b69) (by omega)) nin0) (ninS (own_ne (a := t18) (b := b69) (by omega)) nin0))
    refine own_gs (cur' := T88.setTop (mkF m 230 #[vi p0, vi p1, vi p2, vi p3, vi p4, vi c0, vi c1, vi c2, vi c3, vr b11, vr b21, vr b34, vr b50, vr b69, vi (3 : Int32), vr b50, vr b69, vi c3, vj (-3750763034362895579 : Int64), ss, vj (1099511628211 : Int64), ss, uu, uu, uu, uu] [(.ref b11)])) ?_ ?_
    · refine XS.istore X88.here hx rfl (hb hby at_142) rfl (l' := #[vi p0, vi p1, vi p2, vi p3, vi p4, vi c0, vi c1, vi c2, vi c3, vr b11, vr b21, vr b34, vr b50, vr b69, vi (3 : Int32), uu, uu, uu, uu, uu, uu, uu, uu, uu, uu, uu]) rfl ?_
      refine XS.iload X88.here hx rfl (hb hby at_144) rfl ?_
      refine XS.ifYes X88.here hx rfl (pc0 := 146) (pc' := 164) rfl (hb hby at_146) rfl ((if0 _ _).trans (feq ((by decide) : ¬ ((3 : Int32) = (0 : Int32)))).2) (by decide) (by decide) ?_
      show Steps p.tables e below (T88.setTop (mkF m 164 #[vi p0, vi p1, vi p2, vi p3, vi p4, vi c0, vi c1, vi c2, vi c3, vr b11, vr b21, vr b34, vr b50, vr b69, vi (3 : Int32), uu, uu, uu, uu, uu, uu, uu, uu, uu, uu, uu] [])) _
      refine XS.iload X88.here hx rfl (hb hby at_164) rfl ?_
      refine XS.iconst X88.here hx rfl (hb hby at_166) ?_
      refine XS.icmpYes X88.here hx rfl (pc0 := 167) (pc' := 185) rfl (hb hby at_167) rfl (feq ((by decide) : ¬ ((3 : Int32) = (1 : Int32)))).2 (by decide) (by decide) ?_
      show Steps p.tables e below (T88.setTop (mkF m 185 #[vi p0, vi p1, vi p2, vi p3, vi p4, vi c0, vi c1, vi c2, vi c3, vr b11, vr b21, vr b34, vr b50, vr b69, vi (3 : Int32), uu, uu, uu, uu, uu, uu, uu, uu, uu, uu, uu] [])) _
      refine XS.iload X88.here hx rfl (hb hby at_185) rfl ?_
      refine XS.iconst X88.here hx rfl (hb hby at_187) ?_
      refine XS.icmpYes X88.here hx rfl (pc0 := 188) (pc' := 206) rfl (hb hby at_188) rfl (feq ((by decide) : ¬ ((3 : Int32) = (2 : Int32)))).2 (by decide) (by decide) ?_
      show Steps p.tables e below (T88.setTop (mkF m 206 #[vi p0, vi p1, vi p2, vi p3, vi p4, vi c0, vi c1, vi c2, vi c3, vr b11, vr b21, vr b34, vr b50, vr b69, vi (3 : Int32), uu, uu, uu, uu, uu, uu, uu, uu, uu, uu, uu] [])) _
      refine XS.aload X88.here hx rfl (hb hby at_206) rfl rfl ?_
      refine XS.astore X88.here hx rfl (hb hby at_208) rfl rfl (l' := #[vi p0, vi p1, vi p2, vi p3, vi p4, vi c0, vi c1, vi c2, vi c3, vr b11, vr b21, vr b34, vr b50, vr b69, vi (3 : Int32), vr b50, uu, uu, uu, uu, uu, uu, uu, uu, uu, uu]) rfl ?_
      refine XS.aload X88.here hx rfl (hb hby at_210) rfl rfl ?_
      show Steps p.tables e below (T88.setTop (mkF m 212 #[vi p0, vi p1, vi p2, vi p3, vi p4, vi c0, vi c1, vi c2, vi c3, vr b11, vr b21, vr b34, vr b50, vr b69, vi (3 : Int32), vr b50, uu, uu, uu, uu, uu, uu, uu, uu, uu, uu] [(.ref b69)])) _
      refine XS.astore X88.here hx rfl (hb hby at_212) rfl rfl (l' := #[vi p0, vi p1, vi p2, vi p3, vi p4, vi c0, vi c1, vi c2, vi c3, vr b11, vr b21, vr b34, vr b50, vr b69, vi (3 : Int32), vr b50, vr b69, uu, uu, uu, uu, uu, uu, uu, uu, uu]) rfl ?_
      refine XS.iload X88.here hx rfl (hb hby at_214) rfl ?_
      refine XS.istore X88.here hx rfl (hb hby at_216) rfl (l' := #[vi p0, vi p1, vi p2, vi p3, vi p4, vi c0, vi c1, vi c2, vi c3, vr b11, vr b21, vr b34, vr b50, vr b69, vi (3 : Int32), vr b50, vr b69, vi c3, uu, uu, uu, uu, uu, uu, uu, uu]) rfl ?_
      show Steps p.tables e below (T88.setTop (mkF m 218 #[vi p0, vi p1, vi p2, vi p3, vi p4, vi c0, vi c1, vi c2, vi c3, vr b11, vr b21, vr b34, vr b50, vr b69, vi (3 : Int32), vr b50, vr b69, vi c3, uu, uu, uu, uu, uu, uu, uu, uu] [])) _
      refine X88.ldc2Long hx hown18 (mvT hZ18 (hw _ (List.mem_of_getElem? (i := 34) rfl))) (g := (mkF m 218 #[vi p0, vi p1, vi p2, vi p3, vi p4, vi c0, vi c1, vi c2, vi c3, vr b11, vr b21, vr b34, vr b50, vr b69, vi (3 : Int32), vr b50, vr b69, vi c3, uu, uu, uu, uu, uu, uu, uu, uu] [])) rfl (hb hby at_218) _ ?_
      refine XS.lstore X88.here hx rfl (hb hby at_221) rfl (l' := #[vi p0, vi p1, vi p2, vi p3, vi p4, vi c0, vi c1, vi c2, vi c3, vr b11, vr b21, vr b34, vr b50, vr b69, vi (3 : Int32), vr b50, vr b69, vi c3, vj (-3750763034362895579 : Int64), ss, uu, uu, uu, uu, uu, uu]) rfl ?_
      refine X88.ldc2Long hx hown18 (mvT hZ18 (hw _ (List.mem_of_getElem? (i := 35) rfl))) (g := (mkF m 223 #[vi p0, vi p1, vi p2, vi p3, vi p4, vi c0, vi c1, vi c2, vi c3, vr b11, vr b21, vr b34, vr b50, vr b69, vi (3 : Int32), vr b50, vr b69, vi c3, vj (-3750763034362895579 : Int64), ss, uu, uu, uu, uu, uu, uu] [])) rfl (hb hby at_223) _ ?_
      show Steps p.tables e below (T88.setTop (mkF m 226 #[vi p0, vi p1, vi p2, vi p3, vi p4, vi c0, vi c1, vi c2, vi c3, vr b11, vr b21, vr b34, vr b50, vr b69, vi (3 : Int32), vr b50, vr b69, vi c3, vj (-3750763034362895579 : Int64), ss, uu, uu, uu, uu, uu, uu] [(.long (1099511628211 : Int64))])) _
      refine XS.lstore X88.here hx rfl (hb hby at_226) rfl (l' := #[vi p0, vi p1, vi p2, vi p3, vi p4, vi c0, vi c1, vi c2, vi c3, vr b11, vr b21, vr b34, vr b50, vr b69, vi (3 : Int32), vr b50, vr b69, vi c3, vj (-3750763034362895579 : Int64), ss, vj (1099511628211 : Int64), ss, uu, uu, uu, uu]) rfl ?_
      refine XS.aload X88.here hx rfl (hb hby at_228) rfl rfl ?_
      exact Steps.refl _
    obtain ⟨_, _, ⟨T109, L109, k109, n109⟩, -, X109, ⟨Lc109, hQ109, l109, y109, z109⟩, st109⟩ := Jvm.LawKit.callS X88 hx (y := (⟨"com/example/idunn/idunn/PathHashes", "hash", "(Ljava/lang/String;)J"⟩ : MethodName)) hown18 (mvT hZ18 (hw _ (List.mem_of_getElem? (i := 36) rfl))) (mvT hZ18 (hw _ (List.mem_of_getElem? (i := 37) rfl))) (mvT hZ18 (hw _ (List.mem_of_getElem? (i := 38) rfl))) (mvT hZ18 (hw _ (List.mem_of_getElem? (i := 39) rfl))) (by decide) (backOf (W := 0) (own_hash0 l Z a0 hW b11 t18  T88.heap n0 (by omega) O90 f108) hZ18 (hw _ (List.mem_of_getElem? (i := 39) rfl)) (hw _ (List.mem_of_getElem? (i := 38) rfl)) (by decide) (by decide)) (g := (mkF m 230 #[vi p0, vi p1, vi p2, vi p3, vi p4, vi c0, vi c1, vi c2, vi c3, vr b11, vr b21, vr b34, vr b50, vr b69, vi (3 : Int32), vr b50, vr b69, vi c3, vj (-3750763034362895579 : Int64), ss, vj (1099511628211 : Int64), ss, uu, uu, uu, uu] [(.ref b11)])) rfl (by rw [hml]; rfl) (argsL := [(.ref b11)]) (rest := []) (lenOf pd_16 rfl) rfl (by show 2 * 0 + _ ≤ _; exact Nat.le_of_eq rfl) (hb hby at_230) (fun _ _ => ⟨rfl, rfl, (by decide : 22 + 0 ≤ 48), (by decide : 68 + 0 ≤ 1216)⟩)
    dsimp only [Pt.U, Pt.locs, Pt.cells, Pt.slots] at X109 l109 y109 z109 st109 hQ109
    subst l109 y109 z109
    obtain ⟨rfl, Nq109, eh109⟩ := hQ109
    have N109 := Fr.app N88 Nq109
    refine own_go st109 ?_
    show own_Fin p e below (T109.setTop (mkF m 233 #[vi p0, vi p1, vi p2, vi p3, vi p4, vi c0, vi c1, vi c2, vi c3, vr b11, vr b21, vr b34, vr b50, vr b69, vi (3 : Int32), vr b50, vr b69, vi c3, vj (-3750763034362895579 : Int64), ss, vj (1099511628211 : Int64), ss, uu, uu, uu, uu] [(.long (own_fnv []))])) _
    have f110 := (((((((Fs3.ext E69).ext E71).keep (Keep.of_wr W73) (ninS (own_ne (a := b50) (b := b71) (by omega)) nin0) (ninS (own_ne (a := t66) (b := b71) (by omega)) nin0)).keep (Keep.of_wr W76) (ninS (own_ne (a := b50) (b := b71) (by omega)) nin0) (ninS (own_ne (a := t66) (b := b71) (by omega)) nin0)).keep (Keep.of_wr W79) (ninS (own_ne (a := b50) (b := b71) (by omega)) nin0) (ninS (own_ne (a := t66) (b := b71) (by omega)) nin0)).keep (Keep.of_wr W82) (ninS (own_ne (a := b50) (b := b71) (by omega)) nin0) (ninS (own_ne (a := t66) (b := b71) (by omega)) nin0)).keep Kq88 (ninS (own_ne (a := b50) (b := b69) (by omega)) nin0) (ninS (own_ne (a := t66) (b := b69) (by omega)) nin0))
    refine own_gs (cur' := T109.setTop (mkF m 248 #[vi p0, vi p1, vi p2, vi p3, vi p4, vi c0, vi c1, vi c2, vi c3, vr b11, vr b21, vr b34, vr b50, vr b69, vi (3 : Int32), vr b50, vr b69, vi c3, vj (-3750763034362895579 : Int64), ss, vj (1099511628211 : Int64), ss, vi (1 : Int32), uu, uu, uu] [(.ref b50)])) ?_ ?_
    · refine XS.lload X109.here hx rfl (hb hby at_233) rfl ?_
      refine XS.lcmp X109.here hx rfl (hb hby at_235) rfl ?_
      refine XS.ifNo X109.here hx rfl (hb hby at_236) rfl ((if0 _ _).trans (teq (((lw_eq _ _).mpr rfl) : (lcmpW (own_fnv []) (-3750763034362895579 : Int64)) = (0 : Int32))).2) ?_
      show Steps p.tables e below (T109.setTop (mkF m 239 #[vi p0, vi p1, vi p2, vi p3, vi p4, vi c0, vi c1, vi c2, vi c3, vr b11, vr b21, vr b34, vr b50, vr b69, vi (3 : Int32), vr b50, vr b69, vi c3, vj (-3750763034362895579 : Int64), ss, vj (1099511628211 : Int64), ss, uu, uu, uu, uu] [])) _
      refine XS.iconst X109.here hx rfl (hb hby at_239) ?_
      refine XS.goto X109.here hx rfl (pc0 := 240) (pc' := 244) rfl (hb hby at_240) (by decide) (by decide) ?_
      refine XS.istore X109.here hx rfl (hb hby at_244) rfl (l' := #[vi p0, vi p1, vi p2, vi p3, vi p4, vi c0, vi c1, vi c2, vi c3, vr b11, vr b21, vr b34, vr b50, vr b69, vi (3 : Int32), vr b50, vr b69, vi c3, vj (-3750763034362895579 : Int64), ss, vj (1099511628211 : Int64), ss, vi (1 : Int32), uu, uu, uu]) rfl ?_
      show Steps p.tables e below (T109.setTop (mkF m 246 #[vi p0, vi p1, vi p2, vi p3, vi p4, vi c0, vi c1, vi c2, vi c3, vr b11, vr b21, vr b34, vr b50, vr b69, vi (3 : Int32), vr b50, vr b69, vi c3, vj (-3750763034362895579 : Int64), ss, vj (1099511628211 : Int64), ss, vi (1 : Int32), uu, uu, uu] [])) _
      refine XS.aload X109.here hx rfl (hb hby at_246) rfl rfl ?_
      exact Steps.refl _
    obtain ⟨_, _, ⟨T111, L111, k111, n111⟩, -, X111, ⟨Lc111, hQ111, l111, y111, z111⟩, st111⟩ := Jvm.LawKit.callS X109 hx (y := (⟨"com/example/idunn/idunn/PathHashes", "hash", "(Ljava/lang/String;)J"⟩ : MethodName)) hown18 (mvT hZ18 (hw _ (List.mem_of_getElem? (i := 36) rfl))) (mvT hZ18 (hw _ (List.mem_of_getElem? (i := 37) rfl))) (mvT hZ18 (hw _ (List.mem_of_getElem? (i := 38) rfl))) (mvT hZ18 (hw _ (List.mem_of_getElem? (i := 39) rfl))) (by decide) (backOf (W := 0) (own_hash3 l Z a0 hW b50 t66 c0 c1 c2 T88.heap n0 (by omega) O90 f110) hZ18 (hw _ (List.mem_of_getElem? (i := 39) rfl)) (hw _ (List.mem_of_getElem? (i := 38) rfl)) (by decide) (by decide)) (g := (mkF m 248 #[vi p0, vi p1, vi p2, vi p3, vi p4, vi c0, vi c1, vi c2, vi c3, vr b11, vr b21, vr b34, vr b50, vr b69, vi (3 : Int32), vr b50, vr b69, vi c3, vj (-3750763034362895579 : Int64), ss, vj (1099511628211 : Int64), ss, vi (1 : Int32), uu, uu, uu] [(.ref b50)])) rfl (by rw [hml]; rfl) (argsL := [(.ref b50)]) (rest := []) (lenOf pd_16 rfl) rfl (by show 2 * 0 + _ ≤ _; exact Nat.le_of_eq rfl) (hb hby at_248) (fun _ _ => ⟨rfl, eh109, (by decide : 22 + 0 ≤ 48), (by decide : 68 + 0 ≤ 1216)⟩)
    dsimp only [Pt.U, Pt.locs, Pt.cells, Pt.slots] at X111 l111 y111 z111 st111 hQ111
    subst l111 y111 z111
    obtain ⟨rfl, Nq111, eh111⟩ := hQ111
    have N111 := Fr.app N109 Nq111
    refine own_go st111 ?_
    show own_Fin p e below (T111.setTop (mkF m 251 #[vi p0, vi p1, vi p2, vi p3, vi p4, vi c0, vi c1, vi c2, vi c3, vr b11, vr b21, vr b34, vr b50, vr b69, vi (3 : Int32), vr b50, vr b69, vi c3, vj (-3750763034362895579 : Int64), ss, vj (1099511628211 : Int64), ss, vi (1 : Int32), uu, uu, uu] [(.long (own_fnv [c0, c1, c2]))])) _
    refine own_gs (cur' := T111.setTop (mkF m 262 #[vi p0, vi p1, vi p2, vi p3, vi p4, vi c0, vi c1, vi c2, vi c3, vr b11, vr b21, vr b34, vr b50, vr b69, vi (3 : Int32), vr b50, vr b69, vi c3, vj (-3750763034362895579 : Int64), ss, vj (1099511628211 : Int64), ss, vi (1 : Int32), vj (((own_fnv [c0, c1, c2]) ^^^ (c3.toInt64)) * (1099511628211 : Int64)), ss, uu] [(.ref b69)])) ?_ ?_
    · refine XS.iload X111.here hx rfl (hb hby at_251) rfl ?_
      refine XS.i2l X111.here hx rfl (hb hby at_253) rfl ?_
      refine XS.lxor X111.here hx rfl (hb hby at_254) rfl ?_
      show Steps p.tables e below (T111.setTop (mkF m 255 #[vi p0, vi p1, vi p2, vi p3, vi p4, vi c0, vi c1, vi c2, vi c3, vr b11, vr b21, vr b34, vr b50, vr b69, vi (3 : Int32), vr b50, vr b69, vi c3, vj (-3750763034362895579 : Int64), ss, vj (1099511628211 : Int64), ss, vi (1 : Int32), uu, uu, uu] [(.long ((own_fnv [c0, c1, c2]) ^^^ (c3.toInt64)))])) _
      refine XS.lload X111.here hx rfl (hb hby at_255) rfl ?_
      refine XS.lmul X111.here hx rfl (hb hby at_257) rfl ?_
      refine XS.lstore X111.here hx rfl (hb hby at_258) rfl (l' := #[vi p0, vi p1, vi p2, vi p3, vi p4, vi c0, vi c1, vi c2, vi c3, vr b11, vr b21, vr b34, vr b50, vr b69, vi (3 : Int32), vr b50, vr b69, vi c3, vj (-3750763034362895579 : Int64), ss, vj (1099511628211 : Int64), ss, vi (1 : Int32), vj (((own_fnv [c0, c1, c2]) ^^^ (c3.toInt64)) * (1099511628211 : Int64)), ss, uu]) rfl ?_
      show Steps p.tables e below (T111.setTop (mkF m 260 #[vi p0, vi p1, vi p2, vi p3, vi p4, vi c0, vi c1, vi c2, vi c3, vr b11, vr b21, vr b34, vr b50, vr b69, vi (3 : Int32), vr b50, vr b69, vi c3, vj (-3750763034362895579 : Int64), ss, vj (1099511628211 : Int64), ss, vi (1 : Int32), vj (((own_fnv [c0, c1, c2]) ^^^ (c3.toInt64)) * (1099511628211 : Int64)), ss, uu] [])) _
      refine XS.aload X111.here hx rfl (hb hby at_260) rfl rfl ?_
      exact Steps.refl _
    obtain ⟨_, _, ⟨T112, L112, k112, n112⟩, -, X112, ⟨Lc112, hQ112, l112, y112, z112⟩, st112⟩ := Jvm.LawKit.callS X111 hx (y := (⟨"com/example/idunn/idunn/PathHashes", "hash", "(Ljava/lang/String;)J"⟩ : MethodName)) hown18 (mvT hZ18 (hw _ (List.mem_of_getElem? (i := 36) rfl))) (mvT hZ18 (hw _ (List.mem_of_getElem? (i := 37) rfl))) (mvT hZ18 (hw _ (List.mem_of_getElem? (i := 38) rfl))) (mvT hZ18 (hw _ (List.mem_of_getElem? (i := 39) rfl))) (by decide) (backOf (W := 0) (own_hash4 l Z a0 hW b69 t88 c0 c1 c2 c3 T88.heap n0 (by omega) O90 Fs4) hZ18 (hw _ (List.mem_of_getElem? (i := 39) rfl)) (hw _ (List.mem_of_getElem? (i := 38) rfl)) (by decide) (by decide)) (g := (mkF m 262 #[vi p0, vi p1, vi p2, vi p3, vi p4, vi c0, vi c1, vi c2, vi c3, vr b11, vr b21, vr b34, vr b50, vr b69, vi (3 : Int32), vr b50, vr b69, vi c3, vj (-3750763034362895579 : Int64), ss, vj (1099511628211 : Int64), ss, vi (1 : Int32), vj (((own_fnv [c0, c1, c2]) ^^^ (c3.toInt64)) * (1099511628211 : Int64)), ss, uu] [(.ref b69)])) rfl (by rw [hml]; rfl) (argsL := [(.ref b69)]) (rest := []) (lenOf pd_16 rfl) rfl (by show 2 * 0 + _ ≤ _; exact Nat.le_of_eq rfl) (hb hby at_262) (fun _ _ => ⟨rfl, eh111, (by decide : 22 + 0 ≤ 48), (by decide : 68 + 0 ≤ 1216)⟩)
    dsimp only [Pt.U, Pt.locs, Pt.cells, Pt.slots] at X112 l112 y112 z112 st112 hQ112
    subst l112 y112 z112
    obtain ⟨rfl, Nq112, eh112⟩ := hQ112
    have N112 := Fr.app N111 Nq112
    refine own_go st112 ?_
    show own_Fin p e below (T112.setTop (mkF m 265 #[vi p0, vi p1, vi p2, vi p3, vi p4, vi c0, vi c1, vi c2, vi c3, vr b11, vr b21, vr b34, vr b50, vr b69, vi (3 : Int32), vr b50, vr b69, vi c3, vj (-3750763034362895579 : Int64), ss, vj (1099511628211 : Int64), ss, vi (1 : Int32), vj (((own_fnv [c0, c1, c2]) ^^^ (c3.toInt64)) * (1099511628211 : Int64)), ss, uu] [(.long (own_fnv [c0, c1, c2, c3]))])) _
    refine own_gs (cur' := T112.setTop (mkF m 293 #[vi p0, vi p1, vi p2, vi p3, vi p4, vi c0, vi c1, vi c2, vi c3, vr b11, vr b21, vr b34, vr b50, vr b69, vi (3 : Int32), vr b50, vr b69, vi c3, vj (-3750763034362895579 : Int64), ss, vj (1099511628211 : Int64), ss, vi (1 : Int32), vj (((own_fnv [c0, c1, c2]) ^^^ (c3.toInt64)) * (1099511628211 : Int64)), ss, vi (1 : Int32)] [(.int (1 : Int32))])) ?_ ?_
    · refine XS.lload X112.here hx rfl (hb hby at_265) rfl ?_
      refine XS.lcmp X112.here hx rfl (hb hby at_267) rfl ?_
      refine XS.ifNo X112.here hx rfl (hb hby at_268) rfl ((if0 _ _).trans (teq (((lw_eq _ _).mpr rfl) : (lcmpW (own_fnv [c0, c1, c2, c3]) (((own_fnv [c0, c1, c2]) ^^^ (c3.toInt64)) * (1099511628211 : Int64))) = (0 : Int32))).2) ?_
      show Steps p.tables e below (T112.setTop (mkF m 271 #[vi p0, vi p1, vi p2, vi p3, vi p4, vi c0, vi c1, vi c2, vi c3, vr b11, vr b21, vr b34, vr b50, vr b69, vi (3 : Int32), vr b50, vr b69, vi c3, vj (-3750763034362895579 : Int64), ss, vj (1099511628211 : Int64), ss, vi (1 : Int32), vj (((own_fnv [c0, c1, c2]) ^^^ (c3.toInt64)) * (1099511628211 : Int64)), ss, uu] [])) _
      refine XS.iconst X112.here hx rfl (hb hby at_271) ?_
      refine XS.goto X112.here hx rfl (pc0 := 272) (pc' := 276) rfl (hb hby at_272) (by decide) (by decide) ?_
      refine XS.istore X112.here hx rfl (hb hby at_276) rfl (l' := #[vi p0, vi p1, vi p2, vi p3, vi p4, vi c0, vi c1, vi c2, vi c3, vr b11, vr b21, vr b34, vr b50, vr b69, vi (3 : Int32), vr b50, vr b69, vi c3, vj (-3750763034362895579 : Int64), ss, vj (1099511628211 : Int64), ss, vi (1 : Int32), vj (((own_fnv [c0, c1, c2]) ^^^ (c3.toInt64)) * (1099511628211 : Int64)), ss, vi (1 : Int32)]) rfl ?_
      show Steps p.tables e below (T112.setTop (mkF m 278 #[vi p0, vi p1, vi p2, vi p3, vi p4, vi c0, vi c1, vi c2, vi c3, vr b11, vr b21, vr b34, vr b50, vr b69, vi (3 : Int32), vr b50, vr b69, vi c3, vj (-3750763034362895579 : Int64), ss, vj (1099511628211 : Int64), ss, vi (1 : Int32), vj (((own_fnv [c0, c1, c2]) ^^^ (c3.toInt64)) * (1099511628211 : Int64)), ss, vi (1 : Int32)] [])) _
      refine XS.iload X112.here hx rfl (hb hby at_278) rfl ?_
      refine XS.ifNo X112.here hx rfl (hb hby at_280) rfl ((if0 _ _).trans (feq ((by decide) : ¬ ((1 : Int32) = (0 : Int32)))).1) ?_
      refine XS.iload X112.here hx rfl (hb hby at_283) rfl ?_
      show Steps p.tables e below (T112.setTop (mkF m 285 #[vi p0, vi p1, vi p2, vi p3, vi p4, vi c0, vi c1, vi c2, vi c3, vr b11, vr b21, vr b34, vr b50, vr b69, vi (3 : Int32), vr b50, vr b69, vi c3, vj (-3750763034362895579 : Int64), ss, vj (1099511628211 : Int64), ss, vi (1 : Int32), vj (((own_fnv [c0, c1, c2]) ^^^ (c3.toInt64)) * (1099511628211 : Int64)), ss, vi (1 : Int32)] [(.int (1 : Int32))])) _
      refine XS.ifNo X112.here hx rfl (hb hby at_285) rfl ((if0 _ _).trans (feq ((by decide) : ¬ ((1 : Int32) = (0 : Int32)))).1) ?_
      refine XS.iconst X112.here hx rfl (hb hby at_288) ?_
      refine XS.goto X112.here hx rfl (pc0 := 289) (pc' := 293) rfl (hb hby at_289) (by decide) (by decide) ?_
      exact Steps.refl _
    obtain ⟨fs, hr, hrun, hended, hRE⟩ := X112.leaveW hS18 (show T18.heap.size ≤ T112.heap.size by rw [eh112]; omega) (v := (some (.int (1 : Int32)))) (fun h => by rw [Bd.returns] at h; cases h)
    refine ⟨_, _, retN X112 hx (t := .boolean) Bd.returns (by simp) (hb hby at_293) hr, hrun, hended, _, _, rfl, ?_, ?_, hRE.1, hRE.2.1, hRE.2.2.1, hRE.2.2.2.mono (by decide) (by decide)⟩
    · show own_law_Q Z p0 p1 p2 p3 p4 h0 n0 (some (.int (1 : Int32))) T112.heap _
      rw [eh112]
      exact ⟨rfl, N112⟩
    · have hfin := CH90.trans (CHv.at X112 hZ18 hEL CH90.1)
      rw [hh]
      show CHr Z own_EL s.vm h0 T112.vm T112.heap
      rw [eh112]
      exact hfin
set_option maxRecDepth 65536 in
set_option maxHeartbeats 40000000 in
theorem comes_1 {Post : Tables → Env → Array Value → State → Outcome → State → Prop} (hpost : ∀ tb e args s v u, (limb_1_1.after args s (.returned v) u = true ∧ limb_1_2.after args s (.returned v) u = true ∧ True) → ReturnedEndW s (.returned v) u (Jvm.fieldLocs frame_1_writes args s ++ Jvm.arrayLocs frame_1_arrays args s ++ Jvm.staticLocs frame_1_statics s) 48 1216 → Post tb e args s (.returned v) u) :
    ArmFor flags0 classFile x code maxLocals ret World_1 tables_1 room_1 Calls_1 rest_1 Pre_1 Post := by
  intro l hfl _ _ p e ha hc hk s m args below hf hA hF happ hP
  obtain ⟨hcalls, hrest, hpre⟩ := hP
  obtain ⟨-, -, -, hnamed, -, -, -, hat⟩ := (Spec.applies_iff hf).mp happ
  obtain ⟨hg, hn⟩ := and_e (Cond.before_iff.mp (show (Jvm.Cond.and given_1 narrow_1).before args s = true from hpre))
  obtain ⟨ga0, gb0⟩ := and_e hg
  obtain ⟨ga1, gb1⟩ := and_e gb0
  obtain ⟨ga2, gb2⟩ := and_e gb1
  obtain ⟨ga3, gb3⟩ := and_e gb2
  obtain ⟨ga4, gb4⟩ := and_e gb3
  obtain ⟨w0, w1, w2, w3, w4, rfl⟩ : ∃ w0 w1 w2 w3 w4 : Value, args = #[w0, w1, w2, w3, w4] := by
    have hs : args.size = 5 := by simpa [Cond.value, given_1] using ga0
    obtain ⟨L⟩ := args
    match L, hs with
    | [w0, w1, w2, w3, w4], _ => exact ⟨w0, w1, w2, w3, w4, rfl⟩
  have hw := fun d (hd : d ∈ tables_1) => atoms_spec (ws := Jvm.Cond.code x code maxLocals ret :: tables_1) hat d (List.mem_cons_of_mem _ hd)
  obtain ⟨hsets, hown0⟩ := atoms_of _ (rest_1_c_eq ▸ (show rest_1_c.before _ s = true from hrest))
  obtain ⟨i0, ei0⟩ := is_v ga1
  obtain rfl : w0 = (.int i0) := Option.some.inj ei0
  obtain ⟨i1, ei1⟩ := is_v ga2
  obtain rfl : w1 = (.int i1) := Option.some.inj ei1
  obtain ⟨i2, ei2⟩ := is_v ga3
  obtain rfl : w2 = (.int i2) := Option.some.inj ei2
  obtain ⟨i3, ei3⟩ := is_v ga4
  obtain rfl : w3 = (.int i3) := Option.some.inj ei3
  obtain ⟨i4, ei4⟩ := is_v gb4
  obtain rfl : w4 = (.int i4) := Option.some.inj ei4
  have n5 := not_v (Cond.before_iff.mp (hsets _ (List.mem_of_getElem? (i := 2) rfl)))
  obtain ⟨g11, e10⟩ := is_v (Cond.before_iff.mp (hsets _ (List.mem_of_getElem? (i := 1) rfl)))
  have S12 : Sta s s.heap "java/lang/String" "COMPACT_STRINGS" "Z" (.int g11) := Sta.start e10 (Or.inl (hsets _ (List.mem_of_getElem? (i := 0) rfl)))
  have c17 : ¬ (g11 = (0 : Int32)) := gotF (Cond.eq_ints e10 (Term.int_eval (0))) n5
  obtain ⟨v13, e14, r15⟩ := isR_v (Cond.before_iff.mp (hsets _ (List.mem_of_getElem? (i := 8) rfl)))
  have S16 : Sta s s.heap "jdk/internal/util/Preconditions" "SIOOBE_FORMATTER" "Ljava/util/function/BiFunction;" v13 := Sta.start e14 (Or.inl (hsets _ (List.mem_of_getElem? (i := 7) rfl)))
  have Sa : Sta s s.heap "java/lang/StringUTF16" "$assertionsDisabled" "Z" (.int (1 : Int32)) := Sta.start (eqv_i (Term.int_eval (1)) (Cond.before_iff.mp (hsets _ (List.mem_of_getElem? (i := 12) rfl)))) (Or.inl (hsets _ (List.mem_of_getElem? (i := 11) rfl)))
  have Sh : Sta s s.heap "java/lang/StringUTF16" "HI_BYTE_SHIFT" "I" (.int (0 : Int32)) := Sta.start (eqv_i (Term.int_eval (0)) (Cond.before_iff.mp (hsets _ (List.mem_of_getElem? (i := 15) rfl)))) (Or.inl (hsets _ (List.mem_of_getElem? (i := 14) rfl)))
  have Sl : Sta s s.heap "java/lang/StringUTF16" "LO_BYTE_SHIFT" "I" (.int (8 : Int32)) := Sta.start (eqv_i (Term.int_eval (8)) (Cond.before_iff.mp (hsets _ (List.mem_of_getElem? (i := 18) rfl)))) (Or.inl (hsets _ (List.mem_of_getElem? (i := 17) rfl)))
  have hW : own_W s _ := ⟨hw, ⟨g11, S12, c17⟩, ⟨v13, S16, r15⟩, Sa, Sh, Sl⟩
  have hcw := hsets _ (List.mem_of_getElem? (i := 2) rfl)
  have hCH : CHv s own_EL s.vm s.heap := CHv.start (own_EW hw) (fun q hq => hcalls.1 q (by simpa [own_EL, consts_1] using hq)) hcw (hw _ (List.mem_of_getElem? (i := 16) rfl)) (hw _ (List.mem_of_getElem? (i := 2) rfl))
  obtain ⟨n, o, h1, h2, h3, _, L, rfl, ⟨rfl, N⟩, -, hq⟩ := own_law l s _ hW tables_1 i0 i1 i2 i3 i4 s.heap s.heap.size (Nat.le_refl _) (Old.start s) p e ha hc hk s m _ below hf ((Spec.applies_iff_loose hf).mp happ).1 ⟨rfl, State.Warmed39.refl s, rfl, hCH, all0⟩ trivial
  refine ⟨n, _, h1, h2, h3, hpost _ _ _ _ _ _ ⟨Cond.after_iff.mpr rfl, Cond.after_iff.mpr (eq_i res_at (Term.int_eval (1)) rfl), trivial⟩ ⟨hq.1, hq.2.1, hq.2.2.1, (hq.2.2.2.sift fun y hy => Or.inr (N y hy)).mono (by decide) (by decide)⟩⟩
theorem main_1_1 : Claimed_1_1 := comes_1 fun _ _ _ _ _ _ h hF => ⟨h.1, hF⟩
theorem main_1_2 : Claimed_1_2 := comes_1 fun _ _ _ _ _ _ h hF => ⟨h.2.1, hF⟩
end Jvm.Pilot.@@N@@
namespace Jvm.Pilot.@@N@@
open Jvm Jvm.ClassFile Sem Op Lib Jvm.Free Jvm.Stand Jvm.Pilot.@@N@@.Jvm.D
/-! MADE BY PROGRAM (witnessworld.py) out of the Statement's table words and the real class files: 20 classes; the members and pool entries that the words name. The judged class is class 1, her method 1. -/
namespace start1
open Jvm.ClassFile
def u (s : String) : CpInfo := .utf8 (stringToUtf16 s)
/-- a pool by its gaps: so many unusable entries, then the entry; so many at the end -/
def gap : Nat → List CpInfo → List CpInfo
  | 0, r => r
  | n + 1, r => .unusable :: gap n r
def poolList (es : List (Nat × CpInfo)) (last : Nat) : List CpInfo := es.foldr (fun e r => gap e.1 (e.2 :: r)) (gap last [])
def pool (es : List (Nat × CpInfo)) (last : Nat) : Array CpInfo := ⟨poolList es last⟩
def fileOf (pool : Array CpInfo) (this : Nat) (attrs : Array Attribute := #[]) (ms : Array MethodInfo := #[]) (fl : Nat := 33) (sup : Nat := 0) (ifs : Array Nat := #[]) (fds : Array FieldInfo := #[]) : ClassFile where
  minorVersion := 0
  majorVersion := 65
  constantPool := pool
  accessFlags := fl
  thisClass := this
  superClass := sup
  interfaces := ifs
  fields := fds
  methods := ms
  attributes := attrs
def plain (name : String) (sup : Option ClassId) : Class where
  name := name
  kind := .ordinary
  loader := none
  accessFlags := 33
  super := sup
  interfaces := #[]
  cf := none
  fields := #[]
  methods := #[]
  instanceTypes := #[]
  staticTypes := #[]
  resolved := #[]
  callSites := []
  init := .initialized
  statics := none
  mirror := none

def pool0 : Array CpInfo := pool [(5, u "<init>"), (0, u "()V"), (1, .class_ 10), (1, u "java/lang/Object")] 113

def k0c0 : Code := { maxStack := 0, maxLocals := 1, code := object_method_1_code, exceptionTable := #[], attributes := #[] }
def k0m0 : Method := { name := "<init>", desc := "()V", sig := { parameters := [], returnType := none }, accessFlags := 1, code := some k0c0 }
/-- java/lang/Object -/
def k0 : Class := { plain "java/lang/Object" none with
  accessFlags := 33
  interfaces := #[]
  cf := some (fileOf pool0 8 #[] #[{ accessFlags := 1, nameIndex := 5, descriptorIndex := 6, attributes := #[] }] 33 0 #[] #[])
  fields := #[]
  methods := #[k0m0]
  instanceTypes := #[]
  staticTypes := #[]
  resolved := Array.replicate 124 none
  statics := none }

def pool1 : Array CpInfo := pool [(2, .class_ 4), (1, u "java/lang/Object"), (0, u "<init>"), (0, u "()V"), (0, .integer 65535), (0, .class_ 9), (0, u "java/lang/String"), (0, .methodref 8 11), (0, .nameAndType 5 12), (0, u "([C)V"), (0, .long 14695981039346656037), (1, .long 1099511628211), (1, .methodref 18 19), (0, .class_ 20), (0, .nameAndType 21 22), (0, u "com/example/idunn/idunn/PathHashes"), (0, u "hash"), (0, u "(Ljava/lang/String;)J"), (0, .class_ 24), (0, u "com/example/idunn/idunn/PathHashesHashPinLaw"), (2, u "law"), (0, u "(IIIII)Z")] 3

def k1m0 : Method := { name := "<init>", desc := "()V", sig := { parameters := [], returnType := none }, accessFlags := 1, code := none }
def k1c1 : Code := { maxStack := 6, maxLocals := 26, code := code, exceptionTable := #[], attributes := #[] }
def k1m1 : Method := { name := "law", desc := "(IIIII)Z", sig := { parameters := [.int, .int, .int, .int, .int], returnType := some .boolean }, accessFlags := 9, code := some k1c1 }
/-- com/example/idunn/idunn/PathHashesHashPinLaw -/
def k1 : Class := { plain "com/example/idunn/idunn/PathHashesHashPinLaw" (some 0) with
  accessFlags := 49
  interfaces := #[]
  cf := some (fileOf pool1 23 #[] #[{ accessFlags := 1, nameIndex := 5, descriptorIndex := 6, attributes := #[] }, { accessFlags := 9, nameIndex := 27, descriptorIndex := 28, attributes := #[] }] 49 2 #[] #[])
  fields := #[]
  methods := #[k1m0, k1m1]
  instanceTypes := #[]
  staticTypes := #[]
  resolved := Array.replicate 32 none
  statics := none }

def pool2 : Array CpInfo := pool [(1, .class_ 2), (0, u "java/io/Serializable"), (0, .class_ 4), (0, u "java/lang/Object")] 2

/-- java/io/Serializable -/
def k2 : Class := { plain "java/io/Serializable" (some 0) with
  accessFlags := 1537
  interfaces := #[]
  cf := some (fileOf pool2 1 #[] #[] 1537 3 #[] #[])
  fields := #[]
  methods := #[]
  instanceTypes := #[]
  staticTypes := #[]
  resolved := Array.replicate 7 none
  statics := none }

def pool3 : Array CpInfo := pool [(1, .class_ 2), (0, u "java/lang/Comparable"), (0, .class_ 4), (0, u "java/lang/Object")] 7

/-- java/lang/Comparable -/
def k3 : Class := { plain "java/lang/Comparable" (some 0) with
  accessFlags := 1537
  interfaces := #[]
  cf := some (fileOf pool3 1 #[] #[] 1537 3 #[] #[])
  fields := #[]
  methods := #[]
  instanceTypes := #[]
  staticTypes := #[]
  resolved := Array.replicate 12 none
  statics := none }

def pool4 : Array CpInfo := pool [(2, .class_ 4), (1, u "java/lang/CharSequence"), (42, .class_ 48), (0, u "java/lang/CharSequence$1CodePointIterator"), (10, .class_ 60), (0, u "java/lang/CharSequence$1CharIterator"), (5, .class_ 67), (0, u "java/lang/Object")] 63

/-- java/lang/CharSequence -/
def k4 : Class := { plain "java/lang/CharSequence" (some 0) with
  accessFlags := 1537
  interfaces := #[]
  cf := some (fileOf pool4 2 #[.nestMembers #[47, 59]] #[] 1537 66 #[] #[])
  fields := #[]
  methods := #[]
  instanceTypes := #[]
  staticTypes := #[]
  resolved := Array.replicate 131 none
  statics := none }

def pool5 : Array CpInfo := pool [(1, .class_ 2), (0, u "java/lang/constant/Constable"), (0, .class_ 4), (0, u "java/lang/Object")] 6

/-- java/lang/constant/Constable -/
def k5 : Class := { plain "java/lang/constant/Constable" (some 0) with
  accessFlags := 1537
  interfaces := #[]
  cf := some (fileOf pool5 1 #[] #[] 1537 3 #[] #[])
  fields := #[]
  methods := #[]
  instanceTypes := #[]
  staticTypes := #[]
  resolved := Array.replicate 11 none
  statics := none }

def pool6 : Array CpInfo := pool [(1, .class_ 2), (0, u "java/lang/constant/ConstantDesc"), (0, .class_ 4), (0, u "java/lang/Object")] 32

/-- java/lang/constant/ConstantDesc -/
def k6 : Class := { plain "java/lang/constant/ConstantDesc" (some 0) with
  accessFlags := 1537
  interfaces := #[]
  cf := some (fileOf pool6 1 #[] #[] 1537 3 #[] #[])
  fields := #[]
  methods := #[]
  instanceTypes := #[]
  staticTypes := #[]
  resolved := Array.replicate 37 none
  statics := none }

def pool7 : Array CpInfo := pool [(1, .methodref 2 3), (0, .class_ 4), (0, .nameAndType 5 6), (0, u "java/lang/Object"), (0, u "<init>"), (0, u "()V"), (0, .string 8), (0, u ""), (0, .fieldref 10 11), (0, .class_ 12), (0, .nameAndType 13 14), (0, u "java/lang/String"), (0, u "value"), (0, u "[B"), (0, .fieldref 10 16), (0, .nameAndType 17 18), (0, u "coder"), (0, u "B"), (2, u "hash"), (0, u "I"), (2, u "hashIsZero"), (0, u "Z"), (0, .methodref 10 28), (0, .nameAndType 5 29), (0, u "([CIILjava/lang/Void;)V"), (8, .fieldref 10 39), (0, .nameAndType 40 26), (0, u "COMPACT_STRINGS"), (1, .class_ 44), (1, u "java/lang/StringUTF16"), (0, u "compress"), (1, .methodref 42 48), (0, .nameAndType 49 50), (0, u "coderFromArrayLen"), (0, u "([BI)B"), (56, .class_ 109), (1, u "java/lang/StringLatin1"), (32, u "()Z"), (34, .methodref 42 178), (0, .nameAndType 45 179), (0, u "([CII)[B"), (154, u "()I"), (0, .methodref 10 336), (0, .nameAndType 17 337), (0, u "()B"), (25, u "([BI)C"), (27, u "(II)V"), (35, u "(I)C"), (64, .methodref 10 493), (0, .nameAndType 494 142), (0, u "isLatin1"), (0, .methodref 107 496), (0, .nameAndType 497 363), (0, u "charAt"), (0, .methodref 42 496), (2, u "checkIndex"), (5, u "length"), (67, .class_ 576), (0, u "java/lang/CharSequence"), (22, u "CASE_INSENSITIVE_ORDER"), (0, u "Ljava/util/Comparator;"), (409, u "([C)V"), (42, .fieldref 1054 1055), (0, .class_ 1056), (0, .nameAndType 1057 1058), (0, u "jdk/internal/util/Preconditions"), (0, u "SIOOBE_FORMATTER"), (0, u "Ljava/util/function/BiFunction;"), (0, .methodref 1054 1060), (0, .nameAndType 501 1061), (0, u "(IILjava/util/function/BiFunction;)I"), (39, u "serialPersistentFields"), (0, u "[Ljava/io/ObjectStreamField;"), (0, .class_ 1104), (0, u "java/lang/String$CaseInsensitiveComparator"), (1, .class_ 1107), (0, u "java/io/Serializable"), (0, .class_ 1109), (0, u "java/lang/Comparable"), (0, .class_ 1111), (0, u "java/lang/constant/Constable"), (0, .class_ 1113), (0, u "java/lang/constant/ConstantDesc"), (2, u "serialVersionUID"), (0, u "J"), (3, u "REPL"), (0, u "C"), (2, u "LATIN1"), (1, u "UTF16")] 323

def k7m0 : Method := { name := "<init>", desc := "()V", sig := { parameters := [], returnType := none }, accessFlags := 1, code := none }
def k7c1 : Code := { maxStack := 5, maxLocals := 2, code := jdk_42_method_3_code, exceptionTable := #[], attributes := #[] }
def k7m1 : Method := { name := "<init>", desc := "([C)V", sig := { parameters := [(.array .char)], returnType := none }, accessFlags := 1, code := some k7c1 }
def k7c2 : Code := { maxStack := 2, maxLocals := 1, code := jdk_42_method_54_code, exceptionTable := #[], attributes := #[] }
def k7m2 : Method := { name := "length", desc := "()I", sig := { parameters := [], returnType := some .int }, accessFlags := 1, code := some k7c2 }
def k7c3 : Code := { maxStack := 2, maxLocals := 2, code := jdk_42_method_56_code, exceptionTable := #[], attributes := #[] }
def k7m3 : Method := { name := "charAt", desc := "(I)C", sig := { parameters := [.int], returnType := some .char }, accessFlags := 1, code := some k7c3 }
def k7c4 : Code := { maxStack := 4, maxLocals := 6, code := jdk_42_method_149_code, exceptionTable := #[], attributes := #[] }
def k7m4 : Method := { name := "<init>", desc := "([CIILjava/lang/Void;)V", sig := { parameters := [(.array .char), .int, .int, (.object "java/lang/Void")], returnType := none }, accessFlags := 2, code := some k7c4 }
def k7c5 : Code := { maxStack := 1, maxLocals := 1, code := jdk_42_method_152_code, exceptionTable := #[], attributes := #[] }
def k7m5 : Method := { name := "coder", desc := "()B", sig := { parameters := [], returnType := some .byte }, accessFlags := 0, code := some k7c5 }
def k7c6 : Code := { maxStack := 1, maxLocals := 1, code := jdk_42_method_154_code, exceptionTable := #[], attributes := #[] }
def k7m6 : Method := { name := "isLatin1", desc := "()Z", sig := { parameters := [], returnType := some .boolean }, accessFlags := 0, code := some k7c6 }
def k7c7 : Code := { maxStack := 3, maxLocals := 2, code := jdk_42_method_155_code, exceptionTable := #[], attributes := #[] }
def k7m7 : Method := { name := "checkIndex", desc := "(II)V", sig := { parameters := [.int, .int], returnType := none }, accessFlags := 8, code := some k7c7 }
/-- java/lang/String -/
def k7 : Class := { plain "java/lang/String" (some 0) with
  accessFlags := 49
  interfaces := #[2, 3, 4, 5, 6]
  cf := some (fileOf pool7 10 #[.nestMembers #[1103]] #[{ accessFlags := 1, nameIndex := 5, descriptorIndex := 6, attributes := #[] }, { accessFlags := 1, nameIndex := 5, descriptorIndex := 1010, attributes := #[] }, { accessFlags := 1, nameIndex := 507, descriptorIndex := 334, attributes := #[] }, { accessFlags := 1, nameIndex := 497, descriptorIndex := 427, attributes := #[] }, { accessFlags := 2, nameIndex := 5, descriptorIndex := 29, attributes := #[] }, { accessFlags := 0, nameIndex := 17, descriptorIndex := 337, attributes := #[] }, { accessFlags := 0, nameIndex := 494, descriptorIndex := 142, attributes := #[] }, { accessFlags := 8, nameIndex := 501, descriptorIndex := 391, attributes := #[] }] 49 2 #[1106, 1108, 575, 1110, 1112] #[{ accessFlags := 18, nameIndex := 13, descriptorIndex := 14, attributes := #[] }, { accessFlags := 18, nameIndex := 17, descriptorIndex := 18, attributes := #[] }, { accessFlags := 2, nameIndex := 21, descriptorIndex := 22, attributes := #[] }, { accessFlags := 2, nameIndex := 25, descriptorIndex := 26, attributes := #[] }, { accessFlags := 26, nameIndex := 1116, descriptorIndex := 1117, attributes := #[] }, { accessFlags := 24, nameIndex := 40, descriptorIndex := 26, attributes := #[] }, { accessFlags := 26, nameIndex := 1101, descriptorIndex := 1102, attributes := #[] }, { accessFlags := 26, nameIndex := 1121, descriptorIndex := 1122, attributes := #[] }, { accessFlags := 25, nameIndex := 599, descriptorIndex := 600, attributes := #[] }, { accessFlags := 24, nameIndex := 1125, descriptorIndex := 18, attributes := #[] }, { accessFlags := 24, nameIndex := 1127, descriptorIndex := 18, attributes := #[] }])
  fields := #[{ name := "value", type := (.array .byte), accessFlags := 18, slot := 0, constantValue := 0 }, { name := "coder", type := .byte, accessFlags := 18, slot := 1, constantValue := 0 }, { name := "hash", type := .int, accessFlags := 2, slot := 2, constantValue := 0 }, { name := "hashIsZero", type := .boolean, accessFlags := 2, slot := 3, constantValue := 0 }, { name := "serialVersionUID", type := .long, accessFlags := 26, slot := 0, constantValue := 0 }, { name := "COMPACT_STRINGS", type := .boolean, accessFlags := 24, slot := 1, constantValue := 0 }, { name := "serialPersistentFields", type := (.array (.object "java/io/ObjectStreamField")), accessFlags := 26, slot := 2, constantValue := 0 }, { name := "REPL", type := .char, accessFlags := 26, slot := 3, constantValue := 0 }, { name := "CASE_INSENSITIVE_ORDER", type := (.object "java/util/Comparator"), accessFlags := 25, slot := 4, constantValue := 0 }, { name := "LATIN1", type := .byte, accessFlags := 24, slot := 5, constantValue := 0 }, { name := "UTF16", type := .byte, accessFlags := 24, slot := 6, constantValue := 0 }]
  methods := #[k7m0, k7m1, k7m2, k7m3, k7m4, k7m5, k7m6, k7m7]
  instanceTypes := #[(.array .byte), .byte, .int, .boolean]
  staticTypes := #[.long, .boolean, (.array (.object "java/io/ObjectStreamField")), .char, (.object "java/util/Comparator"), .byte, .byte]
  resolved := Array.replicate 1451 none
  statics := some 0 }

def pool8 : Array CpInfo := pool [(3, .class_ 4), (0, u "java/lang/String"), (1, .class_ 8), (1, u "java/lang/Object"), (0, u "<init>"), (0, u "()V"), (0, .methodref 12 13), (0, .class_ 14), (0, .nameAndType 15 16), (0, u "java/lang/StringUTF16"), (0, u "newBytesLength"), (0, u "(I)I"), (3, .integer 1073741823), (23, .fieldref 12 45), (0, .nameAndType 46 47), (0, u "$assertionsDisabled"), (0, u "Z"), (0, .methodref 12 49), (0, .nameAndType 50 51), (0, u "length"), (0, u "([B)I"), (7, .fieldref 12 60), (0, .nameAndType 61 62), (0, u "HI_BYTE_SHIFT"), (0, u "I"), (0, .fieldref 12 64), (0, .nameAndType 65 62), (0, u "LO_BYTE_SHIFT"), (1, .methodref 12 68), (0, .nameAndType 69 70), (0, u "checkIndex"), (0, u "(I[B)V"), (0, .methodref 12 72), (0, .nameAndType 73 74), (0, u "getChar"), (0, u "([BI)C"), (32, .methodref 12 108), (0, .nameAndType 109 110), (0, u "newBytesFor"), (0, u "(I)[B"), (0, .methodref 12 112), (0, .nameAndType 113 114), (0, u "putChar"), (0, u "([BII)V"), (0, .methodref 12 116), (0, .nameAndType 117 118), (0, u "compress"), (0, u "([CI[BII)I"), (0, .methodref 12 120), (0, .nameAndType 121 122), (0, u "toBytes"), (0, u "([CII)[B"), (138, u "coderFromArrayLen"), (0, u "([BI)B"), (106, .class_ 371), (1, u "java/lang/StringUTF16$LinesSpliterator"), (20, u "charAt"), (21, .methodref 3 415), (0, .nameAndType 69 416), (0, u "(II)V"), (13, u "MAX_LENGTH"), (196, .class_ 628), (0, u "java/lang/StringUTF16$CodePointsSpliterator"), (0, .class_ 630), (0, u "java/lang/StringUTF16$CharsSpliterator")] 4

def k8m0 : Method := { name := "<init>", desc := "()V", sig := { parameters := [], returnType := none }, accessFlags := 0, code := none }
def k8c1 : Code := { maxStack := 1, maxLocals := 1, code := jdk_52_method_2_code, exceptionTable := #[], attributes := #[] }
def k8m1 : Method := { name := "newBytesFor", desc := "(I)[B", sig := { parameters := [.int], returnType := some (.array .byte) }, accessFlags := 9, code := some k8c1 }
def k8c2 : Code := { maxStack := 4, maxLocals := 1, code := jdk_52_method_3_code, exceptionTable := #[], attributes := #[] }
def k8m2 : Method := { name := "newBytesLength", desc := "(I)I", sig := { parameters := [.int], returnType := some .int }, accessFlags := 9, code := some k8c2 }
def k8c3 : Code := { maxStack := 4, maxLocals := 3, code := jdk_52_method_4_code, exceptionTable := #[], attributes := #[] }
def k8m3 : Method := { name := "putChar", desc := "([BII)V", sig := { parameters := [(.array .byte), .int, .int], returnType := none }, accessFlags := 8, code := some k8c3 }
def k8c4 : Code := { maxStack := 3, maxLocals := 2, code := jdk_52_method_5_code, exceptionTable := #[], attributes := #[] }
def k8m4 : Method := { name := "getChar", desc := "([BI)C", sig := { parameters := [(.array .byte), .int], returnType := some .char }, accessFlags := 8, code := some k8c4 }
def k8c5 : Code := { maxStack := 2, maxLocals := 1, code := jdk_52_method_6_code, exceptionTable := #[], attributes := #[] }
def k8m5 : Method := { name := "length", desc := "([B)I", sig := { parameters := [(.array .byte)], returnType := some .int }, accessFlags := 9, code := some k8c5 }
def k8c6 : Code := { maxStack := 4, maxLocals := 5, code := jdk_52_method_14_code, exceptionTable := #[], attributes := #[] }
def k8m6 : Method := { name := "toBytes", desc := "([CII)[B", sig := { parameters := [(.array .char), .int, .int], returnType := some (.array .byte) }, accessFlags := 9, code := some k8c6 }
def k8c7 : Code := { maxStack := 2, maxLocals := 2, code := jdk_52_method_15_code, exceptionTable := #[], attributes := #[] }
def k8m7 : Method := { name := "coderFromArrayLen", desc := "([BI)B", sig := { parameters := [(.array .byte), .int], returnType := some .byte }, accessFlags := 8, code := some k8c7 }
def k8c8 : Code := { maxStack := 5, maxLocals := 6, code := jdk_52_method_16_code, exceptionTable := #[], attributes := #[] }
def k8m8 : Method := { name := "compress", desc := "([CII)[B", sig := { parameters := [(.array .char), .int, .int], returnType := some (.array .byte) }, accessFlags := 9, code := some k8c8 }
def k8c9 : Code := { maxStack := 3, maxLocals := 7, code := jdk_52_method_21_code, exceptionTable := #[], attributes := #[] }
def k8m9 : Method := { name := "compress", desc := "([CI[BII)I", sig := { parameters := [(.array .char), .int, (.array .byte), .int, .int], returnType := some .int }, accessFlags := 9, code := some k8c9 }
def k8c10 : Code := { maxStack := 2, maxLocals := 2, code := jdk_52_method_83_code, exceptionTable := #[], attributes := #[] }
def k8m10 : Method := { name := "charAt", desc := "([BI)C", sig := { parameters := [(.array .byte), .int], returnType := some .char }, accessFlags := 9, code := some k8c10 }
def k8c11 : Code := { maxStack := 2, maxLocals := 2, code := jdk_52_method_91_code, exceptionTable := #[], attributes := #[] }
def k8m11 : Method := { name := "checkIndex", desc := "(I[B)V", sig := { parameters := [.int, (.array .byte)], returnType := none }, accessFlags := 9, code := some k8c11 }
/-- java/lang/StringUTF16 -/
def k8 : Class := { plain "java/lang/StringUTF16" (some 0) with
  accessFlags := 48
  interfaces := #[]
  cf := some (fileOf pool8 12 #[.nestMembers #[627, 629, 369]] #[{ accessFlags := 0, nameIndex := 9, descriptorIndex := 10, attributes := #[] }, { accessFlags := 9, nameIndex := 109, descriptorIndex := 110, attributes := #[] }, { accessFlags := 9, nameIndex := 15, descriptorIndex := 16, attributes := #[] }, { accessFlags := 8, nameIndex := 113, descriptorIndex := 114, attributes := #[] }, { accessFlags := 8, nameIndex := 73, descriptorIndex := 74, attributes := #[] }, { accessFlags := 9, nameIndex := 50, descriptorIndex := 51, attributes := #[] }, { accessFlags := 9, nameIndex := 121, descriptorIndex := 122, attributes := #[] }, { accessFlags := 8, nameIndex := 261, descriptorIndex := 262, attributes := #[] }, { accessFlags := 9, nameIndex := 117, descriptorIndex := 122, attributes := #[] }, { accessFlags := 9, nameIndex := 117, descriptorIndex := 118, attributes := #[] }, { accessFlags := 9, nameIndex := 392, descriptorIndex := 74, attributes := #[] }, { accessFlags := 9, nameIndex := 69, descriptorIndex := 70, attributes := #[] }] 48 6 #[] #[{ accessFlags := 26, nameIndex := 61, descriptorIndex := 62, attributes := #[] }, { accessFlags := 26, nameIndex := 65, descriptorIndex := 62, attributes := #[] }, { accessFlags := 24, nameIndex := 430, descriptorIndex := 62, attributes := #[] }, { accessFlags := 4120, nameIndex := 46, descriptorIndex := 47, attributes := #[] }])
  fields := #[{ name := "HI_BYTE_SHIFT", type := .int, accessFlags := 26, slot := 0, constantValue := 0 }, { name := "LO_BYTE_SHIFT", type := .int, accessFlags := 26, slot := 1, constantValue := 0 }, { name := "MAX_LENGTH", type := .int, accessFlags := 24, slot := 2, constantValue := 0 }, { name := "$assertionsDisabled", type := .boolean, accessFlags := 4120, slot := 3, constantValue := 0 }]
  methods := #[k8m0, k8m1, k8m2, k8m3, k8m4, k8m5, k8m6, k8m7, k8m8, k8m9, k8m10, k8m11]
  instanceTypes := #[]
  staticTypes := #[.int, .int, .int, .boolean]
  resolved := Array.replicate 635 none
  statics := some 1 }

def pool9 : Array CpInfo := pool [(2, .class_ 4), (1, u "java/lang/Object"), (0, u "<init>"), (0, u "()V"), (1, .class_ 10), (1, u "com/example/idunn/idunn/PathHashes"), (0, u "hashes"), (0, u "[J"), (2, u "sorted"), (0, u "Z"), (2, u "size"), (0, u "I"), (8, u "hash"), (0, u "(Ljava/lang/String;)J"), (8, .long 14695981039346656037), (1, .methodref 42 43), (0, .class_ 44), (0, .nameAndType 45 46), (0, u "java/lang/String"), (0, u "length"), (0, u "()I"), (0, .methodref 42 48), (0, .nameAndType 49 50), (0, u "charAt"), (0, u "(I)C"), (0, .long 1099511628211), (1, u "FNV_OFFSET"), (0, u "J"), (1, u "FNV_PRIME")] 9

def k9m0 : Method := { name := "<init>", desc := "()V", sig := { parameters := [], returnType := none }, accessFlags := 0, code := none }
def k9c1 : Code := { maxStack := 4, maxLocals := 4, code := prog_25_method_4_code, exceptionTable := #[], attributes := #[] }
def k9m1 : Method := { name := "hash", desc := "(Ljava/lang/String;)J", sig := { parameters := [(.object "java/lang/String")], returnType := some .long }, accessFlags := 8, code := some k9c1 }
/-- com/example/idunn/idunn/PathHashes -/
def k9 : Class := { plain "com/example/idunn/idunn/PathHashes" (some 0) with
  accessFlags := 32
  interfaces := #[]
  cf := some (fileOf pool9 8 #[] #[{ accessFlags := 0, nameIndex := 5, descriptorIndex := 6, attributes := #[] }, { accessFlags := 8, nameIndex := 29, descriptorIndex := 30, attributes := #[] }] 32 2 #[] #[{ accessFlags := 26, nameIndex := 53, descriptorIndex := 54, attributes := #[] }, { accessFlags := 26, nameIndex := 56, descriptorIndex := 54, attributes := #[] }, { accessFlags := 2, nameIndex := 11, descriptorIndex := 12, attributes := #[] }, { accessFlags := 2, nameIndex := 19, descriptorIndex := 20, attributes := #[] }, { accessFlags := 2, nameIndex := 15, descriptorIndex := 16, attributes := #[] }])
  fields := #[{ name := "FNV_OFFSET", type := .long, accessFlags := 26, slot := 0, constantValue := 0 }, { name := "FNV_PRIME", type := .long, accessFlags := 26, slot := 1, constantValue := 0 }, { name := "hashes", type := (.array .long), accessFlags := 2, slot := 0, constantValue := 0 }, { name := "size", type := .int, accessFlags := 2, slot := 1, constantValue := 0 }, { name := "sorted", type := .boolean, accessFlags := 2, slot := 2, constantValue := 0 }]
  methods := #[k9m0, k9m1]
  instanceTypes := #[(.array .long), .int, .boolean]
  staticTypes := #[.long, .long]
  resolved := Array.replicate 66 none
  statics := none }

def pool10 : Array CpInfo := pool [(1, .class_ 2), (0, u "java/lang/String"), (1, .class_ 6), (1, u "java/lang/Object"), (0, u "<init>"), (0, u "()V"), (0, .methodref 1 10), (0, .nameAndType 11 12), (0, u "checkIndex"), (0, u "(II)V"), (1, .class_ 16), (1, u "java/lang/StringLatin1"), (36, u "([BI)C"), (67, u "$assertionsDisabled"), (0, u "Z"), (98, .class_ 223), (1, u "java/lang/StringLatin1$LinesSpliterator"), (28, u "charAt"), (137, .class_ 391), (0, u "java/lang/StringLatin1$CharsSpliterator")] 3

def k10m0 : Method := { name := "<init>", desc := "()V", sig := { parameters := [], returnType := none }, accessFlags := 0, code := none }
def k10c1 : Code := { maxStack := 2, maxLocals := 2, code := jdk_43_method_2_code, exceptionTable := #[], attributes := #[] }
def k10m1 : Method := { name := "charAt", desc := "([BI)C", sig := { parameters := [(.array .byte), .int], returnType := some .char }, accessFlags := 9, code := some k10c1 }
/-- java/lang/StringLatin1 -/
def k10 : Class := { plain "java/lang/StringLatin1" (some 0) with
  accessFlags := 48
  interfaces := #[]
  cf := some (fileOf pool10 14 #[.nestMembers #[390, 221]] #[{ accessFlags := 0, nameIndex := 7, descriptorIndex := 8, attributes := #[] }, { accessFlags := 9, nameIndex := 252, descriptorIndex := 53, attributes := #[] }] 48 4 #[] #[{ accessFlags := 4120, nameIndex := 121, descriptorIndex := 122, attributes := #[] }])
  fields := #[{ name := "$assertionsDisabled", type := .boolean, accessFlags := 4120, slot := 0, constantValue := 0 }]
  methods := #[k10m0, k10m1]
  instanceTypes := #[]
  staticTypes := #[.boolean]
  resolved := Array.replicate 395 none
  statics := none }

def pool11 : Array CpInfo := pool [(2, .class_ 4), (1, u "java/lang/Object"), (0, u "<init>"), (0, u "()V"), (17, .class_ 26), (1, u "jdk/internal/util/Preconditions"), (6, u "checkIndex"), (21, .class_ 56), (0, u "jdk/internal/util/Preconditions$4"), (57, .class_ 115), (0, u "jdk/internal/util/Preconditions$1"), (7, u "SIOOBE_FORMATTER"), (0, u "Ljava/util/function/BiFunction;"), (0, .class_ 126), (0, u "jdk/internal/util/Preconditions$2"), (3, u "AIOOBE_FORMATTER"), (0, .class_ 132), (0, u "jdk/internal/util/Preconditions$3"), (3, u "IOOBE_FORMATTER"), (41, u "(IILjava/util/function/BiFunction;)I")] 15

def k11m0 : Method := { name := "<init>", desc := "()V", sig := { parameters := [], returnType := none }, accessFlags := 1, code := none }
def k11c1 : Code := { maxStack := 3, maxLocals := 3, code := jdk_41_method_11_code, exceptionTable := #[], attributes := #[] }
def k11m1 : Method := { name := "checkIndex", desc := "(IILjava/util/function/BiFunction;)I", sig := { parameters := [.int, .int, (.object "java/util/function/BiFunction")], returnType := some .int }, accessFlags := 9, code := some k11c1 }
/-- jdk/internal/util/Preconditions -/
def k11 : Class := { plain "jdk/internal/util/Preconditions" (some 0) with
  accessFlags := 33
  interfaces := #[]
  cf := some (fileOf pool11 24 #[.nestMembers #[55, 131, 125, 114]] #[{ accessFlags := 1, nameIndex := 5, descriptorIndex := 6, attributes := #[] }, { accessFlags := 9, nameIndex := 33, descriptorIndex := 178, attributes := #[] }] 33 2 #[] #[{ accessFlags := 25, nameIndex := 123, descriptorIndex := 124, attributes := #[] }, { accessFlags := 25, nameIndex := 130, descriptorIndex := 124, attributes := #[] }, { accessFlags := 25, nameIndex := 136, descriptorIndex := 124, attributes := #[] }])
  fields := #[{ name := "SIOOBE_FORMATTER", type := (.object "java/util/function/BiFunction"), accessFlags := 25, slot := 0, constantValue := 0 }, { name := "AIOOBE_FORMATTER", type := (.object "java/util/function/BiFunction"), accessFlags := 25, slot := 1, constantValue := 0 }, { name := "IOOBE_FORMATTER", type := (.object "java/util/function/BiFunction"), accessFlags := 25, slot := 2, constantValue := 0 }]
  methods := #[k11m0, k11m1]
  instanceTypes := #[]
  staticTypes := #[(.object "java/util/function/BiFunction"), (.object "java/util/function/BiFunction"), (.object "java/util/function/BiFunction")]
  resolved := Array.replicate 194 none
  statics := some 2 }

def pool12 : Array CpInfo := pool [(9, u "<init>"), (6, .class_ 18), (1, u "java/lang/Object"), (0, u "()V"), (1, .class_ 23), (1, u "jdk/internal/util/ArraysSupport"), (0, u "LOG2_ARRAY_LONG_INDEX_SCALE"), (0, u "I"), (2, u "U"), (0, u "Ljdk/internal/misc/Unsafe;"), (8, u "BIG_ENDIAN"), (0, u "Z"), (8, u "LOG2_BYTE_BIT_SIZE"), (4, u "LOG2_ARRAY_INT_INDEX_SCALE"), (54, u "JLA"), (0, u "Ljdk/internal/access/JavaLangAccess;"), (11, u "LOG2_ARRAY_BOOLEAN_INDEX_SCALE"), (9, u "LOG2_ARRAY_BYTE_INDEX_SCALE"), (5, u "LOG2_ARRAY_CHAR_INDEX_SCALE"), (5, u "LOG2_ARRAY_SHORT_INDEX_SCALE"), (18, u "LOG2_ARRAY_FLOAT_INDEX_SCALE"), (24, u "LOG2_ARRAY_DOUBLE_INDEX_SCALE"), (89, u "T_BOOLEAN"), (2, u "T_CHAR"), (1, u "T_FLOAT"), (1, u "T_DOUBLE"), (1, u "T_BYTE"), (1, u "T_SHORT"), (1, u "T_INT"), (1, u "T_LONG"), (1, u "SOFT_MAX_ARRAY_LENGTH")] 83

def k12m0 : Method := { name := "<init>", desc := "()V", sig := { parameters := [], returnType := none }, accessFlags := 2, code := none }
/-- jdk/internal/util/ArraysSupport -/
def k12 : Class := { plain "jdk/internal/util/ArraysSupport" (some 0) with
  accessFlags := 33
  interfaces := #[]
  cf := some (fileOf pool12 21 #[] #[{ accessFlags := 2, nameIndex := 9, descriptorIndex := 19, attributes := #[] }] 33 16 #[] #[{ accessFlags := 24, nameIndex := 28, descriptorIndex := 29, attributes := #[] }, { accessFlags := 26, nameIndex := 38, descriptorIndex := 39, attributes := #[] }, { accessFlags := 25, nameIndex := 121, descriptorIndex := 25, attributes := #[] }, { accessFlags := 25, nameIndex := 131, descriptorIndex := 25, attributes := #[] }, { accessFlags := 25, nameIndex := 137, descriptorIndex := 25, attributes := #[] }, { accessFlags := 25, nameIndex := 143, descriptorIndex := 25, attributes := #[] }, { accessFlags := 25, nameIndex := 53, descriptorIndex := 25, attributes := #[] }, { accessFlags := 25, nameIndex := 24, descriptorIndex := 25, attributes := #[] }, { accessFlags := 25, nameIndex := 162, descriptorIndex := 25, attributes := #[] }, { accessFlags := 25, nameIndex := 187, descriptorIndex := 25, attributes := #[] }, { accessFlags := 26, nameIndex := 48, descriptorIndex := 25, attributes := #[] }, { accessFlags := 25, nameIndex := 277, descriptorIndex := 25, attributes := #[] }, { accessFlags := 25, nameIndex := 280, descriptorIndex := 25, attributes := #[] }, { accessFlags := 25, nameIndex := 282, descriptorIndex := 25, attributes := #[] }, { accessFlags := 25, nameIndex := 284, descriptorIndex := 25, attributes := #[] }, { accessFlags := 25, nameIndex := 286, descriptorIndex := 25, attributes := #[] }, { accessFlags := 25, nameIndex := 288, descriptorIndex := 25, attributes := #[] }, { accessFlags := 25, nameIndex := 290, descriptorIndex := 25, attributes := #[] }, { accessFlags := 25, nameIndex := 292, descriptorIndex := 25, attributes := #[] }, { accessFlags := 26, nameIndex := 108, descriptorIndex := 109, attributes := #[] }, { accessFlags := 25, nameIndex := 294, descriptorIndex := 25, attributes := #[] }])
  fields := #[{ name := "U", type := (.object "jdk/internal/misc/Unsafe"), accessFlags := 24, slot := 0, constantValue := 0 }, { name := "BIG_ENDIAN", type := .boolean, accessFlags := 26, slot := 1, constantValue := 0 }, { name := "LOG2_ARRAY_BOOLEAN_INDEX_SCALE", type := .int, accessFlags := 25, slot := 2, constantValue := 0 }, { name := "LOG2_ARRAY_BYTE_INDEX_SCALE", type := .int, accessFlags := 25, slot := 3, constantValue := 0 }, { name := "LOG2_ARRAY_CHAR_INDEX_SCALE", type := .int, accessFlags := 25, slot := 4, constantValue := 0 }, { name := "LOG2_ARRAY_SHORT_INDEX_SCALE", type := .int, accessFlags := 25, slot := 5, constantValue := 0 }, { name := "LOG2_ARRAY_INT_INDEX_SCALE", type := .int, accessFlags := 25, slot := 6, constantValue := 0 }, { name := "LOG2_ARRAY_LONG_INDEX_SCALE", type := .int, accessFlags := 25, slot := 7, constantValue := 0 }, { name := "LOG2_ARRAY_FLOAT_INDEX_SCALE", type := .int, accessFlags := 25, slot := 8, constantValue := 0 }, { name := "LOG2_ARRAY_DOUBLE_INDEX_SCALE", type := .int, accessFlags := 25, slot := 9, constantValue := 0 }, { name := "LOG2_BYTE_BIT_SIZE", type := .int, accessFlags := 26, slot := 10, constantValue := 0 }, { name := "T_BOOLEAN", type := .int, accessFlags := 25, slot := 11, constantValue := 0 }, { name := "T_CHAR", type := .int, accessFlags := 25, slot := 12, constantValue := 0 }, { name := "T_FLOAT", type := .int, accessFlags := 25, slot := 13, constantValue := 0 }, { name := "T_DOUBLE", type := .int, accessFlags := 25, slot := 14, constantValue := 0 }, { name := "T_BYTE", type := .int, accessFlags := 25, slot := 15, constantValue := 0 }, { name := "T_SHORT", type := .int, accessFlags := 25, slot := 16, constantValue := 0 }, { name := "T_INT", type := .int, accessFlags := 25, slot := 17, constantValue := 0 }, { name := "T_LONG", type := .int, accessFlags := 25, slot := 18, constantValue := 0 }, { name := "JLA", type := (.object "jdk/internal/access/JavaLangAccess"), accessFlags := 26, slot := 19, constantValue := 0 }, { name := "SOFT_MAX_ARRAY_LENGTH", type := .int, accessFlags := 25, slot := 20, constantValue := 0 }]
  methods := #[k12m0]
  instanceTypes := #[]
  staticTypes := #[(.object "jdk/internal/misc/Unsafe"), .boolean, .int, .int, .int, .int, .int, .int, .int, .int, .int, .int, .int, .int, .int, .int, .int, .int, .int, (.object "jdk/internal/access/JavaLangAccess"), .int]
  resolved := Array.replicate 378 none
  statics := none }

def pool13 : Array CpInfo := pool [(1, u "java/lang/Cloneable"), (0, .class_ 1), (0, u "java/lang/Object"), (0, .class_ 3)] 3

/-- java/lang/Cloneable -/
def k13 : Class := { plain "java/lang/Cloneable" (some 0) with
  accessFlags := 1537
  interfaces := #[]
  cf := some (fileOf pool13 2 #[] #[] 1537 4 #[] #[])
  fields := #[]
  methods := #[]
  instanceTypes := #[]
  staticTypes := #[]
  resolved := Array.replicate 8 none
  statics := none }

/-- the primitive byte -/
def k14 : Class := { plain "byte" none with kind := .primitive 'B', accessFlags := 0x411 }
/-- [B -/
def k15 : Class := { plain "[B" (some 0) with kind := .array 14 .byte, interfaces := #[13, 2], accessFlags := 1041 }

/-- the primitive char -/
def k16 : Class := { plain "char" none with kind := .primitive 'C', accessFlags := 0x411 }
/-- [C -/
def k17 : Class := { plain "[C" (some 0) with kind := .array 16 .char, interfaces := #[13, 2], accessFlags := 1041 }

/-- the primitive int -/
def k18 : Class := { plain "int" none with kind := .primitive 'I', accessFlags := 0x411 }
/-- [I -/
def k19 : Class := { plain "[I" (some 0) with kind := .array 18 .int, interfaces := #[13, 2], accessFlags := 1041 }

def heap : Heap := #[{ cls := 7, slots := #[.long 0, .int 1, .null, .int 0, .null, .int 0, .int 0], vm := .statics 7 },
  { cls := 8, slots := #[.int 0, .int 8, .int 0, .int 1], vm := .statics 8 },
  { cls := 11, slots := #[.null, .null, .null], vm := .statics 11 }]
def classes : Array Class := #[k0, k1, k2, k3, k4, k5, k6, k7, k8, k9, k10, k11, k12, k13, k14, k15, k16, k17, k18, k19]
def interned : List (Array UInt16 × Addr) := []
def slotsUsed : Nat := 14
def theMethod : MethodId := ⟨1, 1⟩
def args0 : Array Value := #[.int 5, .int 7, .int 5, .int 9, .int 300]
def aboutOver (below : List Frame) : State where
  vm := { classes := classes, interned := interned.toArray }
  heap := heap
  slotsUsed := slotsUsed
  threads := #[{ frames := .invoking theMethod args0 :: below }]
def below0 : List Frame := [.native { method := ⟨0, 0⟩, args := #[] }]
def about1 : State := aboutOver below0
def p0 : Program := .bare "" "" ""
def e0 : Env := launch0.env 0 0 0
theorem w_frames : about1.frames = Frame.invoking theMethod args0 :: below0 := rfl
set_option maxRecDepth 65536 in
theorem w_args : argsFit about1.vm theMethod args0 = true := by decide +kernel
set_option maxRecDepth 65536 in
theorem w_heap : heapFits about1 = true := by decide +kernel
set_option maxRecDepth 65536 in
theorem w_runnable : about1.curStatus? = some .runnable := by decide +kernel
set_option maxRecDepth 65536 in
theorem w_alone : about1.alone = true := by decide +kernel
set_option maxRecDepth 65536 in
theorem w_named : about1.methodNamed? x = some theMethod := by decide +kernel
set_option maxRecDepth 65536 in
theorem w_hears : about1.hears theMethod below0 = true := by decide +kernel
set_option maxRecDepth 65536 in
theorem w_ripe : about1.ripe theMethod args0 below0 = true := by decide +kernel
theorem w_running : about1.status = .running := rfl
set_option maxRecDepth 65536 in
theorem w_room : about1.hasRoom e0.platform room_1 = true :=
  launch0.hasRoom_least _ room_1 (by decide +kernel) (by decide +kernel) (by decide +kernel) (by decide +kernel) (by decide +kernel) (by decide +kernel)
theorem allAtoms_all (ts : List Jvm.Cond) (a : Array Jvm.Value) (st : Jvm.State) : (allAtoms ts).before a st = ts.all (fun c => c.before a st) := by
  induction ts with
  | nil => rfl
  | cons c t ih =>
    show (Jvm.Cond.and c (allAtoms t)).before a st = _
    rw [Jvm.Cond.before_and, ih, List.all_cons]
def words1 : List Jvm.Cond := Jvm.Cond.code x code maxLocals ret :: tables_1
/-- a 'code' word, met by the world's own term for the bytes: nothing is compared byte by byte -/
theorem code_word {y : MethodName} {bytes : ByteArray} {mx : Nat} {rt : Option FieldType} {a : Array Value} {s : State} {m : MethodId} {meth : Method} {c : Code} (h1 : s.methodNamed? y = some m) (h2 : s.vm.method? m = some meth) (h3 : meth.code = some c) (h4 : c.code = bytes)
    (h5 : (c.maxLocals == mx && c.exceptionTable.isEmpty && decide (c.maxStack ≤ mostOperands) && decide (meth.sig.returnType = rt) && !meth.locks && decide (parseMethodDescriptor y.desc = some meth.sig)) = true) : (Jvm.Cond.code y bytes mx rt).before a s = true := by
  simp only [Bool.and_eq_true, beq_iff_eq, Bool.not_eq_true', decide_eq_true_eq] at h5
  obtain ⟨⟨⟨⟨⟨g1, g2⟩, g3⟩, g4⟩, g5⟩, g6⟩ := h5
  simp [Cond.before, Cond.holds, Cond.value, h1, h2, h3, h4, g1, g2, g3, g4, g5, g6]
def isCode : Jvm.Cond → Bool
  | .code _ _ _ _ => true
  | _ => false
theorem all_split {L : List Jvm.Cond} {P : Jvm.Cond → Bool} (h1 : L.all (fun c => isCode c || P c) = true) (h2 : ∀ c ∈ L.filter isCode, P c = true) : L.all P = true := by
  refine List.all_eq_true.mpr fun c hc => ?_
  have h := List.all_eq_true.mp h1 c hc
  rcases Bool.eq_false_or_eq_true (isCode c) with hi | hi
  · exact h2 c (List.mem_filter.mpr ⟨hc, hi⟩)
  · simpa [hi] using h
set_option maxRecDepth 65536 in
theorem w_c0 : (Jvm.Cond.code x code maxLocals ret).before args0 about1 = true := code_word (m := ⟨1, 1⟩) (meth := k1m1) (c := k1c1) (by decide +kernel) rfl rfl rfl (by decide +kernel)
set_option maxRecDepth 65536 in
theorem w_c1 : (Jvm.Cond.code ({ cls := "java/lang/String", name := "<init>", desc := "([C)V" } : Jvm.MethodName) jdk_42_method_3_code (2 : Nat) (Option.none : Option Jvm.ClassFile.FieldType)).before args0 about1 = true := code_word (m := ⟨7, 1⟩) (meth := k7m1) (c := k7c1) (by decide +kernel) rfl rfl rfl (by decide +kernel)
set_option maxRecDepth 65536 in
theorem w_c2 : (Jvm.Cond.code ({ cls := "java/lang/String", name := "<init>", desc := "([CIILjava/lang/Void;)V" } : Jvm.MethodName) jdk_42_method_149_code (6 : Nat) (Option.none : Option Jvm.ClassFile.FieldType)).before args0 about1 = true := code_word (m := ⟨7, 4⟩) (meth := k7m4) (c := k7c4) (by decide +kernel) rfl rfl rfl (by decide +kernel)
set_option maxRecDepth 65536 in
theorem w_c3 : (Jvm.Cond.code ({ cls := "java/lang/Object", name := "<init>", desc := "()V" } : Jvm.MethodName) object_method_1_code (1 : Nat) (Option.none : Option Jvm.ClassFile.FieldType)).before args0 about1 = true := code_word (m := ⟨0, 0⟩) (meth := k0m0) (c := k0c0) (by decide +kernel) rfl rfl rfl (by decide +kernel)
set_option maxRecDepth 65536 in
theorem w_c4 : (Jvm.Cond.code ({ cls := "java/lang/StringUTF16", name := "compress", desc := "([CII)[B" } : Jvm.MethodName) jdk_52_method_16_code (6 : Nat) (Option.some (Jvm.ClassFile.FieldType.array Jvm.ClassFile.FieldType.byte))).before args0 about1 = true := code_word (m := ⟨8, 8⟩) (meth := k8m8) (c := k8c8) (by decide +kernel) rfl rfl rfl (by decide +kernel)
set_option maxRecDepth 65536 in
theorem w_c5 : (Jvm.Cond.code ({ cls := "java/lang/StringUTF16", name := "compress", desc := "([CI[BII)I" } : Jvm.MethodName) jdk_52_method_21_code (7 : Nat) (Option.some Jvm.ClassFile.FieldType.int)).before args0 about1 = true := code_word (m := ⟨8, 9⟩) (meth := k8m9) (c := k8c9) (by decide +kernel) rfl rfl rfl (by decide +kernel)
set_option maxRecDepth 65536 in
theorem w_c6 : (Jvm.Cond.code ({ cls := "java/lang/StringUTF16", name := "coderFromArrayLen", desc := "([BI)B" } : Jvm.MethodName) jdk_52_method_15_code (2 : Nat) (Option.some Jvm.ClassFile.FieldType.byte)).before args0 about1 = true := code_word (m := ⟨8, 7⟩) (meth := k8m7) (c := k8c7) (by decide +kernel) rfl rfl rfl (by decide +kernel)
set_option maxRecDepth 65536 in
theorem w_c7 : (Jvm.Cond.code ({ cls := "com/example/idunn/idunn/PathHashes", name := "hash", desc := "(Ljava/lang/String;)J" } : Jvm.MethodName) prog_25_method_4_code (4 : Nat) (Option.some Jvm.ClassFile.FieldType.long)).before args0 about1 = true := code_word (m := ⟨9, 1⟩) (meth := k9m1) (c := k9c1) (by decide +kernel) rfl rfl rfl (by decide +kernel)
set_option maxRecDepth 65536 in
theorem w_c8 : (Jvm.Cond.code ({ cls := "java/lang/String", name := "length", desc := "()I" } : Jvm.MethodName) jdk_42_method_54_code (1 : Nat) (Option.some Jvm.ClassFile.FieldType.int)).before args0 about1 = true := code_word (m := ⟨7, 2⟩) (meth := k7m2) (c := k7c2) (by decide +kernel) rfl rfl rfl (by decide +kernel)
set_option maxRecDepth 65536 in
theorem w_c9 : (Jvm.Cond.code ({ cls := "java/lang/String", name := "coder", desc := "()B" } : Jvm.MethodName) jdk_42_method_152_code (1 : Nat) (Option.some Jvm.ClassFile.FieldType.byte)).before args0 about1 = true := code_word (m := ⟨7, 5⟩) (meth := k7m5) (c := k7c5) (by decide +kernel) rfl rfl rfl (by decide +kernel)
set_option maxRecDepth 65536 in
theorem w_c10 : (Jvm.Cond.code ({ cls := "java/lang/String", name := "charAt", desc := "(I)C" } : Jvm.MethodName) jdk_42_method_56_code (2 : Nat) (Option.some Jvm.ClassFile.FieldType.char)).before args0 about1 = true := code_word (m := ⟨7, 3⟩) (meth := k7m3) (c := k7c3) (by decide +kernel) rfl rfl rfl (by decide +kernel)
set_option maxRecDepth 65536 in
theorem w_c11 : (Jvm.Cond.code ({ cls := "java/lang/String", name := "isLatin1", desc := "()Z" } : Jvm.MethodName) jdk_42_method_154_code (1 : Nat) (Option.some Jvm.ClassFile.FieldType.boolean)).before args0 about1 = true := code_word (m := ⟨7, 6⟩) (meth := k7m6) (c := k7c6) (by decide +kernel) rfl rfl rfl (by decide +kernel)
set_option maxRecDepth 65536 in
theorem w_c12 : (Jvm.Cond.code ({ cls := "java/lang/StringLatin1", name := "charAt", desc := "([BI)C" } : Jvm.MethodName) jdk_43_method_2_code (2 : Nat) (Option.some Jvm.ClassFile.FieldType.char)).before args0 about1 = true := code_word (m := ⟨10, 1⟩) (meth := k10m1) (c := k10c1) (by decide +kernel) rfl rfl rfl (by decide +kernel)
set_option maxRecDepth 65536 in
theorem w_c13 : (Jvm.Cond.code ({ cls := "java/lang/String", name := "checkIndex", desc := "(II)V" } : Jvm.MethodName) jdk_42_method_155_code (2 : Nat) (Option.none : Option Jvm.ClassFile.FieldType)).before args0 about1 = true := code_word (m := ⟨7, 7⟩) (meth := k7m7) (c := k7c7) (by decide +kernel) rfl rfl rfl (by decide +kernel)
set_option maxRecDepth 65536 in
theorem w_c14 : (Jvm.Cond.code ({ cls := "jdk/internal/util/Preconditions", name := "checkIndex", desc := "(IILjava/util/function/BiFunction;)I" } : Jvm.MethodName) jdk_41_method_11_code (3 : Nat) (Option.some Jvm.ClassFile.FieldType.int)).before args0 about1 = true := code_word (m := ⟨11, 1⟩) (meth := k11m1) (c := k11c1) (by decide +kernel) rfl rfl rfl (by decide +kernel)
set_option maxRecDepth 65536 in
theorem w_c15 : (Jvm.Cond.code ({ cls := "java/lang/StringUTF16", name := "toBytes", desc := "([CII)[B" } : Jvm.MethodName) jdk_52_method_14_code (5 : Nat) (Option.some (Jvm.ClassFile.FieldType.array Jvm.ClassFile.FieldType.byte))).before args0 about1 = true := code_word (m := ⟨8, 6⟩) (meth := k8m6) (c := k8c6) (by decide +kernel) rfl rfl rfl (by decide +kernel)
set_option maxRecDepth 65536 in
theorem w_c16 : (Jvm.Cond.code ({ cls := "java/lang/StringUTF16", name := "newBytesFor", desc := "(I)[B" } : Jvm.MethodName) jdk_52_method_2_code (1 : Nat) (Option.some (Jvm.ClassFile.FieldType.array Jvm.ClassFile.FieldType.byte))).before args0 about1 = true := code_word (m := ⟨8, 1⟩) (meth := k8m1) (c := k8c1) (by decide +kernel) rfl rfl rfl (by decide +kernel)
set_option maxRecDepth 65536 in
theorem w_c17 : (Jvm.Cond.code ({ cls := "java/lang/StringUTF16", name := "newBytesLength", desc := "(I)I" } : Jvm.MethodName) jdk_52_method_3_code (1 : Nat) (Option.some Jvm.ClassFile.FieldType.int)).before args0 about1 = true := code_word (m := ⟨8, 2⟩) (meth := k8m2) (c := k8c2) (by decide +kernel) rfl rfl rfl (by decide +kernel)
set_option maxRecDepth 65536 in
theorem w_c18 : (Jvm.Cond.code ({ cls := "java/lang/StringUTF16", name := "putChar", desc := "([BII)V" } : Jvm.MethodName) jdk_52_method_4_code (3 : Nat) (Option.none : Option Jvm.ClassFile.FieldType)).before args0 about1 = true := code_word (m := ⟨8, 3⟩) (meth := k8m3) (c := k8c3) (by decide +kernel) rfl rfl rfl (by decide +kernel)
set_option maxRecDepth 65536 in
theorem w_c19 : (Jvm.Cond.code ({ cls := "java/lang/StringUTF16", name := "getChar", desc := "([BI)C" } : Jvm.MethodName) jdk_52_method_5_code (2 : Nat) (Option.some Jvm.ClassFile.FieldType.char)).before args0 about1 = true := code_word (m := ⟨8, 4⟩) (meth := k8m4) (c := k8c4) (by decide +kernel) rfl rfl rfl (by decide +kernel)
set_option maxRecDepth 65536 in
theorem w_c20 : (Jvm.Cond.code ({ cls := "java/lang/StringUTF16", name := "charAt", desc := "([BI)C" } : Jvm.MethodName) jdk_52_method_83_code (2 : Nat) (Option.some Jvm.ClassFile.FieldType.char)).before args0 about1 = true := code_word (m := ⟨8, 10⟩) (meth := k8m10) (c := k8c10) (by decide +kernel) rfl rfl rfl (by decide +kernel)
set_option maxRecDepth 65536 in
theorem w_c21 : (Jvm.Cond.code ({ cls := "java/lang/StringUTF16", name := "checkIndex", desc := "(I[B)V" } : Jvm.MethodName) jdk_52_method_91_code (2 : Nat) (Option.none : Option Jvm.ClassFile.FieldType)).before args0 about1 = true := code_word (m := ⟨8, 11⟩) (meth := k8m11) (c := k8c11) (by decide +kernel) rfl rfl rfl (by decide +kernel)
set_option maxRecDepth 65536 in
theorem w_c22 : (Jvm.Cond.code ({ cls := "java/lang/StringUTF16", name := "length", desc := "([B)I" } : Jvm.MethodName) jdk_52_method_6_code (1 : Nat) (Option.some Jvm.ClassFile.FieldType.int)).before args0 about1 = true := code_word (m := ⟨8, 5⟩) (meth := k8m5) (c := k8c5) (by decide +kernel) rfl rfl rfl (by decide +kernel)
def codes1 : List Jvm.Cond := [Jvm.Cond.code x code maxLocals ret, Jvm.Cond.code ({ cls := "java/lang/String", name := "<init>", desc := "([C)V" } : Jvm.MethodName) jdk_42_method_3_code (2 : Nat) (Option.none : Option Jvm.ClassFile.FieldType), Jvm.Cond.code ({ cls := "java/lang/String", name := "<init>", desc := "([CIILjava/lang/Void;)V" } : Jvm.MethodName) jdk_42_method_149_code (6 : Nat) (Option.none : Option Jvm.ClassFile.FieldType), Jvm.Cond.code ({ cls := "java/lang/Object", name := "<init>", desc := "()V" } : Jvm.MethodName) object_method_1_code (1 : Nat) (Option.none : Option Jvm.ClassFile.FieldType), Jvm.Cond.code ({ cls := "java/lang/StringUTF16", name := "compress", desc := "([CII)[B" } : Jvm.MethodName) jdk_52_method_16_code (6 : Nat) (Option.some (Jvm.ClassFile.FieldType.array Jvm.ClassFile.FieldType.byte)), Jvm.Cond.code ({ cls := "java/lang/StringUTF16", name := "compress", desc := "([CI[BII)I" } : Jvm.MethodName) jdk_52_method_21_code (7 : Nat) (Option.some Jvm.ClassFile.FieldType.int), Jvm.Cond.code ({ cls := "java/lang/StringUTF16", name := "coderFromArrayLen", desc := "([BI)B" } : Jvm.MethodName) jdk_52_method_15_code (2 : Nat) (Option.some Jvm.ClassFile.FieldType.byte), Jvm.Cond.code ({ cls := "com/example/idunn/idunn/PathHashes", name := "hash", desc := "(Ljava/lang/String;)J" } : Jvm.MethodName) prog_25_method_4_code (4 : Nat) (Option.some Jvm.ClassFile.FieldType.long), Jvm.Cond.code ({ cls := "java/lang/String", name := "length", desc := "()I" } : Jvm.MethodName) jdk_42_method_54_code (1 : Nat) (Option.some Jvm.ClassFile.FieldType.int), Jvm.Cond.code ({ cls := "java/lang/String", name := "coder", desc := "()B" } : Jvm.MethodName) jdk_42_method_152_code (1 : Nat) (Option.some Jvm.ClassFile.FieldType.byte), Jvm.Cond.code ({ cls := "java/lang/String", name := "charAt", desc := "(I)C" } : Jvm.MethodName) jdk_42_method_56_code (2 : Nat) (Option.some Jvm.ClassFile.FieldType.char), Jvm.Cond.code ({ cls := "java/lang/String", name := "isLatin1", desc := "()Z" } : Jvm.MethodName) jdk_42_method_154_code (1 : Nat) (Option.some Jvm.ClassFile.FieldType.boolean), Jvm.Cond.code ({ cls := "java/lang/StringLatin1", name := "charAt", desc := "([BI)C" } : Jvm.MethodName) jdk_43_method_2_code (2 : Nat) (Option.some Jvm.ClassFile.FieldType.char), Jvm.Cond.code ({ cls := "java/lang/String", name := "checkIndex", desc := "(II)V" } : Jvm.MethodName) jdk_42_method_155_code (2 : Nat) (Option.none : Option Jvm.ClassFile.FieldType), Jvm.Cond.code ({ cls := "jdk/internal/util/Preconditions", name := "checkIndex", desc := "(IILjava/util/function/BiFunction;)I" } : Jvm.MethodName) jdk_41_method_11_code (3 : Nat) (Option.some Jvm.ClassFile.FieldType.int), Jvm.Cond.code ({ cls := "java/lang/StringUTF16", name := "toBytes", desc := "([CII)[B" } : Jvm.MethodName) jdk_52_method_14_code (5 : Nat) (Option.some (Jvm.ClassFile.FieldType.array Jvm.ClassFile.FieldType.byte)), Jvm.Cond.code ({ cls := "java/lang/StringUTF16", name := "newBytesFor", desc := "(I)[B" } : Jvm.MethodName) jdk_52_method_2_code (1 : Nat) (Option.some (Jvm.ClassFile.FieldType.array Jvm.ClassFile.FieldType.byte)), Jvm.Cond.code ({ cls := "java/lang/StringUTF16", name := "newBytesLength", desc := "(I)I" } : Jvm.MethodName) jdk_52_method_3_code (1 : Nat) (Option.some Jvm.ClassFile.FieldType.int), Jvm.Cond.code ({ cls := "java/lang/StringUTF16", name := "putChar", desc := "([BII)V" } : Jvm.MethodName) jdk_52_method_4_code (3 : Nat) (Option.none : Option Jvm.ClassFile.FieldType), Jvm.Cond.code ({ cls := "java/lang/StringUTF16", name := "getChar", desc := "([BI)C" } : Jvm.MethodName) jdk_52_method_5_code (2 : Nat) (Option.some Jvm.ClassFile.FieldType.char), Jvm.Cond.code ({ cls := "java/lang/StringUTF16", name := "charAt", desc := "([BI)C" } : Jvm.MethodName) jdk_52_method_83_code (2 : Nat) (Option.some Jvm.ClassFile.FieldType.char), Jvm.Cond.code ({ cls := "java/lang/StringUTF16", name := "checkIndex", desc := "(I[B)V" } : Jvm.MethodName) jdk_52_method_91_code (2 : Nat) (Option.none : Option Jvm.ClassFile.FieldType), Jvm.Cond.code ({ cls := "java/lang/StringUTF16", name := "length", desc := "([B)I" } : Jvm.MethodName) jdk_52_method_6_code (1 : Nat) (Option.some Jvm.ClassFile.FieldType.int)]
set_option maxRecDepth 65536 in
theorem codes_eq : words1.filter isCode = codes1 := rfl
theorem w_codes : ∀ c ∈ words1.filter isCode, c.before args0 about1 = true := by
  rw [codes_eq]
  intro c hc
  simp only [codes1, List.mem_cons, List.not_mem_nil, or_false] at hc
  rcases hc with rfl | rfl | rfl | rfl | rfl | rfl | rfl | rfl | rfl | rfl | rfl | rfl | rfl | rfl | rfl | rfl | rfl | rfl | rfl | rfl | rfl | rfl | rfl
  · exact w_c0
  · exact w_c1
  · exact w_c2
  · exact w_c3
  · exact w_c4
  · exact w_c5
  · exact w_c6
  · exact w_c7
  · exact w_c8
  · exact w_c9
  · exact w_c10
  · exact w_c11
  · exact w_c12
  · exact w_c13
  · exact w_c14
  · exact w_c15
  · exact w_c16
  · exact w_c17
  · exact w_c18
  · exact w_c19
  · exact w_c20
  · exact w_c21
  · exact w_c22
set_option maxRecDepth 65536 in
theorem w_t1 : (words1.take 24).all (fun c => isCode c || c.before args0 about1) = true := by decide +kernel
set_option maxRecDepth 65536 in
theorem w_t2 : ((words1.drop 24).take 24).all (fun c => isCode c || c.before args0 about1) = true := by decide +kernel
set_option maxRecDepth 65536 in
theorem w_t3 : (((words1.drop 24).drop 24).take 24).all (fun c => isCode c || c.before args0 about1) = true := by decide +kernel
set_option maxRecDepth 65536 in
theorem w_t4 : ((((words1.drop 24).drop 24).drop 24).take 24).all (fun c => isCode c || c.before args0 about1) = true := by decide +kernel
set_option maxRecDepth 65536 in
theorem w_t5 : ((((words1.drop 24).drop 24).drop 24).drop 24).all (fun c => isCode c || c.before args0 about1) = true := by decide +kernel
theorem w_tables : (allAtoms (Jvm.Cond.code x code maxLocals ret :: tables_1)).before args0 about1 = true := by
  rw [allAtoms_all]
  show words1.all (fun c => c.before args0 about1) = true
  refine all_split ?_ w_codes
  rw [← List.take_append_drop 24 words1, List.all_append, w_t1, ← List.take_append_drop 24 (words1.drop 24), List.all_append, w_t2, ← List.take_append_drop 24 ((words1.drop 24).drop 24), List.all_append, w_t3, ← List.take_append_drop 24 (((words1.drop 24).drop 24).drop 24), List.all_append, w_t4, w_t5]
  rfl
set_option maxRecDepth 65536 in
theorem w_rest : rest_1_c.before args0 about1 = true := by decide +kernel
set_option maxRecDepth 65536 in
theorem w_case : (Jvm.Cond.and given_1 narrow_1).before args0 about1 = true := by decide +kernel
set_option maxRecDepth 65536 in
theorem w_consts : constsHeld consts_1 about1 := Jvm.Lit.constsHeldB_iff.mp (by decide +kernel)
theorem w_applies : (headSpec (Jvm.Cond.code x code maxLocals ret :: tables_1) room_1).applies x e0.platform about1 = true :=
  (Spec.applies_iff w_frames).mpr ⟨w_running, w_runnable, w_alone, w_named, w_hears, w_ripe, w_room, w_tables⟩
theorem atStart : AtStart classFile x code maxLocals ret World_1 tables_1 room_1 Calls_1 rest_1 Pre_1 launch0 p0 e0 about1 theMethod args0 below0 :=
  ⟨lists_1, trivial, launch0.admits_env _ _ _, launch0.least_env, fairChoices_fair.cas, fairChoices_fair.clock, w_frames, w_args, w_heap, w_applies, ⟨w_consts, trivial⟩, w_rest, w_case⟩
end start1
theorem witness_1 : WitnessClaimed_1 := ⟨start1.p0, start1.e0, start1.about1, start1.theMethod, start1.args0, start1.below0, start1.atStart⟩
end Jvm.Pilot.@@N@@
