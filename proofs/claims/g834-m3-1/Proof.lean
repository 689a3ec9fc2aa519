import JvmDerived
import JvmDerived.Pilot.@@N@@Statement
import JvmDerived.Pilot.@@N@@Code
set_option linter.unusedVariables false
set_option linter.unusedSimpArgs false
namespace Jvm.RoadKit
open Sem ClassFile Op Lib Jvm.Stand Jvm.Free Jvm.LawKit
section New
variable {p : Program} {l : Launch} {e : Env} {R : Room} {s : State} {m : MethodId} {args : Array Value} {below : List Frame} {meth : Method} {c : Code} {T : State} {locs : List Loc} {cells slots : Nat}
theorem retI (X : Stand p l e R s m args below meth c T locs cells slots) (hx : p.tables.exec = Jvm.exec) {pc : Nat} {Ls : Array Slot} {z : Int32} {rest : List Value} (hret : meth.sig.returnType = some .int) (hd : decode c.code pc = .ok (.ireturn, 1)) {fs : List Frame}
    (hl : ∀ (f : JFrame) (acts : List Action), f.method = m → f.locked = none → f.entered = [] → (doReturn e (T.setTop f) acts (some (.int z))).1 = T.setFrames fs) : Steps p.tables e below (T.setTop (mkF m pc Ls (.int z :: rest))) (T.setFrames fs) := by
  have hm' : T.vm.method? m = some meth := X.method'
  have hn : narrow .int (.int z) = .int z := rfl
  show Steps p.tables e below (T.setTop { method := m, pc := pc, locals := Ls, stack := _ :: rest, locked := none }) _
  jvm_step X.here [X.here.top, hx, hd, hm', hret, hn]
  first | (intro acts; rw [hl _ acts rfl rfl rfl]) | rw [hl _ _ rfl rfl rfl]
  exact Steps.refl _
end New
end Jvm.RoadKit
/- laws to paste: Road.backV, Road.lenW, Road.eqW, Road.codOf (cut by pick.py; bodies as the Statement names them) -/
namespace Jvm.Pilot.@@N@@
namespace StrChars
open Jvm Sem ClassFile Op Lib Jvm.Stand Jvm.Free.XT Jvm.Free.ALB Jvm.Free.JM Jvm.Free
open Jvm.Lib.Cold (StaticIs)
/-- a char array whose places are chars -/
def Ch (a : Addr) (A : Cell) (U : State) : Prop := Arr .char a A U ∧ Typed .char A
theorem Ch.mv {a : Addr} {A : Cell} {U U' : State} (h : Ch a A U) (hal : U.vm.Alike U'.vm) (hh : U'.heap = U.heap) : Ch a A U' := ⟨h.1.mv hal hh, h.2⟩
theorem Ch.keep {a : Addr} {A : Cell} {U U' : State} (h : Ch a A U) (hal : U.vm.Alike U'.vm) (hk : U'.heap[a]? = some A) : Ch a A U' := ⟨h.1.keep hal hk, h.2⟩
/-- what place i of a char[]'s cell holds -/
def cv (A : Cell) (i : Nat) : Int32 := match A.slots[i]? with | some (.int x) => x | _ => 0
theorem Ch.get {a : Addr} {A : Cell} {U : State} (h : Ch a A U) {i : Nat} (hi : i < A.slots.size) : A.slots[i]? = some (.int (cv A i)) := by
  have e := Array.getElem?_eq_getElem hi
  have f := h.2 i _ e
  unfold cv; rw [e]
  generalize A.slots[i] = v at f
  cases v <;> simp [fits] at f ⊢
/-- the byte that i2b leaves of a char -/
def lo8 (x : Int32) : Int32 := x.toInt8.toInt32
theorem fits_lo8 (y : Int32) : fits .byte (.int (lo8 y)) = true := by
  have h1 := y.toInt8.le_toInt
  have h2 := y.toInt8.toInt_lt
  simp only [lo8, fits, Bool.and_eq_true, decide_eq_true_eq, Int32.le_iff_toInt_le, Int8.toInt_toInt32, show (-128 : Int32).toInt = -128 from by decide, show (127 : Int32).toInt = 127 from by decide]
  omega
/-- A' is A but that each place j of lo .. hi - 1 holds f j -/
def Laid (A A' : Cell) (lo hi : Nat) (f : Nat → Value) : Prop := A'.cls = A.cls ∧ A'.vm = A.vm ∧ A'.slots.size = A.slots.size ∧ ∀ i, A'.slots[i]? = if lo ≤ i ∧ i < hi then some (f i) else A.slots[i]?
theorem Laid.zero (A : Cell) (lo : Nat) (f : Nat → Value) : Laid A A lo (lo + 0) f := ⟨rfl, rfl, rfl, fun i => by rw [if_neg (by omega)]⟩
theorem Laid.step {A Ak : Cell} {lo k : Nat} {f : Nat → Value} {v : Value} (h : Laid A Ak lo k f) (hlo : lo ≤ k) (hk : k < Ak.slots.size) (hv : v = f k) : Laid A (Ak.setSlot k v) lo (k + 1) f := by
  refine ⟨h.1, h.2.1, by simpa [Cell.setSlot] using h.2.2.1, fun i => ?_⟩
  by_cases e : k = i
  · subst e; rw [Cell.slots_setSlot_self v hk, if_pos (by omega), hv]
  · rw [Cell.slots_setSlot_ne v e, h.2.2.2 i]
    by_cases q : lo ≤ i ∧ i < k
    · rw [if_pos q, if_pos (by omega)]
    · rw [if_neg q, if_neg (by omega)]
def U16 : String := "java/lang/StringUTF16"
namespace Cmp5
def yN : MethodName := ⟨"java/lang/StringUTF16", "compress", "([CI[BII)I"⟩
abbrev yB : ByteArray := jdk_52_method_21_code
theorem d0 : decode yB 0 = .ok (.iconst 0, 1) := by decide +kernel
theorem d1 : decode yB 1 = .ok (.istore 5, 2) := by decide +kernel
theorem d3 : decode yB 3 = .ok (.iload 5, 2) := by decide +kernel
theorem d5 : decode yB 5 = .ok (.iload 4, 2) := by decide +kernel
theorem d7 : decode yB 7 = .ok (.if_icmp (.ge) 37, 3) := by decide +kernel
theorem d10 : decode yB 10 = .ok (.aload_n 0, 1) := by decide +kernel
theorem d11 : decode yB 11 = .ok (.iload_n 1, 1) := by decide +kernel
theorem d12 : decode yB 12 = .ok (.caload, 1) := by decide +kernel
theorem d13 : decode yB 13 = .ok (.istore 6, 2) := by decide +kernel
theorem d15 : decode yB 15 = .ok (.iload 6, 2) := by decide +kernel
theorem d17 : decode yB 17 = .ok (.sipush 255, 3) := by decide +kernel
theorem d20 : decode yB 20 = .ok (.if_icmp (.le) 6, 3) := by decide +kernel
theorem d26 : decode yB 26 = .ok (.aload_n 2, 1) := by decide +kernel
theorem d27 : decode yB 27 = .ok (.iload_n 3, 1) := by decide +kernel
theorem d28 : decode yB 28 = .ok (.iload 6, 2) := by decide +kernel
theorem d30 : decode yB 30 = .ok (.i2b, 1) := by decide +kernel
theorem d31 : decode yB 31 = .ok (.bastore, 1) := by decide +kernel
theorem d32 : decode yB 32 = .ok (.iinc 1 1, 3) := by decide +kernel
theorem d35 : decode yB 35 = .ok (.iinc 3 1, 3) := by decide +kernel
theorem d38 : decode yB 38 = .ok (.iinc 5 1, 3) := by decide +kernel
theorem d41 : decode yB 41 = .ok (.goto (-38), 3) := by decide +kernel
theorem d44 : decode yB 44 = .ok (.iload 4, 2) := by decide +kernel
theorem d46 : decode yB 46 = .ok (.ireturn, 1) := by decide +kernel
def site : List Cond := []
def tab : Cond := tabOf yN yB 7 (some .int) site
def P (b : Addr) (A : Cell) (d : Addr) (B : Cell) (o q len : Nat) (args : Array Value) (s : State) : Prop := args = #[.ref b, .int (Int32.ofNat o), .ref d, .int (Int32.ofNat q), .int (Int32.ofNat len)] ∧ Ch b A s ∧ Arr .byte d B s ∧ b ≠ d ∧ o + len ≤ A.slots.size ∧ q + len ≤ B.slots.size ∧ ∀ i, i < len → ¬ 255 < cv A (o + i)
def E (b : Addr) (A : Cell) (d : Addr) (B : Cell) (o q len : Nat) (r : Option Value) (s u : State) : Prop := r = some (.int (Int32.ofNat len)) ∧ ∃ B', Put d B' s u ∧ Laid B B' q (q + len) (fun j => Value.int (lo8 (cv A (o + (j - q)))))
/-- no char of the range above 255: len; the places written hold each char's low byte -/
theorem law (l : Launch) (b : Addr) (A : Cell) (d : Addr) (B : Cell) (o q len : Nat) : Law l yN 5 5 0 0 yB 7 (some .int) site (P b A d B o q len) (E b A d B o q len) (copyLocs d q len) 0 0 := by
  refine Law.of_walk (plainFor_of_name (by decide +kernel)) (by decide +kernel) (by decide +kernel) (by decide) (fun _ _ h => by rw [h.1]; rfl) (fun _ U U' hal hh h => ⟨h.1, h.2.1.mv hal hh, h.2.2.1.mv hal hh, h.2.2.2⟩) (fun r U U' V V' h1 hal h2 h => ⟨h.1, h.2.elim fun B' q => ⟨B', q.1.mv h1 h2, q.2⟩⟩) ?_
  intro p e s m args below meth c s₁ X0 hexec hbytes hml hret hlk hnm hown hh0 W hP
  obtain ⟨rfl, hA, hB, hne, l1, l2, hp⟩ := hP
  have c1 : Steps p.tables e below (s₁.setTop (entryFrame m #[.ref b, .int (Int32.ofNat o), .ref d, .int (Int32.ofNat q), .int (Int32.ofNat len)] 7)) (s₁.setTop (mkF m 0 #[.val (.ref b), .val (.int (Int32.ofNat o)), .val (.ref d), .val (.int (Int32.ofNat q)), .val (.int (Int32.ofNat len)), .unset, .unset] [])) := entry rfl
  have hA0 := hA.1.mv X0.warmed.alike hh0
  have hB0 := hB.mv X0.warmed.alike hh0
  have a31 := hA.1.2.2.2
  have c2 : Steps p.tables e below (s₁.setTop (entryFrame m #[.ref b, .int (Int32.ofNat o), .ref d, .int (Int32.ofNat q), .int (Int32.ofNat len)] 7)) (s₁.setTop (mkF m 3 #[.val (.ref b), .val (.int (Int32.ofNat o)), .val (.ref d), .val (.int (Int32.ofNat q)), .val (.int (Int32.ofNat len)), .val (.int 0), .unset] [])) := c1.trans (by
    refine iconstV X0.here hexec rfl 0 (hb hbytes d0) (by decide) ?_
    refine XS.istore X0.here hexec rfl (hb hbytes d1) rfl rfl ?_
    exact Steps.refl _)
  have loop : ∀ (r i : Nat), i + r = len → ∀ (z : Slot), (z = .unset ∨ ∃ w, z = .val w ∧ w.category = 1) → ∀ (Tl : State) (Bk : Cell), Stand p l e { frames := 0, locals := 0, cells := 0, slots := 0 } s m #[.ref b, .int (Int32.ofNat o), .ref d, .int (Int32.ofNat q), .int (Int32.ofNat len)] below meth c Tl ([] ++ copyLocs d q i) 0 0 → Put d Bk s₁ Tl → Laid B Bk q (q + i) (fun j => Value.int (lo8 (cv A (o + (j - q))))) →
      Steps p.tables e below (s₁.setTop (entryFrame m #[.ref b, .int (Int32.ofNat o), .ref d, .int (Int32.ofNat q), .int (Int32.ofNat len)] 7)) (Tl.setTop (mkF m 3 #[.val (.ref b), .val (.int (Int32.ofNat (o + i))), .val (.ref d), .val (.int (Int32.ofNat (q + i))), .val (.int (Int32.ofNat len)), .val (.int (Int32.ofNat i)), z] [])) → ∃ (T' : State) (B' : Cell) (z' : Slot), Stand p l e { frames := 0, locals := 0, cells := 0, slots := 0 } s m #[.ref b, .int (Int32.ofNat o), .ref d, .int (Int32.ofNat q), .int (Int32.ofNat len)] below meth c T' ([] ++ copyLocs d q len) 0 0 ∧ Put d B' s₁ T' ∧ Laid B B' q (q + len) (fun j => Value.int (lo8 (cv A (o + (j - q))))) ∧
      Steps p.tables e below (s₁.setTop (entryFrame m #[.ref b, .int (Int32.ofNat o), .ref d, .int (Int32.ofNat q), .int (Int32.ofNat len)] 7)) (T'.setTop (mkF m 3 #[.val (.ref b), .val (.int (Int32.ofNat (o + len))), .val (.ref d), .val (.int (Int32.ofNat (q + len))), .val (.int (Int32.ofNat len)), .val (.int (Int32.ofNat len)), z'] [])) := by
    intro r
    induction r with
    | zero =>
      intro i hi z hz Tl Bk Xl pl fl cl
      have hil : i = len := by omega
      rw [hil] at Xl fl cl
      exact ⟨Tl, Bk, z, Xl, pl, fl, cl⟩
    | succ r ih =>
      intro i hi z hz Tl Bk Xl pl fl cl
      have all := X0.warmed.alike.symm.trans Xl.warmed.alike
      have hAl := hA0.keep all (pl.other hne hA0.1)
      have hBk := hB0.like all pl.1 fl.1 fl.2.1 fl.2.2.1
      have hlt : q + i < Bk.slots.size := by rw [fl.2.2.1]; omega
      have c3 : Steps p.tables e below (s₁.setTop (entryFrame m #[.ref b, .int (Int32.ofNat o), .ref d, .int (Int32.ofNat q), .int (Int32.ofNat len)] 7)) (Tl.setTop (mkF m 12 #[.val (.ref b), .val (.int (Int32.ofNat (o + i))), .val (.ref d), .val (.int (Int32.ofNat (q + i))), .val (.int (Int32.ofNat len)), .val (.int (Int32.ofNat i)), z] [.int (Int32.ofNat (o + i)), .ref b])) := cl.trans (by
        refine XS.iload Xl.here hexec rfl (hb hbytes d3) rfl ?_
        refine XS.iload Xl.here hexec rfl (hb hbytes d5) rfl ?_
        refine XS.icmpNo Xl.here hexec rfl (hb hbytes d7) rfl (ii_ge_f (lt32 (by omega) (by omega))) ?_
        refine XS.aloadN Xl.here hexec rfl (hb hbytes d10) rfl rfl ?_
        refine XS.iloadN Xl.here hexec rfl (hb hbytes d11) rfl ?_
        exact Steps.refl _)
      have c4 : Steps p.tables e below (s₁.setTop (entryFrame m #[.ref b, .int (Int32.ofNat o), .ref d, .int (Int32.ofNat q), .int (Int32.ofNat len)] 7)) (Tl.setTop (mkF m 13 #[.val (.ref b), .val (.int (Int32.ofNat (o + i))), .val (.ref d), .val (.int (Int32.ofNat (q + i))), .val (.int (Int32.ofNat len)), .val (.int (Int32.ofNat i)), z] [.int (cv A (o + i))])) := c3.trans (by
        refine Xl.aget hexec hAl rfl (hA.get (i := o + i) (by omega)) rfl rfl (hb hbytes d12) ?_
        exact Steps.refl _)
      have c5 : Steps p.tables e below (s₁.setTop (entryFrame m #[.ref b, .int (Int32.ofNat o), .ref d, .int (Int32.ofNat q), .int (Int32.ofNat len)] 7)) (Tl.setTop (mkF m 15 #[.val (.ref b), .val (.int (Int32.ofNat (o + i))), .val (.ref d), .val (.int (Int32.ofNat (q + i))), .val (.int (Int32.ofNat len)), .val (.int (Int32.ofNat i)), .val (.int (cv A (o + i)))] [])) := c4.trans (by
        refine XS.istoreS Xl.here hexec rfl (hb hbytes d13) rfl rfl hz ?_
        exact Steps.refl _)
      have c6 : Steps p.tables e below (s₁.setTop (entryFrame m #[.ref b, .int (Int32.ofNat o), .ref d, .int (Int32.ofNat q), .int (Int32.ofNat len)] 7)) (Tl.setTop (mkF m 31 #[.val (.ref b), .val (.int (Int32.ofNat (o + i))), .val (.ref d), .val (.int (Int32.ofNat (q + i))), .val (.int (Int32.ofNat len)), .val (.int (Int32.ofNat i)), .val (.int (cv A (o + i)))] [.int (lo8 (cv A (o + i))), .int (Int32.ofNat (q + i)), .ref d])) := c5.trans (by
        refine XS.iload Xl.here hexec rfl (hb hbytes d15) rfl ?_
        refine sipushV Xl.here hexec rfl 255 (hb hbytes d17) (by decide) ?_
        refine XS.icmpYes Xl.here hexec rfl (pc0 := 20) rfl (hb hbytes d20) rfl (ii_le_t (hp i (by omega))) (by decide) rfl ?_
        refine XS.aloadN Xl.here hexec rfl (hb hbytes d26) rfl rfl ?_
        refine XS.iloadN Xl.here hexec rfl (hb hbytes d27) rfl ?_
        refine XS.iload Xl.here hexec rfl (hb hbytes d28) rfl ?_
        refine i2b Xl.here hexec rfl (hb hbytes d30) rfl ?_
        exact Steps.refl _)
      obtain ⟨T7, X7, p7, st7⟩ := Xl.aput hexec hBk rfl hlt rfl (fits_lo8 (cv A (o + i))) (g := (mkF m 31 #[.val (.ref b), .val (.int (Int32.ofNat (o + i))), .val (.ref d), .val (.int (Int32.ofNat (q + i))), .val (.int (Int32.ofNat len)), .val (.int (Int32.ofNat i)), .val (.int (cv A (o + i)))] [.int (lo8 (cv A (o + i))), .int (Int32.ofNat (q + i)), .ref d])) rfl (rest := []) rfl (hb hbytes d31)
      have c8 : Steps p.tables e below (s₁.setTop (entryFrame m #[.ref b, .int (Int32.ofNat o), .ref d, .int (Int32.ofNat q), .int (Int32.ofNat len)] 7)) (T7.setTop (mkF m 32 #[.val (.ref b), .val (.int (Int32.ofNat (o + i))), .val (.ref d), .val (.int (Int32.ofNat (q + i))), .val (.int (Int32.ofNat len)), .val (.int (Int32.ofNat i)), .val (.int (cv A (o + i)))] [])) := c6.trans (st7 _ (Steps.refl _))
      have c9 : Steps p.tables e below (s₁.setTop (entryFrame m #[.ref b, .int (Int32.ofNat o), .ref d, .int (Int32.ofNat q), .int (Int32.ofNat len)] 7)) (T7.setTop (mkF m 3 #[.val (.ref b), .val (.int (Int32.ofNat (o + i) + 1)), .val (.ref d), .val (.int (Int32.ofNat (q + i) + 1)), .val (.int (Int32.ofNat len)), .val (.int (Int32.ofNat i + 1)), .val (.int (cv A (o + i)))] [])) := c8.trans (by
        refine iincV X7.here hexec rfl 1 (hb hbytes d32) (by decide) rfl rfl ?_
        refine iincV X7.here hexec rfl 1 (hb hbytes d35) (by decide) rfl rfl ?_
        refine iincV X7.here hexec rfl 1 (hb hbytes d38) (by decide) rfl rfl ?_
        refine XS.goto X7.here hexec rfl (pc0 := 41) rfl (hb hbytes d41) (by decide) rfl ?_
        exact Steps.refl _)
      have c10 : Steps p.tables e below (s₁.setTop (entryFrame m #[.ref b, .int (Int32.ofNat o), .ref d, .int (Int32.ofNat q), .int (Int32.ofNat len)] 7)) (T7.setTop (mkF m 3 #[.val (.ref b), .val (.int (Int32.ofNat (o + (i + 1)))), .val (.ref d), .val (.int (Int32.ofNat (q + (i + 1)))), .val (.int (Int32.ofNat len)), .val (.int (Int32.ofNat (i + 1))), .val (.int (cv A (o + i)))] [])) := by
        have := c9
        rw [succ32, succ32, succ32] at this
        exact this
      exact ih (i + 1) (by omega) _ (Or.inr ⟨_, rfl, rfl⟩) T7 _ (by rw [copyLocs_step, ← List.append_assoc]; exact X7) (pl.trans p7) (fl.step (by omega) hlt (by simp)) c10
  obtain ⟨T9, B9, z9, X9, p9, f9, g9⟩ := loop len 0 (by omega) .unset (Or.inl rfl) s₁ B (by simpa [copyLocs] using X0) ⟨hB0.1, fun _ _ => rfl, rfl⟩ (Laid.zero _ _ _) c2
  have c11 : Steps p.tables e below (s₁.setTop (entryFrame m #[.ref b, .int (Int32.ofNat o), .ref d, .int (Int32.ofNat q), .int (Int32.ofNat len)] 7)) (T9.setTop (mkF m 46 #[.val (.ref b), .val (.int (Int32.ofNat (o + len))), .val (.ref d), .val (.int (Int32.ofNat (q + len))), .val (.int (Int32.ofNat len)), .val (.int (Int32.ofNat len)), z9] [.int (Int32.ofNat len)])) := g9.trans (by
    refine XS.iload X9.here hexec rfl (hb hbytes d3) rfl ?_
    refine XS.iload X9.here hexec rfl (hb hbytes d5) rfl ?_
    refine XS.icmpYes X9.here hexec rfl (pc0 := 7) rfl (hb hbytes d7) rfl (ii_ge_t (nlt32 (by omega) (Nat.le_refl _))) (by decide) rfl ?_
    refine XS.iload X9.here hexec rfl (hb hbytes d44) rfl ?_
    exact Steps.refl _)
  exact ⟨T9, some (.int (Int32.ofNat len)), _, _, _, X9, by simp, rfl, rfl, (fun h => by cases h), ⟨rfl, B9, p9.from hh0, f9⟩, fun fs hl => c11.trans (X9.ireturnOut hexec hret rfl (Or.inl rfl) (hb hbytes d46) hl)⟩
end Cmp5
namespace Cmp3
def yN : MethodName := ⟨"java/lang/StringUTF16", "compress", "([CII)[B"⟩
abbrev yB : ByteArray := jdk_52_method_16_code
theorem d0 : decode yB 0 = .ok (.iload_n 2, 1) := by decide +kernel
theorem d1 : decode yB 1 = .ok (.newarray .byte, 2) := by decide +kernel
theorem d3 : decode yB 3 = .ok (.astore_n 3, 1) := by decide +kernel
theorem d4 : decode yB 4 = .ok (.aload_n 0, 1) := by decide +kernel
theorem d5 : decode yB 5 = .ok (.iload_n 1, 1) := by decide +kernel
theorem d6 : decode yB 6 = .ok (.aload_n 3, 1) := by decide +kernel
theorem d7 : decode yB 7 = .ok (.iconst 0, 1) := by decide +kernel
theorem d8 : decode yB 8 = .ok (.iload_n 2, 1) := by decide +kernel
theorem d9 : decode yB 9 = .ok (.invokestatic 115, 3) := by decide +kernel
theorem d12 : decode yB 12 = .ok (.istore 4, 2) := by decide +kernel
theorem d14 : decode yB 14 = .ok (.iload 4, 2) := by decide +kernel
theorem d16 : decode yB 16 = .ok (.iload_n 2, 1) := by decide +kernel
theorem d17 : decode yB 17 = .ok (.if_icmp (.eq) 40, 3) := by decide +kernel
theorem d57 : decode yB 57 = .ok (.aload_n 3, 1) := by decide +kernel
theorem d58 : decode yB 58 = .ok (.areturn, 1) := by decide +kernel
def site : List Cond := [.arrayClass .byte, Cmp5.tab] ++ staticW U16 115 Cmp5.yN
def tab : Cond := tabOf yN yB 6 (some (.array .byte)) site
def P (b : Addr) (A : Cell) (o len : Nat) (args : Array Value) (s : State) : Prop := args = #[.ref b, .int (Int32.ofNat o), .int (Int32.ofNat len)] ∧ Ch b A s ∧ o + len ≤ A.slots.size ∧ len ≤ 536870912 ∧ ∀ i, i < len → ¬ 255 < cv A (o + i)
def E (b : Addr) (A : Cell) (o len : Nat) (r : Option Value) (s u : State) : Prop := NewArr .byte "[B" len (fun j => .int (lo8 (cv A (o + j)))) r s u ∧ u.heap.size = s.heap.size + 1
/-- no char of the range above 255: a new byte[] of their low bytes -/
theorem law (l : Launch) (b : Addr) (A : Cell) (o len : Nat) : Law l yN 3 3 1 18 yB 6 (some (.array .byte)) site (P b A o len) (E b A o len) [] 1 len := by
  refine Law.of_walk (plainFor_of_name (by decide +kernel)) (by decide +kernel) (by decide +kernel) (by decide) (fun _ _ h => by rw [h.1]; rfl) (fun _ U U' hal hh h => ⟨h.1, h.2.1.mv hal hh, h.2.2⟩) (fun r U U' V V' h1 hal h2 h => ⟨NewArr.mv r U U' V V' h1 hal h2 h.1, by rw [h1, h2]; exact h.2⟩) ?_
  intro p e s m args below meth c s₁ X0 hexec hbytes hml hret hlk hnm hown hh0 W hP
  obtain ⟨rfl, hA, l1, l2, hp⟩ := hP
  have a31 := hA.1.2.2.2
  have c1 : Steps p.tables e below (s₁.setTop (entryFrame m #[.ref b, .int (Int32.ofNat o), .int (Int32.ofNat len)] 6)) (s₁.setTop (mkF m 0 #[.val (.ref b), .val (.int (Int32.ofNat o)), .val (.int (Int32.ofNat len)), .unset, .unset, .unset] [])) := entry rfl
  have c2 : Steps p.tables e below (s₁.setTop (entryFrame m #[.ref b, .int (Int32.ofNat o), .int (Int32.ofNat len)] 6)) (s₁.setTop (mkF m 1 #[.val (.ref b), .val (.int (Int32.ofNat o)), .val (.int (Int32.ofNat len)), .unset, .unset, .unset] [.int (Int32.ofNat len)])) := c1.trans (by
    refine XS.iloadN X0.here hexec rfl (hb hbytes d0) rfl ?_
    exact Steps.refl _)
  obtain ⟨T3, B3, X3, ba3, bs3, bv3, bh3, bf3, st3⟩ := X0.anew hexec (atype := .byte) (wk W (.arrayClass .byte)) rfl (by show len * 1 ≤ _; omega) (by omega) (g := (mkF m 1 #[.val (.ref b), .val (.int (Int32.ofNat o)), .val (.int (Int32.ofNat len)), .unset, .unset, .unset] [.int (Int32.ofNat len)])) rfl (hb hbytes d1) (rest := []) rfl (Nat.le_refl _) (by show 0 + len ≤ len; omega)
  rw [hh0] at ba3 st3
  have kp3 : XT.Kept s T3 := (XT.Kept.of_eq hh0).push bh3
  have hA3 := hA.keep X3.warmed.alike (kp3 _ _ hA.1.1)
  have hne : b ≠ s.heap.size := hA.1.ne
  have c4 : Steps p.tables e below (s₁.setTop (entryFrame m #[.ref b, .int (Int32.ofNat o), .int (Int32.ofNat len)] 6)) (T3.setTop (mkF m 3 #[.val (.ref b), .val (.int (Int32.ofNat o)), .val (.int (Int32.ofNat len)), .unset, .unset, .unset] [.ref s.heap.size])) := c2.trans (st3 _ (Steps.refl _))
  have c5 : Steps p.tables e below (s₁.setTop (entryFrame m #[.ref b, .int (Int32.ofNat o), .int (Int32.ofNat len)] 6)) (T3.setTop (mkF m 9 #[.val (.ref b), .val (.int (Int32.ofNat o)), .val (.int (Int32.ofNat len)), .val (.ref s.heap.size), .unset, .unset] [.int (Int32.ofNat len), .int 0, .ref s.heap.size, .int (Int32.ofNat o), .ref b])) := c4.trans (by
    refine XS.astoreN X3.here hexec rfl (hb hbytes d3) rfl rfl rfl ?_
    refine XS.aloadN X3.here hexec rfl (hb hbytes d4) rfl rfl ?_
    refine XS.iloadN X3.here hexec rfl (hb hbytes d5) rfl ?_
    refine XS.aloadN X3.here hexec rfl (hb hbytes d6) rfl rfl ?_
    refine iconstV X3.here hexec rfl 0 (hb hbytes d7) (by decide) ?_
    refine XS.iloadN X3.here hexec rfl (hb hbytes d8) rfl ?_
    exact Steps.refl _)
  obtain ⟨v6, T6, X6, E6, g6⟩ := X3.callS hexec (Cmp5.law l b A s.heap.size B3 o 0 len) hown (wks W (staticW U16 115 Cmp5.yN)) (wk W Cmp5.tab) (W := 0) (Nat.le_of_ble_eq_true rfl) (Nat.le_of_ble_eq_true rfl) (Nat.le_refl _) (by show 0 + len + 0 ≤ len; omega) (g := (mkF m 9 #[.val (.ref b), .val (.int (Int32.ofNat o)), .val (.int (Int32.ofNat len)), .val (.ref s.heap.size), .unset, .unset] [.int (Int32.ofNat len), .int (Int32.ofNat 0), .ref s.heap.size, .int (Int32.ofNat o), .ref b])) rfl (by rw [hml]; rfl) c5 (argsL := [.ref b, .int (Int32.ofNat o), .ref s.heap.size, .int (Int32.ofNat 0), .int (Int32.ofNat len)]) (rest := []) rfl rfl (by show 2 * 0 + 0 ≤ _; decide) (hb hbytes d9) (⟨rfl, hA3, ba3, hne, l1, by rw [bs3]; simp, hp⟩)
  obtain ⟨rfl, B6, p6, f6⟩ := E6
  have c7 : Steps p.tables e below (s₁.setTop (entryFrame m #[.ref b, .int (Int32.ofNat o), .int (Int32.ofNat len)] 6)) (T6.setTop (mkF m 12 #[.val (.ref b), .val (.int (Int32.ofNat o)), .val (.int (Int32.ofNat len)), .val (.ref s.heap.size), .unset, .unset] [.int (Int32.ofNat len)])) := g6
  have c8 : Steps p.tables e below (s₁.setTop (entryFrame m #[.ref b, .int (Int32.ofNat o), .int (Int32.ofNat len)] 6)) (T6.setTop (mkF m 58 #[.val (.ref b), .val (.int (Int32.ofNat o)), .val (.int (Int32.ofNat len)), .val (.ref s.heap.size), .val (.int (Int32.ofNat len)), .unset] [.ref s.heap.size])) := c7.trans (by
    refine XS.istore X6.here hexec rfl (hb hbytes d12) rfl rfl ?_
    refine XS.iload X6.here hexec rfl (hb hbytes d14) rfl ?_
    refine XS.iloadN X6.here hexec rfl (hb hbytes d16) rfl ?_
    refine XS.icmpYes X6.here hexec rfl (pc0 := 17) rfl (hb hbytes d17) rfl (ii_eq_t rfl) (by decide) rfl ?_
    refine XS.aloadN X6.here hexec rfl (hb hbytes d57) rfl rfl ?_
    exact Steps.refl _)
  have X8 := X6.wide (L' := []) (cells' := 1) (slots' := len) (fun x hx hlt => by
    simp only [List.nil_append, copyLocs, List.mem_map, List.mem_range] at hx
    obtain ⟨i, -, rfl⟩ := hx
    exact absurd hlt (Nat.lt_irrefl _)) (Nat.le_refl _) (by omega)
  exact ⟨T6, some (.ref s.heap.size), _, _, _, X8, rfl, rfl, rfl, (fun h => by cases h), ⟨⟨rfl, B6, ba3.like (X3.warmed.alike.symm.trans X6.warmed.alike) p6.1 f6.1 f6.2.1 f6.2.2.1, f6.2.1.trans bv3, by rw [X6.warmed.alike.findClass, f6.1]; exact bf3, by rw [f6.2.2.1, bs3]; simp, fun j hj => by rw [f6.2.2.2 j, if_pos (by omega)]; rfl, kp3.put p6 (Nat.le_refl _)⟩, by rw [p6.2.2, bh3, hh0]; simp⟩, fun fs hl => c8.trans (X8.areturnOut hexec rfl hret rfl (hb hbytes d58) hl)⟩
end Cmp3
namespace CodL
def yN : MethodName := ⟨"java/lang/StringUTF16", "coderFromArrayLen", "([BI)B"⟩
abbrev yB : ByteArray := jdk_52_method_15_code
theorem d0 : decode yB 0 = .ok (.iload_n 1, 1) := by decide +kernel
theorem d1 : decode yB 1 = .ok (.aload_n 0, 1) := by decide +kernel
theorem d2 : decode yB 2 = .ok (.arraylength, 1) := by decide +kernel
theorem d3 : decode yB 3 = .ok (.isub, 1) := by decide +kernel
theorem d4 : decode yB 4 = .ok (.bipush 31, 2) := by decide +kernel
theorem d6 : decode yB 6 = .ok (.iushr, 1) := by decide +kernel
theorem d7 : decode yB 7 = .ok (.i2b, 1) := by decide +kernel
theorem d8 : decode yB 8 = .ok (.ireturn, 1) := by decide +kernel
def site : List Cond := []
def tab : Cond := tabOf yN yB 2 (some .byte) site
def P (d : Addr) (B : Cell) (args : Array Value) (s : State) : Prop := args = #[.ref d, .int (Int32.ofNat B.slots.size)] ∧ Arr .byte d B s
def E (r : Option Value) (s u : State) : Prop := XT.PureE (some (.int 0)) r s u
/-- an array as long as the number of chars: LATIN1 -/
theorem law (l : Launch) (d : Addr) (B : Cell) : Law l yN 2 2 0 0 yB 2 (some .byte) site (P d B) E [] 0 0 := by
  refine Law.of_walk (plainFor_of_name (by decide +kernel)) (by decide +kernel) (by decide +kernel) (by decide) (fun _ _ h => by rw [h.1]; rfl) (fun _ U U' hal hh h => ⟨h.1, h.2.mv hal hh⟩) (fun r U U' V V' h1 hal h2 h => XT.PureE.mv r U U' V V' h1 hal h2 h) ?_
  intro p e s m args below meth c s₁ X0 hexec hbytes hml hret hlk hnm hown hh0 W hP
  obtain ⟨rfl, hB⟩ := hP
  have hB0 := hB.mv X0.warmed.alike hh0
  have c1 : Steps p.tables e below (s₁.setTop (entryFrame m #[.ref d, .int (Int32.ofNat B.slots.size)] 2)) (s₁.setTop (mkF m 0 #[.val (.ref d), .val (.int (Int32.ofNat B.slots.size))] [])) := entry rfl
  have c2 : Steps p.tables e below (s₁.setTop (entryFrame m #[.ref d, .int (Int32.ofNat B.slots.size)] 2)) (s₁.setTop (mkF m 2 #[.val (.ref d), .val (.int (Int32.ofNat B.slots.size))] [.ref d, .int (Int32.ofNat B.slots.size)])) := c1.trans (by
    refine XS.iloadN X0.here hexec rfl (hb hbytes d0) rfl ?_
    refine XS.aloadN X0.here hexec rfl (hb hbytes d1) rfl rfl ?_
    exact Steps.refl _)
  have c3 : Steps p.tables e below (s₁.setTop (entryFrame m #[.ref d, .int (Int32.ofNat B.slots.size)] 2)) (s₁.setTop (mkF m 8 #[.val (.ref d), .val (.int (Int32.ofNat B.slots.size))] [.int (lo8 (ushr (Int32.ofNat B.slots.size - Int32.ofNat B.slots.size) 31))])) := c2.trans (by
    refine X0.alen hexec hB0 rfl rfl (hb hbytes d2) ?_
    refine XS.isub X0.here hexec rfl (hb hbytes d3) rfl ?_
    refine bipushV X0.here hexec rfl 31 (hb hbytes d4) (by decide) ?_
    refine iushr X0.here hexec rfl (hb hbytes d6) rfl ?_
    refine i2b X0.here hexec rfl (hb hbytes d7) rfl ?_
    exact Steps.refl _)
  have e0 : lo8 (ushr (Int32.ofNat B.slots.size - Int32.ofNat B.slots.size) 31) = 0 := by rw [Int32.sub_self]; decide
  rw [e0] at c3
  exact ⟨s₁, some (.int 0), _, _, _, X0, rfl, rfl, rfl, (fun h => by cases h), ⟨rfl, hh0⟩, fun fs hl => c3.trans (X0.ireturnOut hexec hret rfl (Or.inr (Or.inr (Or.inl rfl))) (hb hbytes d8) hl)⟩
end CodL
/-- the String at a is Latin-1 over a new byte[] (the heap's one new cell): the low bytes of the len chars of A from o on; every cell but a is kept -/
def Got (a : Addr) (D : Cell) (fV fC : Field) (A : Cell) (o len : Nat) (r : Option Value) (s u : State) : Prop := r = none ∧ ∃ D' V : Cell, Blank "java/lang/String" a D' u ∧ Same D D' [fV.slot, fC.slot] ∧ D'.slots[fV.slot]? = some (.ref s.heap.size) ∧ D'.slots[fC.slot]? = some (.int 0) ∧ Arr .byte s.heap.size V u ∧ V.vm = .none ∧ u.vm.findClass "[B" = some V.cls ∧ V.slots.size = len ∧ (∀ j, j < len → V.slots[j]? = some (.int (lo8 (cv A (o + j))))) ∧ (∀ (y : Addr) (c : Cell), y ≠ a → s.heap[y]? = some c → u.heap[y]? = some c) ∧ u.heap.size = s.heap.size + 1
theorem Got.mv {a : Addr} {D A : Cell} {fV fC : Field} {o len : Nat} : ∀ r (U U' V V' : State), U'.heap = U.heap → V.vm.Alike V'.vm → V'.heap = V.heap → Got a D fV fC A o len r U V → Got a D fV fC A o len r U' V' :=
  fun r U U' V V' h1 hal h2 ⟨e0, D', X, a1, a2, a3, a4, a5, a6, a7, a8, a9, a10, a11⟩ => ⟨e0, D', X, a1.mv hal h2, a2, by rw [h1]; exact a3, a4, by rw [h1]; exact a5.mv hal h2, a6, by rw [hal.findClass]; exact a7, a8, a9, by rw [h1, h2]; exact a10, by rw [h1, h2]; exact a11⟩
namespace New4
def yN : MethodName := ⟨"java/lang/String", "<init>", "([CIILjava/lang/Void;)V"⟩
abbrev yB : ByteArray := jdk_42_method_149_code
theorem d0 : decode yB 0 = .ok (.aload_n 0, 1) := by decide +kernel
theorem d1 : decode yB 1 = .ok (.invokespecial 1, 3) := by decide +kernel
theorem d4 : decode yB 4 = .ok (.iload_n 3, 1) := by decide +kernel
theorem d5 : decode yB 5 = .ok (.ifCond (.ne) 22, 3) := by decide +kernel
theorem d27 : decode yB 27 = .ok (.getstatic 38, 3) := by decide +kernel
theorem d30 : decode yB 30 = .ok (.ifCond (.eq) 28, 3) := by decide +kernel
theorem d33 : decode yB 33 = .ok (.aload_n 1, 1) := by decide +kernel
theorem d34 : decode yB 34 = .ok (.iload_n 2, 1) := by decide +kernel
theorem d35 : decode yB 35 = .ok (.iload_n 3, 1) := by decide +kernel
theorem d36 : decode yB 36 = .ok (.invokestatic 177, 3) := by decide +kernel
theorem d39 : decode yB 39 = .ok (.astore 5, 2) := by decide +kernel
theorem d41 : decode yB 41 = .ok (.aload_n 0, 1) := by decide +kernel
theorem d42 : decode yB 42 = .ok (.aload 5, 2) := by decide +kernel
theorem d44 : decode yB 44 = .ok (.iload_n 3, 1) := by decide +kernel
theorem d45 : decode yB 45 = .ok (.invokestatic 47, 3) := by decide +kernel
theorem d48 : decode yB 48 = .ok (.putfield 15, 3) := by decide +kernel
theorem d51 : decode yB 51 = .ok (.aload_n 0, 1) := by decide +kernel
theorem d52 : decode yB 52 = .ok (.aload 5, 2) := by decide +kernel
theorem d54 : decode yB 54 = .ok (.putfield 9, 3) := by decide +kernel
theorem d57 : decode yB 57 = .ok (.return_, 1) := by decide +kernel
def site : List Cond := [.fieldLink "java/lang/String" 38 "java/lang/String" "COMPACT_STRINGS" "Z", Cmp3.tab, CodL.tab, .laysFinal "java/lang/String" "java/lang/String" "value" "[B", .fieldLink "java/lang/String" 9 "java/lang/String" "value" "[B", .laysFinal "java/lang/String" "java/lang/String" "coder" "B", .fieldLink "java/lang/String" 15 "java/lang/String" "coder" "B"] ++ objW "java/lang/String" 1 ++ staticW "java/lang/String" 177 Cmp3.yN ++ staticW "java/lang/String" 47 CodL.yN
def tab : Cond := tabOf yN yB 6 none site
def P (a : Addr) (D : Cell) (fV fC : Field) (b : Addr) (A : Cell) (z : Int32) (o len : Nat) (args : Array Value) (s : State) : Prop := args = #[.ref a, .ref b, .int (Int32.ofNat o), .int (Int32.ofNat len), .null] ∧ Blank "java/lang/String" a D s ∧ Found "java/lang/String" "value" "[B" fV s ∧ Found "java/lang/String" "coder" "B" fC s ∧ Ch b A s ∧ StaticIs s "java/lang/String" "COMPACT_STRINGS" "Z" (.int z) ∧ ¬ z = 0 ∧ 0 < len ∧ o + len ≤ A.slots.size ∧ len ≤ 536870912 ∧ ∀ i, i < len → ¬ 255 < cv A (o + i)
def E (a : Addr) (D : Cell) (fV fC : Field) (A : Cell) (o len : Nat) (r : Option Value) (s u : State) : Prop := Got a D fV fC A o len r s u
/-- len > 0, no char of the range above 255: a Latin-1 String of their low bytes -/
theorem law (l : Launch) (a : Addr) (D : Cell) (fV fC : Field) (b : Addr) (A : Cell) (z : Int32) (o len : Nat) : Law l yN 5 4 2 35 yB 6 none site (P a D fV fC b A z o len) (E a D fV fC A o len) [⟨a, fC.slot⟩, ⟨a, fV.slot⟩] 1 len := by
  refine Law.of_walk (plainFor_of_name (by decide +kernel)) (by decide +kernel) (by decide +kernel) (by decide) (fun _ _ h => by rw [h.1]; rfl) (fun _ U U' hal hh h => ⟨h.1, h.2.1.mv hal hh, h.2.2.1.al hal, h.2.2.2.1.al hal, h.2.2.2.2.1.mv hal hh, h.2.2.2.2.2.1.there hal hh, h.2.2.2.2.2.2⟩) (fun r U U' V V' h1 hal h2 h => Got.mv r U U' V V' h1 hal h2 h) ?_
  intro p e s m args below meth c s₁ X0 hexec hbytes hml hret hlk hnm hown hh0 W hP
  obtain ⟨rfl, hB, f1, f2, hA, s1, hz, l0, l1, l2, hp⟩ := hP
  have a31 := hA.1.2.2.2
  have c1 : Steps p.tables e below (s₁.setTop (entryFrame m #[.ref a, .ref b, .int (Int32.ofNat o), .int (Int32.ofNat len), .null] 6)) (s₁.setTop (mkF m 0 #[.val (.ref a), .val (.ref b), .val (.int (Int32.ofNat o)), .val (.int (Int32.ofNat len)), .val .null, .unset] [])) := entry rfl
  have c2 : Steps p.tables e below (s₁.setTop (entryFrame m #[.ref a, .ref b, .int (Int32.ofNat o), .int (Int32.ofNat len), .null] 6)) (s₁.setTop (mkF m 1 #[.val (.ref a), .val (.ref b), .val (.int (Int32.ofNat o)), .val (.int (Int32.ofNat len)), .val .null, .unset] [.ref a])) := c1.trans (by
    refine XS.aloadN X0.here hexec rfl (hb hbytes d0) rfl rfl ?_
    exact Steps.refl _)
  obtain ⟨T3, X3, q3, st3⟩ := X0.oinit hexec hown (wks W (objW "java/lang/String" 1)) (g := (mkF m 1 #[.val (.ref a), .val (.ref b), .val (.int (Int32.ofNat o)), .val (.int (Int32.ofNat len)), .val .null, .unset] [.ref a])) rfl (by rw [hml]; rfl) (rest := []) rfl (hb hbytes d1) (W := 0) (by show 2 * 0 + 0 ≤ _; decide) (Nat.le_of_ble_eq_true rfl) (Nat.le_of_ble_eq_true rfl)
  have hh3 := q3.trans hh0
  have c4 : Steps p.tables e below (s₁.setTop (entryFrame m #[.ref a, .ref b, .int (Int32.ofNat o), .int (Int32.ofNat len), .null] 6)) (T3.setTop (mkF m 27 #[.val (.ref a), .val (.ref b), .val (.int (Int32.ofNat o)), .val (.int (Int32.ofNat len)), .val .null, .unset] [])) := (c2.trans (st3 _ (Steps.refl _))).trans (by
    refine XS.iloadN X3.here hexec rfl (hb hbytes d4) rfl ?_
    refine XS.ifYes X3.here hexec rfl (pc0 := 5) rfl (hb hbytes d5) rfl (i0_ne_t (nz32 (by omega) l0)) (by decide) rfl ?_
    exact Steps.refl _)
  obtain ⟨T5, X5, q5, st5⟩ := X3.sget hexec hown (wk W (.fieldLink "java/lang/String" 38 "java/lang/String" "COMPACT_STRINGS" "Z")) s1 (fun _ _ h => by rw [hh3]; exact h) (g := (mkF m 27 #[.val (.ref a), .val (.ref b), .val (.int (Int32.ofNat o)), .val (.int (Int32.ofNat len)), .val .null, .unset] [])) rfl (hb hbytes d27)
  have hh5 := q5.trans hh3
  have c6 : Steps p.tables e below (s₁.setTop (entryFrame m #[.ref a, .ref b, .int (Int32.ofNat o), .int (Int32.ofNat len), .null] 6)) (T5.setTop (mkF m 30 #[.val (.ref a), .val (.ref b), .val (.int (Int32.ofNat o)), .val (.int (Int32.ofNat len)), .val .null, .unset] [.int z])) := c4.trans (st5 _ (Steps.refl _))
  have c7 : Steps p.tables e below (s₁.setTop (entryFrame m #[.ref a, .ref b, .int (Int32.ofNat o), .int (Int32.ofNat len), .null] 6)) (T5.setTop (mkF m 36 #[.val (.ref a), .val (.ref b), .val (.int (Int32.ofNat o)), .val (.int (Int32.ofNat len)), .val .null, .unset] [.int (Int32.ofNat len), .int (Int32.ofNat o), .ref b])) := c6.trans (by
    refine XS.ifNo X5.here hexec rfl (hb hbytes d30) rfl (i0_eq_f hz) ?_
    refine XS.aloadN X5.here hexec rfl (hb hbytes d33) rfl rfl ?_
    refine XS.iloadN X5.here hexec rfl (hb hbytes d34) rfl ?_
    refine XS.iloadN X5.here hexec rfl (hb hbytes d35) rfl ?_
    exact Steps.refl _)
  obtain ⟨v8, T8, X8, E8, g8⟩ := X5.callS hexec (Cmp3.law l b A o len) hown (wks W (staticW "java/lang/String" 177 Cmp3.yN)) (wk W Cmp3.tab) (W := 0) (Nat.le_of_ble_eq_true rfl) (Nat.le_of_ble_eq_true rfl) (Nat.le_refl _) (by show 0 + len ≤ len; omega) (g := (mkF m 36 #[.val (.ref a), .val (.ref b), .val (.int (Int32.ofNat o)), .val (.int (Int32.ofNat len)), .val .null, .unset] [.int (Int32.ofNat len), .int (Int32.ofNat o), .ref b])) rfl (by rw [hml]; rfl) c7 (argsL := [.ref b, .int (Int32.ofNat o), .int (Int32.ofNat len)]) (rest := []) rfl rfl (by show 2 * 0 + 0 ≤ _; decide) (hb hbytes d36) (⟨rfl, hA.mv X5.warmed.alike hh5, l1, l2, hp⟩)
  obtain ⟨e8, z8⟩ := E8
  obtain ⟨rfl, N, n1, n2, n3, n4, n5, n6⟩ := NewArr.mv _ T5 s _ _ hh5.symm (Vm.Alike.refl _) rfl e8
  rw [hh5] at z8
  have hB1 := hB.keep X8.warmed.alike (n6 _ _ hB.1)
  have hne : s.heap.size ≠ a := (Nat.ne_of_lt (Array.getElem?_eq_some_iff.mp hB.1).1).symm
  have c9 : Steps p.tables e below (s₁.setTop (entryFrame m #[.ref a, .ref b, .int (Int32.ofNat o), .int (Int32.ofNat len), .null] 6)) (T8.setTop (mkF m 39 #[.val (.ref a), .val (.ref b), .val (.int (Int32.ofNat o)), .val (.int (Int32.ofNat len)), .val .null, .unset] [.ref s.heap.size])) := g8
  have c10 : Steps p.tables e below (s₁.setTop (entryFrame m #[.ref a, .ref b, .int (Int32.ofNat o), .int (Int32.ofNat len), .null] 6)) (T8.setTop (mkF m 45 #[.val (.ref a), .val (.ref b), .val (.int (Int32.ofNat o)), .val (.int (Int32.ofNat len)), .val .null, .val (.ref s.heap.size)] [.int (Int32.ofNat N.slots.size), .ref s.heap.size, .ref a])) := by
    have hc : Steps p.tables e below (s₁.setTop (entryFrame m #[.ref a, .ref b, .int (Int32.ofNat o), .int (Int32.ofNat len), .null] 6)) (T8.setTop (mkF m 45 #[.val (.ref a), .val (.ref b), .val (.int (Int32.ofNat o)), .val (.int (Int32.ofNat len)), .val .null, .val (.ref s.heap.size)] [.int (Int32.ofNat len), .ref s.heap.size, .ref a])) := c9.trans (by
      refine XS.astore X8.here hexec rfl (hb hbytes d39) rfl rfl rfl ?_
      refine XS.aloadN X8.here hexec rfl (hb hbytes d41) rfl rfl ?_
      refine XS.aload X8.here hexec rfl (hb hbytes d42) rfl rfl ?_
      refine XS.iloadN X8.here hexec rfl (hb hbytes d44) rfl ?_
      exact Steps.refl _)
    rw [n4]; exact hc
  obtain ⟨v11, T11, X11, E11, g11⟩ := X8.callS hexec (CodL.law l s.heap.size N) hown (wks W (staticW "java/lang/String" 47 CodL.yN)) (wk W CodL.tab) (W := 1) (Nat.le_of_ble_eq_true rfl) (Nat.le_of_ble_eq_true rfl) (Nat.le_refl _) (by show 0 + len + 0 ≤ len; omega) (g := (mkF m 45 #[.val (.ref a), .val (.ref b), .val (.int (Int32.ofNat o)), .val (.int (Int32.ofNat len)), .val .null, .val (.ref s.heap.size)] [.int (Int32.ofNat N.slots.size), .ref s.heap.size, .ref a])) rfl (by rw [hml]; rfl) c10 (argsL := [.ref s.heap.size, .int (Int32.ofNat N.slots.size)]) (rest := [.ref a]) rfl rfl (by show 2 * 0 + (1 + 0) ≤ _; decide) (hb hbytes d45) (⟨rfl, n1⟩)
  obtain ⟨rfl, q11⟩ := E11
  have hB11 := hB1.mv (X8.warmed.alike.symm.trans X11.warmed.alike) q11
  have c12 : Steps p.tables e below (s₁.setTop (entryFrame m #[.ref a, .ref b, .int (Int32.ofNat o), .int (Int32.ofNat len), .null] 6)) (T11.setTop (mkF m 48 #[.val (.ref a), .val (.ref b), .val (.int (Int32.ofNat o)), .val (.int (Int32.ofNat len)), .val .null, .val (.ref s.heap.size)] [.int 0, .ref a])) := g11
  obtain ⟨T13, X13, p13, bl13, sl13, st13⟩ := X11.finit hexec hown (wk W (.fieldLink "java/lang/String" 15 "java/lang/String" "coder" "B")) (Or.inr ⟨_, (wk W (.laysFinal "java/lang/String" "java/lang/String" "coder" "B"))⟩) (Or.inl ⟨rfl, hnm⟩) f2 (Or.inl rfl) hB11 (t := .byte) (by decide +kernel) rfl (g := (mkF m 48 #[.val (.ref a), .val (.ref b), .val (.int (Int32.ofNat o)), .val (.int (Int32.ofNat len)), .val .null, .val (.ref s.heap.size)] [.int 0, .ref a])) rfl (rest := []) rfl (hb hbytes d48)
  have c14 : Steps p.tables e below (s₁.setTop (entryFrame m #[.ref a, .ref b, .int (Int32.ofNat o), .int (Int32.ofNat len), .null] 6)) (T13.setTop (mkF m 54 #[.val (.ref a), .val (.ref b), .val (.int (Int32.ofNat o)), .val (.int (Int32.ofNat len)), .val .null, .val (.ref s.heap.size)] [.ref s.heap.size, .ref a])) := (c12.trans (st13 _ (Steps.refl _))).trans (by
    refine XS.aloadN X13.here hexec rfl (hb hbytes d51) rfl rfl ?_
    refine XS.aload X13.here hexec rfl (hb hbytes d52) rfl rfl ?_
    exact Steps.refl _)
  obtain ⟨T15, X15, p15, bl15, sl15, st15⟩ := X13.finit hexec hown (wk W (.fieldLink "java/lang/String" 9 "java/lang/String" "value" "[B")) (Or.inr ⟨_, (wk W (.laysFinal "java/lang/String" "java/lang/String" "value" "[B"))⟩) (Or.inl ⟨rfl, hnm⟩) f1 (Or.inl rfl) bl13 (t := (.array .byte)) (by decide +kernel) rfl (g := (mkF m 54 #[.val (.ref a), .val (.ref b), .val (.int (Int32.ofNat o)), .val (.int (Int32.ofNat len)), .val .null, .val (.ref s.heap.size)] [.ref s.heap.size, .ref a])) rfl (rest := []) rfl (hb hbytes d54)
  have c16 : Steps p.tables e below (s₁.setTop (entryFrame m #[.ref a, .ref b, .int (Int32.ofNat o), .int (Int32.ofNat len), .null] 6)) (T15.setTop (mkF m 57 #[.val (.ref a), .val (.ref b), .val (.int (Int32.ofNat o)), .val (.int (Int32.ofNat len)), .val .null, .val (.ref s.heap.size)] [])) := c14.trans (st15 _ (Steps.refl _))
  have ap := apart (Or.inr ⟨_, (wk W (.laysFinal "java/lang/String" "java/lang/String" "value" "[B"))⟩) (Or.inr ⟨_, (wk W (.laysFinal "java/lang/String" "java/lang/String" "coder" "B"))⟩) f1 f2 (t₁ := .array .byte) (t₂ := .byte) (by decide +kernel) (by decide +kernel) (by decide)
  have al := X8.warmed.alike.symm.trans X15.warmed.alike
  have n7 : T11.heap[s.heap.size]? = some N := by rw [q11]; exact n1.1
  exact ⟨T15, none, _, _, _, X15, by simp, rfl, by omega, (fun _ => rfl), ⟨rfl, _, N, bl15, ((Same.refl D _).set _ (by simp)).set _ (by simp), sl15, (Cell.slots_setSlot_ne _ ap).trans sl13, n1.keep al (p15.other hne (p13.other hne n7)), n2, by rw [al.findClass]; exact n3, n4, n5, fun y c h1 h2 => p15.other h1 (p13.other h1 (by rw [q11]; exact n6 y c h2)), by rw [p15.2.2, p13.2.2, q11]; exact z8⟩, fun fs hl => c16.trans (X15.returnOut hexec hret (hb hbytes d57) hl)⟩
end New4
namespace New1
def yN : MethodName := ⟨"java/lang/String", "<init>", "([C)V"⟩
abbrev yB : ByteArray := jdk_42_method_3_code
theorem d0 : decode yB 0 = .ok (.aload_n 0, 1) := by decide +kernel
theorem d1 : decode yB 1 = .ok (.aload_n 1, 1) := by decide +kernel
theorem d2 : decode yB 2 = .ok (.iconst 0, 1) := by decide +kernel
theorem d3 : decode yB 3 = .ok (.aload_n 1, 1) := by decide +kernel
theorem d4 : decode yB 4 = .ok (.arraylength, 1) := by decide +kernel
theorem d5 : decode yB 5 = .ok (.aconst_null, 1) := by decide +kernel
theorem d6 : decode yB 6 = .ok (.invokespecial 27, 3) := by decide +kernel
theorem d9 : decode yB 9 = .ok (.return_, 1) := by decide +kernel
def site : List Cond := [New4.tab] ++ initW "java/lang/String" 27 New4.yN
def tab : Cond := tabOf yN yB 2 none site
def P (a : Addr) (D : Cell) (fV fC : Field) (b : Addr) (A : Cell) (z : Int32) (args : Array Value) (s : State) : Prop := args = #[.ref a, .ref b] ∧ Blank "java/lang/String" a D s ∧ Found "java/lang/String" "value" "[B" fV s ∧ Found "java/lang/String" "coder" "B" fC s ∧ Ch b A s ∧ StaticIs s "java/lang/String" "COMPACT_STRINGS" "Z" (.int z) ∧ ¬ z = 0 ∧ 0 < A.slots.size ∧ A.slots.size ≤ 536870912 ∧ ∀ i, i < A.slots.size → ¬ 255 < cv A i
def E (a : Addr) (D : Cell) (fV fC : Field) (A : Cell) (r : Option Value) (s u : State) : Prop := Got a D fV fC A 0 A.slots.size r s u
/-- new String(chars), not empty, no char above 255: a Latin-1 String of their low bytes -/
theorem law (l : Launch) (a : Addr) (D : Cell) (fV fC : Field) (b : Addr) (A : Cell) (z : Int32) : Law l yN 2 1 3 52 yB 2 none site (P a D fV fC b A z) (E a D fV fC A) [⟨a, fC.slot⟩, ⟨a, fV.slot⟩] 1 A.slots.size := by
  refine Law.of_walk (plainFor_of_name (by decide +kernel)) (by decide +kernel) (by decide +kernel) (by decide) (fun _ _ h => by rw [h.1]; rfl) (fun _ U U' hal hh h => ⟨h.1, h.2.1.mv hal hh, h.2.2.1.al hal, h.2.2.2.1.al hal, h.2.2.2.2.1.mv hal hh, h.2.2.2.2.2.1.there hal hh, h.2.2.2.2.2.2⟩) (fun r U U' V V' h1 hal h2 h => Got.mv r U U' V V' h1 hal h2 h) ?_
  intro p e s m args below meth c s₁ X0 hexec hbytes hml hret hlk hnm hown hh0 W hP
  obtain ⟨rfl, hB, f1, f2, hA, s1, hz, l0, l2, hp⟩ := hP
  have c1 : Steps p.tables e below (s₁.setTop (entryFrame m #[.ref a, .ref b] 2)) (s₁.setTop (mkF m 0 #[.val (.ref a), .val (.ref b)] [])) := entry rfl
  have c2 : Steps p.tables e below (s₁.setTop (entryFrame m #[.ref a, .ref b] 2)) (s₁.setTop (mkF m 6 #[.val (.ref a), .val (.ref b)] [.null, .int (Int32.ofNat A.slots.size), .int 0, .ref b, .ref a])) := c1.trans (by
    refine XS.aloadN X0.here hexec rfl (hb hbytes d0) rfl rfl ?_
    refine XS.aloadN X0.here hexec rfl (hb hbytes d1) rfl rfl ?_
    refine iconstV X0.here hexec rfl 0 (hb hbytes d2) (by decide) ?_
    refine XS.aloadN X0.here hexec rfl (hb hbytes d3) rfl rfl ?_
    refine X0.alen hexec (hA.1.mv X0.warmed.alike hh0) rfl rfl (hb hbytes d4) ?_
    refine XS.aconstNull X0.here hexec rfl (hb hbytes d5) ?_
    exact Steps.refl _)
  obtain ⟨v3, T3, X3, E3, g3⟩ := X0.callN hexec (New4.law l a D fV fC b A z 0 A.slots.size) rfl hown (wks W (initW "java/lang/String" 27 New4.yN)) (W New4.tab (by simp only [site, List.mem_cons, List.mem_append, true_or, or_true])) (W := 0) (Nat.le_of_ble_eq_true rfl) (Nat.le_of_ble_eq_true rfl) (Nat.le_refl _) (by show 0 + A.slots.size ≤ A.slots.size; omega) (g := (mkF m 6 #[.val (.ref a), .val (.ref b)] [.null, .int (Int32.ofNat A.slots.size), .int (Int32.ofNat 0), .ref b, .ref a])) rfl (by rw [hml]; rfl) c2 (argsL := [.ref b, .int (Int32.ofNat 0), .int (Int32.ofNat A.slots.size), .null]) (rest := []) rfl rfl (by show 2 * 0 + 0 ≤ _; decide) (hb hbytes d6) (⟨rfl, hB.mv X0.warmed.alike hh0, f1.al X0.warmed.alike, f2.al X0.warmed.alike, hA.mv X0.warmed.alike hh0, s1.there X0.warmed.alike hh0, hz, l0, by omega, l2, fun i hi => by rw [Nat.zero_add]; exact hp i hi⟩)
  have e0 := Got.mv _ s₁ s _ _ hh0.symm (Vm.Alike.refl _) rfl E3
  obtain rfl := e0.1
  have c4 : Steps p.tables e below (s₁.setTop (entryFrame m #[.ref a, .ref b] 2)) (T3.setTop (mkF m 9 #[.val (.ref a), .val (.ref b)] [])) := g3
  exact ⟨T3, none, _, _, _, X3, by simp, rfl, by omega, (fun _ => rfl), e0, fun fs hl => c4.trans (X3.returnOut hexec hret (hb hbytes d9) hl)⟩
theorem pays {l : Launch} {R : Room} {p : Program} {e : Env} {below : List Frame} {s : State} {sargs : Array Value} {len W : Nat} (a : Addr) (D : Cell) (fV fC : Field) (b : Addr) (A : Cell) (z : Int32) (htab : tab.before sargs s = true) (hfr : 4 ≤ R.frames) (hlo : W + 65 ≤ R.locals) :
    Back l R p e below s sargs yN len W (fun A₁ a₁ => A₁.cells + 1 ≤ R.cells ∧ A₁.slots + A.slots.size ≤ R.slots ∧ P a D fV fC b A z a₁ A₁.U) (fun A₁ _ v₁ B₁ => E a D fV fC A v₁ A₁.U B₁.U ∧ B₁.locs = A₁.locs ++ [⟨a, fC.slot⟩, ⟨a, fV.slot⟩] ∧ B₁.cells = A₁.cells + 1 ∧ B₁.slots = A₁.slots + A.slots.size) :=
  (law l a D fV fC b A z).pays htab hfr (by omega)
end New1
/-- the byte, read back as charAt reads it, is the char -/
theorem lo8_mask {x : Int32} (h0 : ¬ x < 0) (h1 : ¬ 255 < x) : lo8 x &&& 255 = x := by
  have t : ∀ k : Fin 256, lo8 (Int32.ofNat k.val) &&& 255 = Int32.ofNat k.val := by decide +kernel
  rw [Int32.lt_iff_toInt_lt] at h0 h1
  have e0 : (0 : Int32).toInt = 0 := rfl
  have e1 : (255 : Int32).toInt = 255 := rfl
  obtain ⟨k, hk⟩ : ∃ k : Nat, x.toInt = k := ⟨x.toInt.toNat, by omega⟩
  have hx : x = Int32.ofNat k := Int32.toInt_inj.mp (by rw [hk, Int32.toInt_ofNat_small (by omega)])
  rw [hx]
  exact t ⟨k, by omega⟩
end StrChars
namespace StrChars.Road
open Jvm Sem ClassFile Op Lib Jvm.Stand Jvm.Free Jvm.Free.XT
open Jvm.Lib.Cold (StaticIs)
abbrev ST : String := "java/lang/String"
/-- every table word that New1's law asks, flat -/
abbrev words : List Jvm.Cond := [.code New1.yN New1.yB 2 none, .initialized ST, .methodLink ST 27 New4.yN, .instanceMethod New4.yN,
  .code New4.yN New4.yB 6 none, .fieldLink ST 38 ST "COMPACT_STRINGS" "Z", .laysFinal ST ST "value" "[B", .fieldLink ST 9 ST "value" "[B", .laysFinal ST ST "coder" "B", .fieldLink ST 15 ST "coder" "B",
  .methodLink ST 1 Lib.objectInit, .instanceMethod Lib.objectInit, .code Lib.objectInit ⟨#[0xb1]⟩ 1 none, .methodLink ST 177 Cmp3.yN, .static Cmp3.yN, .methodLink ST 47 CodL.yN, .static CodL.yN,
  .code Cmp3.yN Cmp3.yB 6 (some (.array .byte)), .initialized U16, .arrayClass .byte, .methodLink U16 115 Cmp5.yN, .static Cmp5.yN, .code Cmp5.yN Cmp5.yB 7 (some .int), .code CodL.yN CodL.yB 2 (some .byte)]
theorem tab_of {a : Array Value} {s : State} (h : ∀ w ∈ words, w.before a s = true) : New1.tab.before a s = true := by
  have h5 : Cmp5.tab.before a s = true := unparts (wk h (.code Cmp5.yN Cmp5.yB 7 (some .int))) (wks h (.initialized Cmp5.yN.cls :: Cmp5.site))
  have hc : CodL.tab.before a s = true := unparts (wk h (.code CodL.yN CodL.yB 2 (some .byte))) (wks h (.initialized CodL.yN.cls :: CodL.site))
  have q5 : ∀ w ∈ Cmp5.tab :: words, w.before a s = true := fun w hw => (List.mem_cons.mp hw).elim (fun e => e ▸ h5) (h w)
  have h3 : Cmp3.tab.before a s = true := unparts (wk q5 (.code Cmp3.yN Cmp3.yB 6 (some (.array .byte)))) (wks q5 (.initialized Cmp3.yN.cls :: Cmp3.site))
  have q3 : ∀ w ∈ Cmp3.tab :: CodL.tab :: words, w.before a s = true := fun w hw => (List.mem_cons.mp hw).elim (fun e => e ▸ h3) fun hw => (List.mem_cons.mp hw).elim (fun e => e ▸ hc) (h w)
  have h4 : New4.tab.before a s = true := unparts (wk q3 (.code New4.yN New4.yB 6 none)) (wks q3 (.initialized New4.yN.cls :: New4.site))
  have q4 : ∀ w ∈ New4.tab :: words, w.before a s = true := fun w hw => (List.mem_cons.mp hw).elim (fun e => e ▸ h4) (h w)
  exact unparts (wk q4 (.code New1.yN New1.yB 2 none)) (wks q4 (.initialized New1.yN.cls :: New1.site))
/-- the words ride from the start Z to the walk's own state -/
theorem moved {Z s : State} {a0 args : Array Value} (hZ : Z.Warmed39 s.vm) (hw : ∀ d ∈ words, d.before a0 Z = true) : ∀ d ∈ words, d.before args s = true := fun d hd => by
  have q := hw d hd
  have t : ∀ d ∈ words, d = .arrayClass .byte ∨ (d.onTables && d.keepsFace) = true := by decide +kernel
  rcases t d hd with rfl | t
  · exact RoadKit.mvA hZ q
  · exact RoadKit.mv hZ q t
/-- WHAT COMES BACK, over the tables of the start Z: h the heap at the call, h' behind it -/
def Q (Z : State) (x : Addr) (A : Cell) (h : Heap) (v : Option Value) (h' : Heap) (L : List Loc) : Prop := v = none ∧ (∀ y ∈ L, y.base = x) ∧ RoadKit.Keep h h' [x] ∧ h'.size = h.size + 1 ∧ RoadKit.Exa Z h' x ST ∧ RoadKit.Fld Z h' x ST "value" "[B" (.ref h.size) ∧ RoadKit.Fld Z h' x ST "coder" "B" (.int 0) ∧
  (∃ V : Cell, RoadKit.Arr Z h' h.size V .byte ∧ V.vm = .none ∧ Z.vm.findClass "[B" = some V.cls ∧ V.slots.size = A.slots.size ∧ ∀ j, j < A.slots.size → V.slots[j]? = some (.int (lo8 (cv A j)))) ∧
  ∀ (O n d : String) (w : Value), RoadKit.Fld Z h x O n d w → RoadKit.slotOf Z O n d ≠ RoadKit.slotOf Z ST "value" "[B" → RoadKit.slotOf Z O n d ≠ RoadKit.slotOf Z ST "coder" "B" → RoadKit.Fld Z h' x O n d w
/-- **new String(chars) AT A CALL, IN THE ROAD'S FORM**: for specialBack behind newO: x the fresh String, b the char[] with the cell A -/
theorem back {p : Program} {l : Launch} {e : Env} {R : Room} {s : State} {args : Array Value} {below : List Frame} {len W : Nat} {Z : State} {a0 : Array Value} {h : Heap} (hZ : Z.Warmed39 s.vm) (hw : ∀ d ∈ words, d.before a0 Z = true) {kI : Nat} (wi : (Jvm.Cond.instantiable ST kI).before a0 Z = true)
    {x b : Addr} {A : Cell} {z : Int32} {v0 c0 : Value} (E : RoadKit.Exa Z h x ST) (V : RoadKit.Fld Z h x ST "value" "[B" v0) (C : RoadKit.Fld Z h x ST "coder" "B" c0) (K : RoadKit.Arr Z h b A .char) (hty : Typed .char A) (S : RoadKit.Sta Z h ST "COMPACT_STRINGS" "Z" (.int z)) (hz : ¬ z = 0)
    (l0 : 0 < A.slots.size) (l2 : A.slots.size ≤ 536870912) (hp : ∀ i, i < A.slots.size → ¬ 255 < cv A i) (hfr : 4 ≤ R.frames) (hlo : W + 65 ≤ R.locals) :
    Back l R p e below s args New1.yN len W (fun P a => a = #[.ref x, .ref b] ∧ P.U.heap = h ∧ P.cells + 1 ≤ R.cells ∧ P.slots + A.slots.size ≤ R.slots)
      (fun P _ v B => ∃ L, Q Z x A h v B.U.heap L ∧ B.locs = P.locs ++ L ∧ B.cells = P.cells + 1 ∧ B.slots = P.slots + A.slots.size) := by
  intro m meth c P g ig mk a X hg hsize hdg hW hn hp'
  obtain ⟨rfl, rfl, r1, r2⟩ := hp'
  have al : Z.vm.Alike P.U.vm := hZ.alike.trans X.warmed.alike
  obtain ⟨D, cfV, kV, iV, fV, hD, gV, stV, knV, obV, asV, slV⟩ := id V
  obtain ⟨D', cfC, kC, iC, fC, hD', gC, stC, -, -, asC, slC⟩ := id C
  cases hD.symm.trans hD'
  obtain ⟨D2, kD, e1, e2, e3, e4, e5⟩ := id E
  cases hD.symm.trans e1
  obtain ⟨c2, k2, i1, i2, i3, -⟩ := Cond.instantiable_spec wi
  cases e2.symm.trans i1
  cases e3.symm.trans i2
  obtain ⟨kU, u1, u2⟩ := al.2.2 _ _ e3
  have hB : Blank ST x D P.U := ⟨hD, ⟨knV, fun q hq => by rw [hq] at obV; cases obV⟩, by rw [al.findClass]; exact e2, kU, u1, by rw [u2]; exact i3, by rw [u2]; exact e5 i3⟩
  have F1 : Found ST "value" "[B" fV P.U := ⟨SBG.found_only al ⟨cfV, kV, iV, gV⟩, stV⟩
  have F2 : Found ST "coder" "B" fC P.U := ⟨SBG.found_only al ⟨cfC, kC, iC, gC⟩, stC⟩
  have hA : Ch b A P.U := ⟨⟨K.1, State.isArrayOf_alike al K.2.1, K.2.2, by omega⟩, hty⟩
  have hS : StaticIs P.U ST "COMPACT_STRINGS" "Z" (.int z) := by
    obtain ⟨cfS, iS, kS, fS, st, cS, t1, t2, t3, t4, t5, t6, t7⟩ := S
    exact StaticIs.there (s := { Z with heap := P.U.heap }) ⟨cfS, iS, kS, fS, st, cS, t1, t2, t3, t4, t5, (fun q => by rw [q] at t6; cases t6), t7⟩ al rfl
  obtain ⟨v, B, X', ⟨⟨hv, E', V', q1, q2, q3, q4, q5, q6, q7, q8, q9, q10, q11⟩, hl, hc, hs⟩, st⟩ := New1.pays x D fV fC b A z (tab_of (moved hZ hw)) hfr hlo m meth c P g ig mk _ X hg hsize hdg hW hn ⟨r1, r2, rfl, hB, F1, F2, hA, hS, hz, l0, l2, hp⟩
  have al' : Z.vm.Alike B.U.vm := hZ.alike.trans X'.warmed.alike
  have hsz : E'.slots.size = D.slots.size := by
    obtain ⟨-, -, -, kB, w1, w2, w3⟩ := q1
    obtain ⟨kB', y1, y2⟩ := al'.2.2 _ _ e3
    rw [q2.2.1] at w1
    cases w1.symm.trans y1
    rw [w3, e5 i3, y2]
  refine ⟨v, B, X', ⟨_, ⟨hv, ?_, ⟨by omega, fun y cy hy hn' => q10 y cy (by simpa using hn') hy, fun y cy hy => ?_⟩, q11, ⟨E', _, q1.1, by rw [q2.2.1]; exact e2, by rw [q2.2.1]; exact e3, by rw [q2.1]; exact obV, fun _ => by rw [hsz]; exact e5 i3⟩,
    ⟨E', cfV, kV, iV, fV, q1.1, gV, stV, by rw [q2.1]; exact knV, by rw [q2.1]; exact obV, by rw [q2.2.1]; exact asV, q3⟩, ⟨E', cfC, kC, iC, fC, q1.1, gC, stC, by rw [q2.1]; exact knV, by rw [q2.1]; exact obV, by rw [q2.2.1]; exact asC, q4⟩,
    ⟨V', ⟨q5.1, State.isArrayOf_alike al'.symm q5.2.1, q5.2.2.1⟩, q6, by rw [← al'.findClass]; exact q7, q8, fun j hj => by have := q9 j hj; rwa [Nat.zero_add] at this⟩, fun O n d w F n1 n2 => ?_⟩, hl, hc, hs⟩, st⟩
  · intro y hy
    simp only [List.mem_cons, List.not_mem_nil, or_false] at hy
    rcases hy with rfl | rfl <;> rfl
  · by_cases q : y = x
    · subst q
      cases hD.symm.trans hy
      exact ⟨E', q1.1, q2.2.1, q2.1, hsz⟩
    · exact ⟨cy, q10 y cy q hy, rfl, rfl, rfl⟩
  · obtain ⟨D3, cf, k, i, f, g1, g2, g3, g4, g5, g6, g7⟩ := F
    cases hD.symm.trans g1
    simp only [RoadKit.slotOf, g2, gV, gC, Option.map_some, Option.getD_some] at n1 n2
    exact ⟨E', cf, k, i, f, q1.1, g2, g3, by rw [q2.1]; exact g4, by rw [q2.1]; exact g5, by rw [q2.2.1]; exact g6, by rw [q2.2.2 f.slot (by simp [n1, n2])]; exact g7⟩
end StrChars.Road
namespace StrChars.Road
open Jvm Sem ClassFile Op Lib Jvm.Stand Jvm.Free Jvm.Free.XT
/-- WHAT COMES BACK, the byte[] as a list of values -/
def QA (Z : State) (x : Addr) (zn : Int32) (cs : List Int32) (h : Heap) (v : Option Value) (h' : Heap) (L : List Loc) : Prop := v = none ∧ (∀ y ∈ L, y.base = x) ∧ RoadKit.Keep h h' [x] ∧ h'.size = h.size + 1 ∧ RoadKit.Exa Z h' x ST ∧ RoadKit.Fld Z h' x ST "value" "[B" (.ref h.size) ∧ RoadKit.Fld Z h' x ST "coder" "B" (.int 0) ∧
  (∃ kb, Z.vm.findClass "[B" = some kb ∧ RoadKit.Arv Z h' h.size kb .byte zn (cs.map fun c => .int (lo8 c)) (.int 0)) ∧
  ∀ (O n d : String) (w : Value), RoadKit.Fld Z h x O n d w → RoadKit.slotOf Z O n d ≠ RoadKit.slotOf Z ST "value" "[B" → RoadKit.slotOf Z O n d ≠ RoadKit.slotOf Z ST "coder" "B" → RoadKit.Fld Z h' x O n d w
/-- **new String(chars) AT A CALL, THE ARRAYS AS LISTS**: the char[] at b holds cs, not empty, no char above 255 -/
theorem backArv {p : Program} {l : Launch} {e : Env} {R : Room} {s : State} {args : Array Value} {below : List Frame} {len W : Nat} {Z : State} {a0 : Array Value} {h : Heap} (hZ : Z.Warmed39 s.vm) (hw : ∀ d ∈ words, d.before a0 Z = true) {kI : Nat} (wi : (Jvm.Cond.instantiable ST kI).before a0 Z = true)
    {x b : Addr} {k : ClassId} {zn z : Int32} {cs : List Int32} {dv v0 c0 : Value} (E : RoadKit.Exa Z h x ST) (V : RoadKit.Fld Z h x ST "value" "[B" v0) (C : RoadKit.Fld Z h x ST "coder" "B" c0) (K : RoadKit.Arv Z h b k .char zn (cs.map Value.int) dv) (S : RoadKit.Sta Z h ST "COMPACT_STRINGS" "Z" (.int z)) (hz : ¬ z = 0)
    (hlen : zn.toNatClampNeg = cs.length) (h0 : 0 < cs.length) (hbig : cs.length ≤ 536870912) (hall : ∀ c ∈ cs, ¬ 255 < c) (hfr : 4 ≤ R.frames) (hlo : W + 65 ≤ R.locals) :
    Back l R p e below s args New1.yN len W (fun P a => a = #[.ref x, .ref b] ∧ P.U.heap = h ∧ P.cells + 1 ≤ R.cells ∧ P.slots + cs.length ≤ R.slots)
      (fun P _ v B => ∃ L, QA Z x zn cs h v B.U.heap L ∧ B.locs = P.locs ++ L ∧ B.cells = P.cells + 1 ∧ B.slots = P.slots + cs.length) := by
  obtain ⟨A, K1, K2, K3, K4, K5, K6⟩ := K
  have e : A.slots.size = cs.length := K3.trans hlen
  have hat : ∀ (i : Nat) (hi : i < cs.length), A.slots[i]? = some (.int cs[i]) := fun i hi => by rw [K5 i (by omega)]; simp [List.getD_eq_getElem?_getD, hi]
  have hcv : ∀ (i : Nat) (hi : i < cs.length), cv A i = cs[i] := fun i hi => by unfold cv; rw [hat i hi]
  have hty : Typed .char A := fun i v hv => by
    have hi : i < A.slots.size := (Array.getElem?_eq_some_iff.mp hv).1
    have q := K5 i hi
    rw [hv] at q
    rw [Option.some.inj q]
    exact K6 i hi
  refine Back.mono (back hZ hw wi E V C K1 hty S hz (by omega) (by omega) (fun i hi => by rw [hcv i (by omega)]; exact hall _ (List.getElem_mem _)) hfr hlo) (fun P a hp => ⟨hp.1, hp.2.1, hp.2.2.1, by rw [e]; exact hp.2.2.2⟩) (fun P a v B hp hq => ?_)
  obtain ⟨L, ⟨q1, q2, q3, q4, q5, q6, q7, ⟨V', v1, v2, v3, v4, v5⟩, q9⟩, hl, hc, hs⟩ := hq
  refine ⟨L, ⟨q1, q2, q3, q4, q5, q6, q7, ⟨V'.cls, v3, V', v1, rfl, by rw [v4, e, hlen], K4, fun i hi => ?_, fun i hi => ?_⟩, q9⟩, hl, hc, by rw [hs, e]⟩
  · have hi' : i < cs.length := by omega
    rw [v5 i (by omega), hcv i hi']; simp [List.getD_eq_getElem?_getD, hi']
  · have hi' : i < cs.length := by omega
    simp only [List.getD_eq_getElem?_getD, List.getElem?_map, List.getElem?_eq_getElem hi', Option.map_some, Option.getD_some]
    exact fits_lo8 _
end StrChars.Road
namespace StrChars.Road
open Jvm Sem ClassFile Op Lib Jvm.Stand Jvm.Free Jvm.Free.XT
/-- WHAT COMES BACK, in the writer's own shape -/
def QV (Z : State) (x : Addr) (N : Int32) (bs : List Int32) (h : Heap) (n0 : Nat) (v : Option Value) (h' : Heap) (L : List Loc) : Prop := v = none ∧ RoadKit.Fr n0 L ∧ RoadKit.Keep h h' [x] ∧ RoadKit.Exa Z h' x ST ∧ RoadKit.Fld Z h' x ST "coder" "B" (.int 0) ∧
  ∃ (t : Addr) (kb : ClassId), n0 ≤ t ∧ h.size ≤ t ∧ ¬ t = x ∧ RoadKit.Fld Z h' x ST "value" "[B" (.ref t) ∧ RoadKit.Arv Z h' t kb .byte N (bs.map Value.int) (.int 0)
/-- **new String(chars) AT A CALL, FOR THE WRITER**: a char[] of n known ints, each 0 to 255 -/
theorem backV {p : Program} {l : Launch} {e : Env} {R : Room} {s : State} {args : Array Value} {below : List Frame} {len W : Nat} {Z : State} {a0 : Array Value} {h : Heap} (hZ : Z.Warmed39 s.vm) (hw : ∀ d ∈ words, d.before a0 Z = true) {kI : Nat} (wi : (Jvm.Cond.instantiable ST kI).before a0 Z = true)
    {x b : Addr} {kC : ClassId} {cs bs : List Int32} {d v0 c0 : Value} {z N : Int32} {n n0 : Nat} (hx0 : n0 ≤ x) (hh0 : n0 ≤ h.size) (E : RoadKit.Exa Z h x ST) (V : RoadKit.Fld Z h x ST "value" "[B" v0) (C : RoadKit.Fld Z h x ST "coder" "B" c0) (K : RoadKit.Arv Z h b kC .char N (cs.map Value.int) d) (S : RoadKit.Sta Z h ST "COMPACT_STRINGS" "Z" (.int z)) (hz : ¬ z = 0)
    (hn : cs.length = n) (hN : N = Int32.ofNat n) (l0 : 0 < n) (l2 : n ≤ 4000) (hp : ∀ c ∈ cs, ¬ c < 0 ∧ ¬ (255 : Int32) < c) (hb : bs = cs.map (fun c => c.toInt8.toInt32)) (hfr : 4 ≤ R.frames) (hlo : W + 65 ≤ R.locals) :
    Back l R p e below s args (⟨"java/lang/String", "<init>", "([C)V"⟩ : MethodName) len W (fun P a => a = #[.ref x, .ref b] ∧ P.U.heap = h ∧ P.cells + 1 ≤ R.cells ∧ P.slots + n ≤ R.slots)
      (fun P _ v B => ∃ L, QV Z x N bs h n0 v B.U.heap L ∧ B.locs = P.locs ++ L ∧ B.cells = P.cells + 1 ∧ B.slots = P.slots + n) := by
  subst hn hN hb
  refine Back.mono (backArv hZ hw wi E V C K S hz (n32 (by omega)) l0 (by omega) (fun c hc => (hp c hc).2) hfr hlo) (fun P a hp => hp) (fun P a v B hp hq => ?_)
  obtain ⟨L, ⟨q1, q2, q3, q4, q5, q6, q7, ⟨kb, v1, v2⟩, q9⟩, hl, hc, hs⟩ := hq
  exact ⟨L, ⟨q1, fun y hy => by rw [q2 y hy]; exact hx0, q3, q5, q7, h.size, kb, hh0, Nat.le_refl _, Nat.ne_of_gt E.lt, q6, by rw [List.map_map]; exact v2⟩, hl, hc, hs⟩
end StrChars.Road
namespace StrChars
open Jvm Sem ClassFile Op Lib Jvm.Stand Jvm.Free.XT Jvm.Free.ALB Jvm.Free.JM Jvm.Free
open Jvm.Lib.Cold (StaticIs)
def hi8 (x : Int32) : Int32 := lo8 (x >>> ((8 : Int32) &&& 31))
/-- what StringUTF16.getChar makes of two bytes -/
def pairCh (u v : Int32) : Int32 := (((u &&& 255) <<< ((0 : Int32) &&& 31)) ||| ((v &&& 255) <<< ((8 : Int32) &&& 31))).toUInt32.toUInt16.toUInt32.toInt32
theorem shr0 (c : Int32) : c >>> ((0 : Int32) &&& 31) = c := by
  have e : ((0 : Int32) &&& 31) = 0 := by decide
  rw [e]
  apply Int32.toBitVec_inj.mp
  rw [Int32.toBitVec_shiftRight]
  have e1 : ((0 : Int32).toBitVec.smod 32) = 0#32 := by decide
  rw [e1, BitVec.sshiftRight_eq']
  exact BitVec.sshiftRight_zero
theorem lo8_and (x : Int32) : (lo8 x &&& 255).toBitVec.toNat = x.toBitVec.toNat % 256 := by
  have h : (lo8 x).toBitVec = (x.toBitVec.signExtend 8).signExtend 32 := by rw [lo8, Int8.toBitVec_toInt32, Int32.toBitVec_toInt8]
  rw [Int32.toBitVec_and, BitVec.toNat_and, h]
  have e : ((x.toBitVec.signExtend 8).signExtend 32).toNat % 256 = x.toBitVec.toNat % 256 := by
    rw [BitVec.toNat_signExtend]
    have hlt := x.toBitVec.isLt
    simp only [BitVec.toNat_setWidth, BitVec.toNat_signExtend]
    split <;> split <;> omega
  rw [← e]
  exact Nat.and_two_pow_sub_one_eq_mod _ 8
theorem pair_says {c : Int32} (h0 : ¬ c < 0) (h1 : ¬ 65535 < c) : pairCh (lo8 c) (hi8 c) = c := by
  rw [Int32.lt_iff_toInt_lt] at h0 h1
  have e0 : (0 : Int32).toInt = 0 := rfl
  have e1 : (65535 : Int32).toInt = 65535 := rfl
  have hc : c.toInt = c.toBitVec.toNat := by
    have := c.toBitVec.isLt
    have e : c.toInt = c.toBitVec.toInt := rfl
    rw [e] at h0 h1
    rw [e]
    rw [BitVec.toInt_eq_toNat_cond] at h0 h1 ⊢
    split at h0 <;> split <;> omega
  have hn : c.toBitVec.toNat < 65536 := by omega
  have a1 := lo8_and c
  have a2 : (hi8 c &&& 255).toBitVec.toNat = c.toBitVec.toNat / 256 := by
    rw [hi8, lo8_and]
    have e : ((8 : Int32) &&& 31) = 8 := by decide
    rw [e, Int32.toBitVec_shiftRight]
    have e2 : ((8 : Int32).toBitVec.smod 32) = 8#32 := by decide
    rw [e2, BitVec.sshiftRight_eq', BitVec.toNat_sshiftRight_of_msb_false (by rw [BitVec.msb_eq_false_iff_two_mul_lt]; omega)]
    show c.toBitVec.toNat >>> 8 % 256 = _
    rw [Nat.shiftRight_eq_div_pow]
    omega
  unfold pairCh
  apply Int32.toBitVec_inj.mp
  apply BitVec.eq_of_toNat_eq
  have f0 : ((0 : Int32) &&& 31) = 0 := by decide
  have f8 : ((8 : Int32) &&& 31) = 8 := by decide
  rw [f0, f8]
  have g : (((lo8 c &&& 255) <<< (0 : Int32)) ||| ((hi8 c &&& 255) <<< (8 : Int32))).toBitVec.toNat = c.toBitVec.toNat := by
    rw [Int32.toBitVec_or, Int32.toBitVec_shiftLeft, Int32.toBitVec_shiftLeft]
    have s0 : ((0 : Int32).toBitVec.smod 32) = 0#32 := by decide
    have s8 : ((8 : Int32).toBitVec.smod 32) = 8#32 := by decide
    rw [s0, s8, BitVec.toNat_or]
    simp only [BitVec.shiftLeft_eq', BitVec.toNat_shiftLeft, a1, a2]
    show (c.toBitVec.toNat % 256) <<< 0 % 2 ^ 32 ||| (c.toBitVec.toNat / 256) <<< 8 % 2 ^ 32 = _
    rw [Nat.shiftLeft_zero, Nat.mod_eq_of_lt (show c.toBitVec.toNat % 256 < 2 ^ 32 by omega), Nat.mod_eq_of_lt (show (c.toBitVec.toNat / 256) <<< 8 < 2 ^ 32 by rw [Nat.shiftLeft_eq]; omega), Nat.or_comm, ← Nat.shiftLeft_add_eq_or_of_lt (by omega), Nat.shiftLeft_eq]
    omega
  show BitVec.toNat (((((lo8 c &&& 255) <<< (0 : Int32)) ||| ((hi8 c &&& 255) <<< (8 : Int32))).toBitVec.setWidth 16).setWidth 32) = _
  rw [BitVec.toNat_setWidth, BitVec.toNat_setWidth, g]
  omega
end StrChars
namespace StrChars
open Jvm Sem ClassFile Op Lib Jvm.Stand Jvm.Free.XT Jvm.Free.ALB Jvm.Free.JM Jvm.Free
open Jvm.Lib.Cold (StaticIs)
theorem shr1 {n : Nat} (h : 2 * n < 2 ^ 31) : Int32.ofNat (2 * n) >>> ((1 : Int32) &&& 31) = Int32.ofNat n := by
  have e : ((1 : Int32) &&& 31) = 1 := by decide
  rw [e]
  apply Int32.toBitVec_inj.mp
  rw [Int32.toBitVec_shiftRight]
  have e1 : ((1 : Int32).toBitVec.smod 32) = 1#32 := by decide
  have hm : (BitVec.ofNat 32 (2 * n)).toNat = 2 * n := by rw [BitVec.toNat_ofNat, Nat.mod_eq_of_lt (by omega)]
  rw [e1, BitVec.sshiftRight_eq']
  apply BitVec.eq_of_toNat_eq
  show ((BitVec.ofNat 32 (2 * n)).sshiftRight 1).toNat = (BitVec.ofNat 32 n).toNat
  rw [BitVec.toNat_sshiftRight_of_msb_false (by rw [BitVec.msb_eq_false_iff_two_mul_lt, hm]; omega), hm, BitVec.toNat_ofNat, Nat.shiftRight_eq_div_pow]
  omega
/-- the array's cell V codes the n chars f 0 .. f (n - 1) by the coder cd, as the JDK does: coder 1 just where some char is above 255 -/
def Cod (cd : Int32) (n : Nat) (f : Nat → Int32) (V : Cell) : Prop := (cd = 0 ∧ V.slots.size = n ∧ ∀ j, j < n → V.slots[j]? = some (.int (lo8 (f j))) ∧ ¬ 255 < f j) ∨ (cd = 1 ∧ V.slots.size = 2 * n ∧ (∀ j, j < n → V.slots[2 * j]? = some (.int (lo8 (f j))) ∧ V.slots[2 * j + 1]? = some (.int (hi8 (f j)))) ∧ ∃ j, j < n ∧ 255 < f j)
theorem Cod.cd {cd : Int32} {n : Nat} {f : Nat → Int32} {V : Cell} (h : Cod cd n f V) : cd = 0 ∨ cd = 1 := h.imp (fun q => q.1) fun q => q.1
theorem Cod.len {cd : Int32} {n : Nat} {f : Nat → Int32} {V : Cell} (h : Cod cd n f V) (hs : V.slots.size < 2 ^ 31) : Int32.ofNat V.slots.size >>> (cd &&& 31) = Int32.ofNat n := by
  rcases h with ⟨rfl, h, -⟩ | ⟨rfl, h, -⟩
  · rw [shr0, h]
  · rw [h, shr1 (by omega)]
/-- **x is a String of the n chars f 0 .. f (n - 1)**, Latin-1 or UTF-16; its array at t has the cell V -/
def Txt (x t : Addr) (V : Cell) (cd : Int32) (n : Nat) (f : Nat → Int32) (U : State) : Prop := Exact "java/lang/String" x U ∧ Has x "java/lang/String" "value" "[B" (.ref t) U ∧ Has x "java/lang/String" "coder" "B" (.int cd) U ∧ XT.Arr .byte t V U ∧ Cod cd n f V ∧ ∀ j, j < n → ¬ f j < 0 ∧ ¬ 65535 < f j
theorem Txt.mv {x t : Addr} {V : Cell} {cd : Int32} {n : Nat} {f : Nat → Int32} {U U' : State} (h : Txt x t V cd n f U) (hal : U.vm.Alike U'.vm) (hh : U'.heap = U.heap) : Txt x t V cd n f U' := ⟨h.1.mv hal hh, h.2.1.mv hal hh, h.2.2.1.mv hal hh, h.2.2.2.1.mv hal hh, h.2.2.2.2⟩
namespace Cdr
def yN : MethodName := ⟨"java/lang/String", "coder", "()B"⟩
abbrev yB : ByteArray := jdk_42_method_152_code
theorem d0 : decode yB 0 = .ok (.getstatic 38, 3) := by decide +kernel
theorem d3 : decode yB 3 = .ok (.ifCond (.eq) 10, 3) := by decide +kernel
theorem d6 : decode yB 6 = .ok (.aload_n 0, 1) := by decide +kernel
theorem d7 : decode yB 7 = .ok (.getfield 15, 3) := by decide +kernel
theorem d10 : decode yB 10 = .ok (.goto 4, 3) := by decide +kernel
theorem d14 : decode yB 14 = .ok (.ireturn, 1) := by decide +kernel
def site : List Cond := [.fieldLink "java/lang/String" 38 "java/lang/String" "COMPACT_STRINGS" "Z", .fieldLink "java/lang/String" 15 "java/lang/String" "coder" "B"]
def tab : Cond := tabOf yN yB 1 (some .byte) site
def P (x : Addr) (cd z : Int32) (args : Array Value) (s : State) : Prop := args = #[.ref x] ∧ Has x "java/lang/String" "coder" "B" (.int cd) s ∧ (cd = 0 ∨ cd = 1) ∧ StaticIs s "java/lang/String" "COMPACT_STRINGS" "Z" (.int z) ∧ ¬ z = 0
def E (cd : Int32) (r : Option Value) (s u : State) : Prop := XT.PureE (some (.int cd)) r s u
theorem law (l : Launch) (x : Addr) (cd z : Int32) : Law l yN 1 0 0 0 yB 1 (some .byte) site (P x cd z) (E cd) [] 0 0 := by
  refine Law.of_walk (plainFor_of_name (by decide +kernel)) (by decide +kernel) (by decide +kernel) (by decide) (fun _ _ h => by rw [h.1]; rfl) (fun _ U U' hal hh h => ⟨h.1, h.2.1.mv hal hh, h.2.2.1, h.2.2.2.1.there hal hh, h.2.2.2.2⟩) (fun r U U' V V' h1 hal h2 h => XT.PureE.mv r U U' V V' h1 hal h2 h) ?_
  intro p e s m args below meth c s₁ X0 hexec hbytes hml hret hlk hnm hown hh0 W hP
  obtain ⟨rfl, hx, hc, s1, hz⟩ := hP
  have c1 : Steps p.tables e below (s₁.setTop (entryFrame m #[.ref x] 1)) (s₁.setTop (mkF m 0 #[.val (.ref x)] [])) := entry rfl
  obtain ⟨T2, X2, q2, st2⟩ := X0.sget hexec hown (wk W (.fieldLink "java/lang/String" 38 "java/lang/String" "COMPACT_STRINGS" "Z")) s1 (fun _ _ h => by rw [hh0]; exact h) (g := (mkF m 0 #[.val (.ref x)] [])) rfl (hb hbytes d0)
  have hh2 := q2.trans hh0
  have c3 : Steps p.tables e below (s₁.setTop (entryFrame m #[.ref x] 1)) (T2.setTop (mkF m 7 #[.val (.ref x)] [.ref x])) := (c1.trans (st2 _ (Steps.refl _))).trans (by
    refine XS.ifNo X2.here hexec rfl (hb hbytes d3) rfl (i0_eq_f hz) ?_
    refine XS.aloadN X2.here hexec rfl (hb hbytes d6) rfl rfl ?_
    exact Steps.refl _)
  obtain ⟨T4, X4, q4, st4⟩ := X2.hget hexec hown (wk W (.fieldLink "java/lang/String" 15 "java/lang/String" "coder" "B")) (hx.mv X2.warmed.alike hh2) (g := (mkF m 7 #[.val (.ref x)] [.ref x])) rfl (rest := []) rfl (hb hbytes d7)
  have c5 : Steps p.tables e below (s₁.setTop (entryFrame m #[.ref x] 1)) (T4.setTop (mkF m 14 #[.val (.ref x)] [.int cd])) := (c3.trans (st4 _ (Steps.refl _))).trans (by
    refine XS.goto X4.here hexec rfl (pc0 := 10) rfl (hb hbytes d10) (by decide) rfl ?_
    exact Steps.refl _)
  exact ⟨T4, some (.int cd), _, _, _, X4, rfl, rfl, rfl, (fun h => by cases h), ⟨rfl, q4.trans hh2⟩, fun fs hl => c5.trans (X4.ireturnOut hexec hret (by rcases hc with rfl | rfl <;> rfl) (Or.inr (Or.inr (Or.inl rfl))) (hb hbytes d14) hl)⟩
end Cdr
namespace Len
def yN : MethodName := ⟨"java/lang/String", "length", "()I"⟩
abbrev yB : ByteArray := jdk_42_method_54_code
theorem d0 : decode yB 0 = .ok (.aload_n 0, 1) := by decide +kernel
theorem d1 : decode yB 1 = .ok (.getfield 9, 3) := by decide +kernel
theorem d4 : decode yB 4 = .ok (.arraylength, 1) := by decide +kernel
theorem d5 : decode yB 5 = .ok (.aload_n 0, 1) := by decide +kernel
theorem d6 : decode yB 6 = .ok (.invokevirtual 335, 3) := by decide +kernel
theorem d9 : decode yB 9 = .ok (.ishr, 1) := by decide +kernel
theorem d10 : decode yB 10 = .ok (.ireturn, 1) := by decide +kernel
def site : List Cond := [.fieldLink "java/lang/String" 9 "java/lang/String" "value" "[B", Cdr.tab] ++ virtW "java/lang/String" 335 "java/lang/String" Cdr.yN Cdr.yN
def tab : Cond := tabOf yN yB 1 (some .int) site
def P (x t : Addr) (V : Cell) (cd : Int32) (n : Nat) (f : Nat → Int32) (z : Int32) (args : Array Value) (s : State) : Prop := args = #[.ref x] ∧ Txt x t V cd n f s ∧ StaticIs s "java/lang/String" "COMPACT_STRINGS" "Z" (.int z) ∧ ¬ z = 0
def E (n : Nat) (r : Option Value) (s u : State) : Prop := XT.PureE (some (.int (Int32.ofNat n))) r s u
/-- length() of a String of n chars, in either coding -/
theorem law (l : Launch) (x t : Addr) (V : Cell) (cd : Int32) (n : Nat) (f : Nat → Int32) (z : Int32) : Law l yN 1 0 1 13 yB 1 (some .int) site (P x t V cd n f z) (E n) [] 0 0 := by
  refine Law.of_walk (plainFor_of_name (by decide +kernel)) (by decide +kernel) (by decide +kernel) (by decide) (fun _ _ h => by rw [h.1]; rfl) (fun _ U U' hal hh h => ⟨h.1, h.2.1.mv hal hh, h.2.2.1.there hal hh, h.2.2.2⟩) (fun r U U' V V' h1 hal h2 h => XT.PureE.mv r U U' V V' h1 hal h2 h) ?_
  intro p e s m args below meth c s₁ X0 hexec hbytes hml hret hlk hnm hown hh0 W hP
  obtain ⟨rfl, hx, s1, hz⟩ := hP
  have v31 := hx.2.2.2.1.2.2.2
  have c1 : Steps p.tables e below (s₁.setTop (entryFrame m #[.ref x] 1)) (s₁.setTop (mkF m 1 #[.val (.ref x)] [.ref x])) := Steps.trans (entry rfl) (by
    show Steps p.tables e below (s₁.setTop (mkF m 0 #[.val (.ref x)] [])) _
    refine XS.aloadN X0.here hexec rfl (hb hbytes d0) rfl rfl ?_
    exact Steps.refl _)
  obtain ⟨T2, X2, q2, st2⟩ := X0.hget hexec hown (wk W (.fieldLink "java/lang/String" 9 "java/lang/String" "value" "[B")) (hx.mv X0.warmed.alike hh0).2.1 (g := (mkF m 1 #[.val (.ref x)] [.ref x])) rfl (rest := []) rfl (hb hbytes d1)
  have hh2 := q2.trans hh0
  have hx2 := hx.mv X2.warmed.alike hh2
  have c3 : Steps p.tables e below (s₁.setTop (entryFrame m #[.ref x] 1)) (T2.setTop (mkF m 6 #[.val (.ref x)] [.ref x, .int (Int32.ofNat V.slots.size)])) := (c1.trans (st2 _ (Steps.refl _))).trans (by
    refine X2.alen hexec hx2.2.2.2.1 rfl rfl (hb hbytes d4) ?_
    refine XS.aloadN X2.here hexec rfl (hb hbytes d5) rfl rfl ?_
    exact Steps.refl _)
  obtain ⟨v4, T4, X4, E4, g4⟩ := X2.callV hexec (Cdr.law l x cd z) hown (wks W (virtW "java/lang/String" 335 "java/lang/String" Cdr.yN Cdr.yN)) rfl (by decide) (wk W Cdr.tab) (W := 1) (Nat.le_of_ble_eq_true rfl) (Nat.le_of_ble_eq_true rfl) (Nat.le_refl _) (Nat.le_refl _) (hx2.1.fc X2.warmed.alike) hx2.1.is (g := (mkF m 6 #[.val (.ref x)] [.ref x, .int (Int32.ofNat V.slots.size)])) rfl (by rw [hml]; rfl) c3 (argsL := []) (rest := [.int (Int32.ofNat V.slots.size)]) rfl rfl (by show 2 * 0 + (1 + 0) ≤ _; decide) (hb hbytes d6) (⟨rfl, hx2.2.2.1, hx.2.2.2.2.1.cd, s1.there X2.warmed.alike hh2, hz⟩)
  obtain ⟨rfl, q4⟩ := E4
  have c5 : Steps p.tables e below (s₁.setTop (entryFrame m #[.ref x] 1)) (T4.setTop (mkF m 10 #[.val (.ref x)] [.int (Int32.ofNat V.slots.size >>> (cd &&& 31))])) := Steps.trans g4 (by
    refine ishr X4.here hexec rfl (hb hbytes d9) rfl ?_
    exact Steps.refl _)
  rw [hx.2.2.2.2.1.len v31] at c5
  exact ⟨T4, some (.int (Int32.ofNat n)), _, _, _, X4, rfl, rfl, rfl, (fun h => by cases h), ⟨rfl, q4.trans hh2⟩, fun fs hl => c5.trans (X4.ireturnOut hexec hret rfl (Or.inl rfl) (hb hbytes d10) hl)⟩
theorem pays {l : Launch} {R : Room} {p : Program} {e : Env} {below : List Frame} {s : State} {sargs : Array Value} {len W : Nat} (x t : Addr) (V : Cell) (cd : Int32) (n : Nat) (f : Nat → Int32) (z : Int32) (htab : tab.before sargs s = true) (hfr : 2 ≤ R.frames) (hlo : W + 25 ≤ R.locals) :
    Back l R p e below s sargs yN len W (fun A₁ a₁ => A₁.cells + 0 ≤ R.cells ∧ A₁.slots + 0 ≤ R.slots ∧ P x t V cd n f z a₁ A₁.U) (fun A₁ _ v₁ B₁ => E n v₁ A₁.U B₁.U ∧ B₁.locs = A₁.locs ++ [] ∧ B₁.cells = A₁.cells + 0 ∧ B₁.slots = A₁.slots + 0) :=
  (law l x t V cd n f z).pays htab hfr (by omega)
end Len
end StrChars
namespace StrChars.Road
open Jvm Sem ClassFile Op Lib Jvm.Stand Jvm.Free Jvm.Free.XT
open Jvm.Lib.Cold (StaticIs)
theorem consq {a : Array Value} {s : State} {c : Jvm.Cond} {L : List Jvm.Cond} (h0 : c.before a s = true) (h : ∀ w ∈ L, w.before a s = true) : ∀ w ∈ c :: L, w.before a s = true := fun w hw => (List.mem_cons.mp hw).elim (fun e => e ▸ h0) (h w)
/-- the words of String.length(), either coding -/
abbrev wordsLen : List Jvm.Cond := [.code Len.yN Len.yB 1 (some .int), .initialized ST, .fieldLink ST 9 ST "value" "[B", .fieldLink ST 38 ST "COMPACT_STRINGS" "Z", .fieldLink ST 15 ST "coder" "B", .code Cdr.yN Cdr.yB 1 (some .byte), .methodLink ST 335 Cdr.yN, .declares Cdr.yN, .selects ST Cdr.yN Cdr.yN, .instanceMethod Cdr.yN]
theorem tabLen_of {a : Array Value} {s : State} (h : ∀ w ∈ wordsLen, w.before a s = true) : Len.tab.before a s = true := by
  have hc : Cdr.tab.before a s = true := unparts (wk h (.code Cdr.yN Cdr.yB 1 (some .byte))) (wks h (.initialized Cdr.yN.cls :: Cdr.site))
  have q := consq hc h
  exact unparts (wk q (.code Len.yN Len.yB 1 (some .int))) (wks q (.initialized Len.yN.cls :: Len.site))
theorem movedLen {Z s : State} {a0 args : Array Value} (hZ : Z.Warmed39 s.vm) (hw : ∀ d ∈ wordsLen, d.before a0 Z = true) : ∀ d ∈ wordsLen, d.before args s = true := fun d hd => by
  have q := hw d hd
  have t : ∀ d ∈ wordsLen, d = .arrayClass .byte ∨ (d.onTables && d.keepsFace) = true := by decide +kernel
  rcases t d hd with rfl | t
  · exact RoadKit.mvA hZ q
  · exact RoadKit.mv hZ q t
/-- the bytes of the chars cs, low before high -/
def wideBytes : List Int32 → List Value
  | [] => []
  | c :: cs => .int (lo8 c) :: .int (hi8 c) :: wideBytes cs
theorem wide_lo (d : Value) : ∀ (cs : List Int32) (j : Nat), j < cs.length → (wideBytes cs).getD (2 * j) d = .int (lo8 (cs.getD j 0))
  | [], j, h => absurd h (Nat.not_lt_zero j)
  | c :: cs, 0, _ => rfl
  | c :: cs, j + 1, h => by
    have q := wide_lo d cs j (by simpa using h)
    rw [show 2 * (j + 1) = 2 * j + 1 + 1 from by omega]
    simpa [wideBytes] using q
theorem wide_hi (d : Value) : ∀ (cs : List Int32) (j : Nat), j < cs.length → (wideBytes cs).getD (2 * j + 1) d = .int (hi8 (cs.getD j 0))
  | [], j, h => absurd h (Nat.not_lt_zero j)
  | c :: cs, 0, _ => rfl
  | c :: cs, j + 1, h => by
    have q := wide_hi d cs j (by simpa using h)
    rw [show 2 * (j + 1) + 1 = 2 * j + 1 + 1 + 1 from by omega]
    simpa [wideBytes] using q
theorem low_at (d : Value) (cs : List Int32) (j : Nat) (h : j < cs.length) : (cs.map fun c => Value.int (lo8 c)).getD j d = .int (lo8 (cs.getD j 0)) := by
  simp [List.getD_eq_getElem?_getD, h]
/-- an array of N2 bytes vs codes the chars cs by the coder cd -/
def CodA (cs : List Int32) (cd N2 : Int32) (vs : List Value) : Prop := (cd = 0 ∧ N2 = Int32.ofNat cs.length ∧ vs = (cs.map fun c => Value.int (lo8 c)) ∧ ∀ c ∈ cs, ¬ 255 < c) ∨ (cd = 1 ∧ N2 = Int32.ofNat (2 * cs.length) ∧ vs = wideBytes cs ∧ ∃ c ∈ cs, 255 < c)
theorem CodA.cod {cs : List Int32} {cd N2 : Int32} {vs : List Value} {V : Cell} (h : CodA cs cd N2 vs) (hn : 2 * cs.length < 2 ^ 31) (hs : V.slots.size = N2.toNatClampNeg) (hv : RoadKit.Has V vs (.int 0)) : Cod cd cs.length (fun j => cs.getD j 0) V := by
  rcases h with ⟨rfl, rfl, rfl, h⟩ | ⟨rfl, rfl, rfl, c, hc, hw⟩
  · rw [n32 (by omega)] at hs
    exact Or.inl ⟨rfl, hs, fun j hj => ⟨by rw [hv j (by omega), low_at _ _ _ hj], by
      have e : cs.getD j 0 = cs[j] := by simp [List.getD_eq_getElem?_getD, hj]
      show ¬ 255 < cs.getD j 0
      rw [e]; exact h _ (List.getElem_mem _)⟩⟩
  · rw [n32 (by omega)] at hs
    obtain ⟨j, hj, rfl⟩ := List.getElem_of_mem hc
    exact Or.inr ⟨rfl, hs, fun j hj => ⟨by rw [hv _ (by omega), wide_lo _ _ _ hj], by rw [hv _ (by omega), wide_hi _ _ _ hj]⟩, j, hj, by
      have e : cs.getD j 0 = cs[j] := by simp [List.getD_eq_getElem?_getD, hj]
      show 255 < cs.getD j 0
      rw [e]; exact hw⟩
/-- an object of exactly java/lang/String, its two fields found: as the laws ask it -/
theorem strObj {Z U : State} {a0 : Array Value} {kI : Nat} (wi : (Jvm.Cond.instantiable ST kI).before a0 Z = true) (al : Z.vm.Alike U.vm) {x : Addr} {v0 c0 : Value} (E : RoadKit.Exa Z U.heap x ST) (V : RoadKit.Fld Z U.heap x ST "value" "[B" v0) (C : RoadKit.Fld Z U.heap x ST "coder" "B" c0) :
    ∃ (D : Cell) (fV fC : Field), Blank ST x D U ∧ Found ST "value" "[B" fV U ∧ Found ST "coder" "B" fC U ∧ D.slots[fV.slot]? = some v0 ∧ D.slots[fC.slot]? = some c0 ∧ RoadKit.slotOf Z ST "value" "[B" = fV.slot ∧ RoadKit.slotOf Z ST "coder" "B" = fC.slot := by
  obtain ⟨D, cfV, kV, iV, fV, hD, gV, stV, knV, obV, asV, slV⟩ := V
  obtain ⟨D', cfC, kC, iC, fC, hD', gC, stC, -, -, asC, slC⟩ := C
  cases hD.symm.trans hD'
  obtain ⟨D2, kD, e1, e2, e3, e4, e5⟩ := E
  cases hD.symm.trans e1
  obtain ⟨c2, k2, i1, i2, i3, -⟩ := Cond.instantiable_spec wi
  cases e2.symm.trans i1
  cases e3.symm.trans i2
  obtain ⟨kU, u1, u2⟩ := al.2.2 _ _ e3
  exact ⟨D, fV, fC, ⟨hD, ⟨knV, fun q hq => by rw [hq] at obV; cases obV⟩, by rw [al.findClass]; exact e2, kU, u1, by rw [u2]; exact i3, by rw [u2]; exact e5 i3⟩, ⟨SBG.found_only al ⟨cfV, kV, iV, gV⟩, stV⟩, ⟨SBG.found_only al ⟨cfC, kC, iC, gC⟩, stC⟩, slV, slC, by simp [RoadKit.slotOf, gV], by simp [RoadKit.slotOf, gC]⟩
theorem sta_is {Z U : State} (al : Z.vm.Alike U.vm) {C n d : String} {v : Value} (S : RoadKit.Sta Z U.heap C n d v) : StaticIs U C n d v := by
  obtain ⟨cfS, iS, kS, fS, st, cS, t1, t2, t3, t4, t5, t6, t7⟩ := S
  exact StaticIs.there (s := { Z with heap := U.heap }) ⟨cfS, iS, kS, fS, st, cS, t1, t2, t3, t4, t5, (fun q => by rw [q] at t6; cases t6), t7⟩ al rfl
/-- **length() OF SUCH A STRING** -/
theorem lenW {p : Program} {l : Launch} {e : Env} {R : Room} {s : State} {args : Array Value} {below : List Frame} {len W : Nat} {Z : State} {a0 : Array Value} {h : Heap} (hZ : Z.Warmed39 s.vm) (hw : ∀ d ∈ wordsLen, d.before a0 Z = true) {kI : Nat} (wi : (Jvm.Cond.instantiable ST kI).before a0 Z = true)
    {x t : Addr} {kb : ClassId} {cs : List Int32} {cd N2 z : Int32} {vs : List Value} (E : RoadKit.Exa Z h x ST) (V : RoadKit.Fld Z h x ST "value" "[B" (.ref t)) (C : RoadKit.Fld Z h x ST "coder" "B" (.int cd)) (K : RoadKit.Arv Z h t kb .byte N2 vs (.int 0)) (hc : CodA cs cd N2 vs) (hb : ∀ c ∈ cs, ¬ c < 0 ∧ ¬ (65535 : Int32) < c)
    (S : RoadKit.Sta Z h ST "COMPACT_STRINGS" "Z" (.int z)) (hz : ¬ z = 0) (l2 : cs.length ≤ 4000) (hfr : 2 ≤ R.frames) (hlo : W + 25 ≤ R.locals) :
    Back l R p e below s args (⟨"java/lang/String", "length", "()I"⟩ : MethodName) len W (fun P a => a = #[.ref x] ∧ P.U.heap = h ∧ P.cells + 0 ≤ R.cells ∧ P.slots + 0 ≤ R.slots)
      (fun P _ v B => ∃ L, (v = some (.int (Int32.ofNat cs.length)) ∧ L = [] ∧ B.U.heap = h) ∧ B.locs = P.locs ++ L ∧ B.cells = P.cells + 0 ∧ B.slots = P.slots + 0) := by
  obtain ⟨A, K1, K2, K3, K4, K5, K6⟩ := K
  have hcod := hc.cod (by omega) K3 K5
  intro m meth c P g ig mk a X hg hsize hdg hW hn hp'
  obtain ⟨rfl, rfl, r1, r2⟩ := hp'
  have al : Z.vm.Alike P.U.vm := hZ.alike.trans X.warmed.alike
  obtain ⟨D, fV, fC, hB, F1, F2, g1, g2, -, -⟩ := strObj wi al E V C
  have hx : Txt x t A cd cs.length (fun j => cs.getD j 0) P.U := ⟨⟨_, hB.2.2.1, D, hB.1, rfl, by cases q : D.vm <;> first | rfl | exact absurd q (hB.2.1.2 _)⟩, Has.of hB F1 g1, Has.of hB F2 g2, ⟨K1.1, State.isArrayOf_alike al K1.2.1, K1.2.2, by rcases hcod with ⟨-, q, -⟩ | ⟨-, q, -⟩ <;> omega⟩, hcod, fun j hj => by
    have e : cs.getD j 0 = cs[j] := by simp [List.getD_eq_getElem?_getD, hj]
    show ¬ cs.getD j 0 < 0 ∧ ¬ 65535 < cs.getD j 0
    rw [e]; exact hb _ (List.getElem_mem _)⟩
  obtain ⟨v, B, X', ⟨⟨hv, hh⟩, hl, hk, hs⟩, st⟩ := Len.pays x t A cd cs.length (fun j => cs.getD j 0) z (tabLen_of (movedLen hZ hw)) hfr hlo m meth c P g ig mk _ X hg hsize hdg hW hn ⟨r1, r2, rfl, hx, sta_is al S, hz⟩
  exact ⟨v, B, X', ⟨[], ⟨hv, rfl, hh⟩, hl, hk, hs⟩, st⟩
end StrChars.Road
namespace StrChars
open Jvm Sem ClassFile Op Lib Jvm.Stand Jvm.Free.XT Jvm.Free.ALB Jvm.Free.JM Jvm.Free
open Jvm.Lib.Cold (StaticIs)
/-- what place i of a byte[]'s cell holds -/
def yv (A : Cell) (i : Nat) : Int32 := match A.slots[i]? with | some (.int x) => x | _ => 0
theorem yv_get {a : Addr} {A : Cell} {U : State} (h : XT.Arr .byte a A U) (ht : Typed .byte A) {i : Nat} (hi : i < A.slots.size) : A.slots[i]? = some (.int (yv A i)) := by
  have e := Array.getElem?_eq_getElem hi
  have f := ht i _ e
  unfold yv; rw [e]
  generalize A.slots[i] = v at f
  cases v <;> simp [fits] at f ⊢
/-- the two arrays are equal, place for place -/
def EqC (A B : Cell) : Prop := A.slots.size = B.slots.size ∧ ∀ i, i < A.slots.size → yv A i = yv B i
/-- a boolean that says whether p -/
def Says01 (q : Prop) (r : Option Value) (s u : State) : Prop := ∃ v : Int32, r = some (.int v) ∧ u.heap = s.heap ∧ ((v = 1 ∧ q) ∨ (v = 0 ∧ ¬ q))
theorem Says01.mv {q : Prop} : ∀ r (U U' V V' : State), U'.heap = U.heap → V.vm.Alike V'.vm → V'.heap = V.heap → Says01 q r U V → Says01 q r U' V' :=
  fun r U U' V V' h1 _ h2 ⟨v, a, b, c⟩ => ⟨v, a, by rw [h1, h2]; exact b, c⟩
namespace LEq
def yN : MethodName := ⟨"java/lang/StringLatin1", "equals", "([B[B)Z"⟩
abbrev yB : ByteArray := jdk_43_method_13_code
theorem d0 : decode yB 0 = .ok (.aload_n 0, 1) := by decide +kernel
theorem d1 : decode yB 1 = .ok (.arraylength, 1) := by decide +kernel
theorem d2 : decode yB 2 = .ok (.aload_n 1, 1) := by decide +kernel
theorem d3 : decode yB 3 = .ok (.arraylength, 1) := by decide +kernel
theorem d4 : decode yB 4 = .ok (.if_icmp (.ne) 30, 3) := by decide +kernel
theorem d7 : decode yB 7 = .ok (.iconst 0, 1) := by decide +kernel
theorem d8 : decode yB 8 = .ok (.istore_n 2, 1) := by decide +kernel
theorem d9 : decode yB 9 = .ok (.iload_n 2, 1) := by decide +kernel
theorem d10 : decode yB 10 = .ok (.aload_n 0, 1) := by decide +kernel
theorem d11 : decode yB 11 = .ok (.arraylength, 1) := by decide +kernel
theorem d12 : decode yB 12 = .ok (.if_icmp (.ge) 20, 3) := by decide +kernel
theorem d15 : decode yB 15 = .ok (.aload_n 0, 1) := by decide +kernel
theorem d16 : decode yB 16 = .ok (.iload_n 2, 1) := by decide +kernel
theorem d17 : decode yB 17 = .ok (.baload, 1) := by decide +kernel
theorem d18 : decode yB 18 = .ok (.aload_n 1, 1) := by decide +kernel
theorem d19 : decode yB 19 = .ok (.iload_n 2, 1) := by decide +kernel
theorem d20 : decode yB 20 = .ok (.baload, 1) := by decide +kernel
theorem d21 : decode yB 21 = .ok (.if_icmp (.eq) 5, 3) := by decide +kernel
theorem d24 : decode yB 24 = .ok (.iconst 0, 1) := by decide +kernel
theorem d25 : decode yB 25 = .ok (.ireturn, 1) := by decide +kernel
theorem d26 : decode yB 26 = .ok (.iinc 2 1, 3) := by decide +kernel
theorem d29 : decode yB 29 = .ok (.goto (-20), 3) := by decide +kernel
theorem d32 : decode yB 32 = .ok (.iconst 1, 1) := by decide +kernel
theorem d33 : decode yB 33 = .ok (.ireturn, 1) := by decide +kernel
theorem d34 : decode yB 34 = .ok (.iconst 0, 1) := by decide +kernel
theorem d35 : decode yB 35 = .ok (.ireturn, 1) := by decide +kernel
def site : List Cond := []
def tab : Cond := tabOf yN yB 3 (some .boolean) site
def P (a : Addr) (A : Cell) (b : Addr) (B : Cell) (args : Array Value) (s : State) : Prop := args = #[.ref a, .ref b] ∧ XT.Arr .byte a A s ∧ Typed .byte A ∧ XT.Arr .byte b B s ∧ Typed .byte B
/-- whether two byte[] are equal, place for place -/
theorem law (l : Launch) (a : Addr) (A : Cell) (b : Addr) (B : Cell) : Law l yN 2 2 0 0 yB 3 (some .boolean) site (P a A b B) (Says01 (EqC A B)) [] 0 0 := by
  refine Law.of_walk (plainFor_of_name (by decide +kernel)) (by decide +kernel) (by decide +kernel) (by decide) (fun _ _ h => by rw [h.1]; rfl) (fun _ U U' hal hh h => ⟨h.1, h.2.1.mv hal hh, h.2.2.1, h.2.2.2.1.mv hal hh, h.2.2.2.2⟩) (fun r U U' V V' h1 hal h2 h => Says01.mv r U U' V V' h1 hal h2 h) ?_
  intro p e s m args below meth c s₁ X0 hexec hbytes hml hret hlk hnm hown hh0 W hP
  obtain ⟨rfl, hA, tA, hB, tB⟩ := hP
  have a31 := hA.2.2.2
  have b31 := hB.2.2.2
  have hA0 := hA.mv X0.warmed.alike hh0
  have hB0 := hB.mv X0.warmed.alike hh0
  have c1 : Steps p.tables e below (s₁.setTop (entryFrame m #[.ref a, .ref b] 3)) (s₁.setTop (mkF m 0 #[.val (.ref a), .val (.ref b), .unset] [])) := entry rfl
  have c2 : Steps p.tables e below (s₁.setTop (entryFrame m #[.ref a, .ref b] 3)) (s₁.setTop (mkF m 4 #[.val (.ref a), .val (.ref b), .unset] [.int (Int32.ofNat B.slots.size), .int (Int32.ofNat A.slots.size)])) := c1.trans (by
    refine XS.aloadN X0.here hexec rfl (hb hbytes d0) rfl rfl ?_
    refine X0.alen hexec hA0 rfl rfl (hb hbytes d1) ?_
    refine XS.aloadN X0.here hexec rfl (hb hbytes d2) rfl rfl ?_
    refine X0.alen hexec hB0 rfl rfl (hb hbytes d3) ?_
    exact Steps.refl _)
  by_cases hs : A.slots.size = B.slots.size
  · have c3 : Steps p.tables e below (s₁.setTop (entryFrame m #[.ref a, .ref b] 3)) (s₁.setTop (mkF m 9 #[.val (.ref a), .val (.ref b), .val (.int 0)] [])) := c2.trans (by
      refine XS.icmpNo X0.here hexec rfl (hb hbytes d4) rfl (ii_ne_f (by rw [hs])) ?_
      refine iconstV X0.here hexec rfl 0 (hb hbytes d7) (by decide) ?_
      refine XS.istoreN X0.here hexec rfl (hb hbytes d8) rfl rfl ?_
      exact Steps.refl _)
    have loop : ∀ (r i : Nat), i + r = A.slots.size → (∀ j, j < i → yv A j = yv B j) → Steps p.tables e below (s₁.setTop (entryFrame m #[.ref a, .ref b] 3)) (s₁.setTop (mkF m 9 #[.val (.ref a), .val (.ref b), .val (.int (Int32.ofNat i))] [])) → ∃ (pc : Nat) (Ls : Array Slot) (v : Int32), (pc = 25 ∨ pc = 33) ∧ ((v = 1 ∧ EqC A B) ∨ (v = 0 ∧ ¬ EqC A B)) ∧ Steps p.tables e below (s₁.setTop (entryFrame m #[.ref a, .ref b] 3)) (s₁.setTop (mkF m pc Ls [.int v])) := by
      intro r
      induction r with
      | zero =>
        intro i hi he cl
        exact ⟨33, _, 1, Or.inr rfl, Or.inl ⟨rfl, hs, fun j hj => he j (by omega)⟩, cl.trans (by
          refine XS.iloadN X0.here hexec rfl (hb hbytes d9) rfl ?_
          refine XS.aloadN X0.here hexec rfl (hb hbytes d10) rfl rfl ?_
          refine X0.alen hexec hA0 rfl rfl (hb hbytes d11) ?_
          refine XS.icmpYes X0.here hexec rfl (pc0 := 12) rfl (hb hbytes d12) rfl (ii_ge_t (nlt32 (by omega) (by omega))) (by decide) rfl ?_
          refine iconstV X0.here hexec rfl 1 (hb hbytes d32) (by decide) ?_
          exact Steps.refl _)⟩
      | succ r ih =>
        intro i hi he cl
        have c4 : Steps p.tables e below (s₁.setTop (entryFrame m #[.ref a, .ref b] 3)) (s₁.setTop (mkF m 21 #[.val (.ref a), .val (.ref b), .val (.int (Int32.ofNat i))] [.int (yv B i), .int (yv A i)])) := cl.trans (by
          refine XS.iloadN X0.here hexec rfl (hb hbytes d9) rfl ?_
          refine XS.aloadN X0.here hexec rfl (hb hbytes d10) rfl rfl ?_
          refine X0.alen hexec hA0 rfl rfl (hb hbytes d11) ?_
          refine XS.icmpNo X0.here hexec rfl (hb hbytes d12) rfl (ii_ge_f (lt32 (by omega) (by omega))) ?_
          refine XS.aloadN X0.here hexec rfl (hb hbytes d15) rfl rfl ?_
          refine XS.iloadN X0.here hexec rfl (hb hbytes d16) rfl ?_
          refine X0.aget hexec hA0 rfl (yv_get hA tA (i := i) (by omega)) rfl rfl (hb hbytes d17) ?_
          refine XS.aloadN X0.here hexec rfl (hb hbytes d18) rfl rfl ?_
          refine XS.iloadN X0.here hexec rfl (hb hbytes d19) rfl ?_
          refine X0.aget hexec hB0 rfl (yv_get hB tB (i := i) (by omega)) rfl rfl (hb hbytes d20) ?_
          exact Steps.refl _)
        by_cases hv : yv A i = yv B i
        · have c5 : Steps p.tables e below (s₁.setTop (entryFrame m #[.ref a, .ref b] 3)) (s₁.setTop (mkF m 9 #[.val (.ref a), .val (.ref b), .val (.int (Int32.ofNat i + 1))] [])) := c4.trans (by
            refine XS.icmpYes X0.here hexec rfl (pc0 := 21) rfl (hb hbytes d21) rfl (ii_eq_t hv) (by decide) rfl ?_
            refine iincV X0.here hexec rfl 1 (hb hbytes d26) (by decide) rfl rfl ?_
            refine XS.goto X0.here hexec rfl (pc0 := 29) rfl (hb hbytes d29) (by decide) rfl ?_
            exact Steps.refl _)
          rw [succ32] at c5
          exact ih (i + 1) (by omega) (fun j hj => by
            by_cases e : j = i
            · rw [e]; exact hv
            · exact he j (by omega)) c5
        · exact ⟨25, _, 0, Or.inl rfl, Or.inr ⟨rfl, fun q => hv (q.2 i (by omega))⟩, c4.trans (by
            refine XS.icmpNo X0.here hexec rfl (hb hbytes d21) rfl (ii_eq_f hv) ?_
            refine iconstV X0.here hexec rfl 0 (hb hbytes d24) (by decide) ?_
            exact Steps.refl _)⟩
    obtain ⟨pc, Ls, v, hpc, hv, cz⟩ := loop A.slots.size 0 (by omega) (fun j hj => absurd hj (Nat.not_lt_zero j)) c3
    have nv : narrow .boolean (.int v) = .int v := by rcases hv with ⟨rfl, -⟩ | ⟨rfl, -⟩ <;> rfl
    rcases hpc with rfl | rfl
    · exact ⟨s₁, some (.int v), _, _, _, X0, rfl, rfl, rfl, (fun h => by cases h), ⟨v, rfl, hh0, hv⟩, fun fs hl => cz.trans (X0.ireturnOut hexec hret nv (Or.inr (Or.inl rfl)) (hb hbytes d25) hl)⟩
    · exact ⟨s₁, some (.int v), _, _, _, X0, rfl, rfl, rfl, (fun h => by cases h), ⟨v, rfl, hh0, hv⟩, fun fs hl => cz.trans (X0.ireturnOut hexec hret nv (Or.inr (Or.inl rfl)) (hb hbytes d33) hl)⟩
  · have c3 : Steps p.tables e below (s₁.setTop (entryFrame m #[.ref a, .ref b] 3)) (s₁.setTop (mkF m 35 #[.val (.ref a), .val (.ref b), .unset] [.int 0])) := c2.trans (by
      refine XS.icmpYes X0.here hexec rfl (pc0 := 4) rfl (hb hbytes d4) rfl (ii_ne_t (ne32 a31 b31 hs)) (by decide) rfl ?_
      refine iconstV X0.here hexec rfl 0 (hb hbytes d34) (by decide) ?_
      exact Steps.refl _)
    exact ⟨s₁, some (.int 0), _, _, _, X0, rfl, rfl, rfl, (fun h => by cases h), ⟨0, rfl, hh0, Or.inr ⟨rfl, fun q => hs q.1⟩⟩, fun fs hl => c3.trans (X0.ireturnOut hexec hret rfl (Or.inr (Or.inl rfl)) (hb hbytes d35) hl)⟩
end LEq
theorem Cod.ty {cd : Int32} {n : Nat} {f : Nat → Int32} {V : Cell} (h : Cod cd n f V) : Typed .byte V := fun i v hv => by
  have hi : i < V.slots.size := (Array.getElem?_eq_some_iff.mp hv).1
  rcases h with ⟨-, k1, k2⟩ | ⟨-, k1, k2, -⟩
  · rw [(k2 i (by omega)).1] at hv; cases hv; exact fits_lo8 _
  · rcases Nat.mod_two_eq_zero_or_one i with e | e
    · obtain ⟨j, rfl⟩ : ∃ j, i = 2 * j := ⟨i / 2, by omega⟩
      rw [(k2 j (by omega)).1] at hv; cases hv; exact fits_lo8 _
    · obtain ⟨j, rfl⟩ : ∃ j, i = 2 * j + 1 := ⟨i / 2, by omega⟩
      rw [(k2 j (by omega)).2] at hv; cases hv; exact fits_lo8 _
/-- the same text -/
def SameT (n : Nat) (f : Nat → Int32) (k : Nat) (g : Nat → Int32) : Prop := n = k ∧ ∀ j, j < n → f j = g j
theorem lo8_inj {x y : Int32} (h0 : ¬ x < 0) (h1 : ¬ 255 < x) (k0 : ¬ y < 0) (k1 : ¬ 255 < y) (h : lo8 x = lo8 y) : x = y := by
  rw [← lo8_mask h0 h1, ← lo8_mask k0 k1, h]
/-- arrays coded by one coder are equal just where the texts are -/
theorem Cod.eqv {cd : Int32} {n k : Nat} {f g : Nat → Int32} {V V' : Cell} (h : Cod cd n f V) (h' : Cod cd k g V') (hf : ∀ j, j < n → ¬ f j < 0 ∧ ¬ 65535 < f j) (hg : ∀ j, j < k → ¬ g j < 0 ∧ ¬ 65535 < g j) : EqC V V' ↔ SameT n f k g := by
  have yvv : ∀ {W : Cell} {i : Nat} {x : Int32}, W.slots[i]? = some (.int x) → yv W i = x := fun q => by unfold yv; rw [q]
  rcases h with ⟨rfl, k1, k2⟩ | ⟨rfl, k1, k2, -⟩
  · rcases h' with ⟨-, m1, m2⟩ | ⟨e, -⟩
    · constructor
      · rintro ⟨e1, e2⟩
        refine ⟨by omega, fun j hj => ?_⟩
        have q := e2 j (by omega)
        rw [yvv (k2 j hj).1, yvv (m2 j (by omega)).1] at q
        exact lo8_inj (hf j hj).1 (k2 j hj).2 (hg j (by omega)).1 (m2 j (by omega)).2 q
      · rintro ⟨rfl, e2⟩
        refine ⟨by omega, fun j hj => ?_⟩
        rw [yvv (k2 j (by omega)).1, yvv (m2 j (by omega)).1, e2 j (by omega)]
    · exact absurd e (by decide)
  · rcases h' with ⟨e, -⟩ | ⟨-, m1, m2, -⟩
    · exact absurd e (by decide)
    · constructor
      · rintro ⟨e1, e2⟩
        refine ⟨by omega, fun j hj => ?_⟩
        have q1 := e2 (2 * j) (by omega)
        have q2 := e2 (2 * j + 1) (by omega)
        rw [yvv (k2 j hj).1, yvv (m2 j (by omega)).1] at q1
        rw [yvv (k2 j hj).2, yvv (m2 j (by omega)).2] at q2
        rw [← pair_says (hf j hj).1 (hf j hj).2, ← pair_says (hg j (by omega)).1 (hg j (by omega)).2, q1, q2]
      · rintro ⟨rfl, e2⟩
        refine ⟨by omega, fun i hi => ?_⟩
        rcases Nat.mod_two_eq_zero_or_one i with e | e
        · obtain ⟨j, rfl⟩ : ∃ j, i = 2 * j := ⟨i / 2, by omega⟩
          rw [yvv (k2 j (by omega)).1, yvv (m2 j (by omega)).1, e2 j (by omega)]
        · obtain ⟨j, rfl⟩ : ∃ j, i = 2 * j + 1 := ⟨i / 2, by omega⟩
          rw [yvv (k2 j (by omega)).2, yvv (m2 j (by omega)).2, e2 j (by omega)]
/-- two codings differ: so do the texts -/
theorem Cod.dif {cd cd' : Int32} {n k : Nat} {f g : Nat → Int32} {V V' : Cell} (h : Cod cd n f V) (h' : Cod cd' k g V') (hne : ¬ cd = cd') : ¬ SameT n f k g := by
  rintro ⟨rfl, e⟩
  rcases h with ⟨rfl, -, k2⟩ | ⟨rfl, -, -, j, hj, hw⟩
  · rcases h' with ⟨rfl, -⟩ | ⟨-, -, -, j, hj, hw⟩
    · exact hne rfl
    · exact (k2 j hj).2 (by rw [e j hj]; exact hw)
  · rcases h' with ⟨-, -, m2⟩ | ⟨rfl, -⟩
    · exact (m2 j hj).2 (by rw [← e j hj]; exact hw)
    · exact hne rfl
/-- an object of exactly C is an instance of C -/
theorem cinst {p : Program} {l : Launch} {e : Env} {R : Room} {s : State} {m : MethodId} {args : Array Value} {below : List Frame} {meth : Method} {c : Code} {T : State} {locs : List Loc} {cells slots : Nat} (X : Stand p l e R s m args below meth c T locs cells slots) (hexec : p.tables.exec = Jvm.exec) {own C : String} {index : Nat} (hown : s.vm.findClass own = some m.cls) (hlink : (Cond.classLink own index C).before args s = true) {a : Addr} (hE : Exact C a T)
    {g : JFrame} (hg : g.method = m) {rest : List Value} (hstack : g.stack = .ref a :: rest) (hdg : decode c.code g.pc = .ok (.instanceof index, 3)) :
    ∃ T', Stand p l e R s m args below meth c T' locs cells slots ∧ T'.heap = T.heap ∧ ∀ target, Steps p.tables e below (T'.setTop { g with pc := g.pc + 3, stack := .int 1 :: rest }) target → Steps p.tables e below (T.setTop g) target := by
  obtain ⟨cB, h1, D, h2, h3, h4⟩ := hE
  have h1' : s.vm.findClass C = some cB := by rw [← X.warmed.alike.findClass]; exact h1
  obtain ⟨vm', X', st⟩ := X.instanceofYes hexec hown hlink h2 h4 h1' (by rw [h3]; exact Jvm.Free.SB.assignable_self _ _) hg hstack hdg
  exact ⟨_, X', rfl, st⟩
theorem cself {p : Program} {l : Launch} {e : Env} {R : Room} {s : State} {m : MethodId} {args : Array Value} {below : List Frame} {meth : Method} {c : Code} {T : State} {locs : List Loc} {cells slots : Nat} (X : Stand p l e R s m args below meth c T locs cells slots) (hexec : p.tables.exec = Jvm.exec) {own C : String} {index : Nat} (hown : s.vm.findClass own = some m.cls) (hlink : (Cond.classLink own index C).before args s = true) {a : Addr} (hE : Exact C a T)
    {g : JFrame} (hg : g.method = m) {rest : List Value} (hstack : g.stack = .ref a :: rest) (hdg : decode c.code g.pc = .ok (.checkcast index, 3)) :
    ∃ T', Stand p l e R s m args below meth c T' locs cells slots ∧ T'.heap = T.heap ∧ ∀ target, Steps p.tables e below (T'.setTop { g with pc := g.pc + 3, stack := .ref a :: rest }) target → Steps p.tables e below (T.setTop g) target := by
  obtain ⟨cB, h1, D, h2, h3, h4⟩ := hE
  have h1' : s.vm.findClass C = some cB := by rw [← X.warmed.alike.findClass]; exact h1
  obtain ⟨vm', X', st⟩ := X.checkcastYes hexec hown hlink h2 h4 h1' (by rw [h3]; exact Jvm.Free.SB.assignable_self _ _) hg hstack hdg
  exact ⟨_, X', rfl, fun t h => st t (by rw [← hstack] at h; exact h)⟩
namespace SEq
def yN : MethodName := ⟨"java/lang/String", "equals", "(Ljava/lang/Object;)Z"⟩
abbrev yB : ByteArray := jdk_42_method_66_code
theorem d0 : decode yB 0 = .ok (.aload_n 0, 1) := by decide +kernel
theorem d1 : decode yB 1 = .ok (.aload_n 1, 1) := by decide +kernel
theorem d2 : decode yB 2 = .ok (.if_acmp (.ne) 5, 3) := by decide +kernel
theorem d5 : decode yB 5 = .ok (.iconst 1, 1) := by decide +kernel
theorem d6 : decode yB 6 = .ok (.ireturn, 1) := by decide +kernel
theorem d7 : decode yB 7 = .ok (.aload_n 1, 1) := by decide +kernel
theorem d8 : decode yB 8 = .ok (.instanceof 10, 3) := by decide +kernel
theorem d11 : decode yB 11 = .ok (.ifCond (.eq) 43, 3) := by decide +kernel
theorem d14 : decode yB 14 = .ok (.aload_n 1, 1) := by decide +kernel
theorem d15 : decode yB 15 = .ok (.checkcast 10, 3) := by decide +kernel
theorem d18 : decode yB 18 = .ok (.astore_n 2, 1) := by decide +kernel
theorem d19 : decode yB 19 = .ok (.getstatic 38, 3) := by decide +kernel
theorem d22 : decode yB 22 = .ok (.ifCond (.eq) 14, 3) := by decide +kernel
theorem d25 : decode yB 25 = .ok (.aload_n 0, 1) := by decide +kernel
theorem d26 : decode yB 26 = .ok (.getfield 15, 3) := by decide +kernel
theorem d29 : decode yB 29 = .ok (.aload_n 2, 1) := by decide +kernel
theorem d30 : decode yB 30 = .ok (.getfield 15, 3) := by decide +kernel
theorem d33 : decode yB 33 = .ok (.if_icmp (.ne) 21, 3) := by decide +kernel
theorem d36 : decode yB 36 = .ok (.aload_n 0, 1) := by decide +kernel
theorem d37 : decode yB 37 = .ok (.getfield 9, 3) := by decide +kernel
theorem d40 : decode yB 40 = .ok (.aload_n 2, 1) := by decide +kernel
theorem d41 : decode yB 41 = .ok (.getfield 9, 3) := by decide +kernel
theorem d44 : decode yB 44 = .ok (.invokestatic 541, 3) := by decide +kernel
theorem d47 : decode yB 47 = .ok (.ifCond (.eq) 7, 3) := by decide +kernel
theorem d50 : decode yB 50 = .ok (.iconst 1, 1) := by decide +kernel
theorem d51 : decode yB 51 = .ok (.goto 4, 3) := by decide +kernel
theorem d54 : decode yB 54 = .ok (.iconst 0, 1) := by decide +kernel
theorem d55 : decode yB 55 = .ok (.ireturn, 1) := by decide +kernel
def site : List Cond := [.classLink "java/lang/String" 10 "java/lang/String", .fieldLink "java/lang/String" 38 "java/lang/String" "COMPACT_STRINGS" "Z", .fieldLink "java/lang/String" 15 "java/lang/String" "coder" "B", .fieldLink "java/lang/String" 9 "java/lang/String" "value" "[B", LEq.tab] ++ staticW "java/lang/String" 541 LEq.yN
def tab : Cond := tabOf yN yB 3 (some .boolean) site
def P (x t : Addr) (V : Cell) (cd : Int32) (n : Nat) (f : Nat → Int32) (y t' : Addr) (V' : Cell) (cd' : Int32) (k : Nat) (g : Nat → Int32) (z : Int32) (args : Array Value) (s : State) : Prop := args = #[.ref x, .ref y] ∧ Txt x t V cd n f s ∧ Txt y t' V' cd' k g s ∧ StaticIs s "java/lang/String" "COMPACT_STRINGS" "Z" (.int z) ∧ ¬ z = 0
/-- equals(Object) of two Strings: whether the texts are the same -/
theorem law (l : Launch) (x t : Addr) (V : Cell) (cd : Int32) (n : Nat) (f : Nat → Int32) (y t' : Addr) (V' : Cell) (cd' : Int32) (k : Nat) (g : Nat → Int32) (z : Int32) : Law l yN 2 1 1 14 yB 3 (some .boolean) site (P x t V cd n f y t' V' cd' k g z) (Says01 (SameT n f k g)) [] 0 0 := by
  refine Law.of_walk (plainFor_of_name (by decide +kernel)) (by decide +kernel) (by decide +kernel) (by decide) (fun _ _ h => by rw [h.1]; rfl) (fun _ U U' hal hh h => ⟨h.1, h.2.1.mv hal hh, h.2.2.1.mv hal hh, h.2.2.2.1.there hal hh, h.2.2.2.2⟩) (fun r U U' V V' h1 hal h2 h => Says01.mv r U U' V V' h1 hal h2 h) ?_
  intro p e s m args below meth c s₁ X0 hexec hbytes hml hret hlk hnm hown hh0 W hP
  obtain ⟨rfl, hx, hy, s1, hz⟩ := hP
  have c1 : Steps p.tables e below (s₁.setTop (entryFrame m #[.ref x, .ref y] 3)) (s₁.setTop (mkF m 2 #[.val (.ref x), .val (.ref y), .unset] [.ref y, .ref x])) := Steps.trans (entry rfl) (by
    show Steps p.tables e below (s₁.setTop (mkF m 0 #[.val (.ref x), .val (.ref y), .unset] [])) _
    refine XS.aloadN X0.here hexec rfl (hb hbytes d0) rfl rfl ?_
    refine XS.aloadN X0.here hexec rfl (hb hbytes d1) rfl rfl ?_
    exact Steps.refl _)
  by_cases hxy : x = y
  · have c2 : Steps p.tables e below (s₁.setTop (entryFrame m #[.ref x, .ref y] 3)) (s₁.setTop (mkF m 6 #[.val (.ref x), .val (.ref y), .unset] [.int 1])) := c1.trans (by
      refine acmpNo X0.here hexec rfl (hb hbytes d2) rfl rfl rfl (by simp [acmp, hxy]) ?_
      refine iconstV X0.here hexec rfl 1 (hb hbytes d5) (by decide) ?_
      exact Steps.refl _)
    subst hxy
    have ec : cd = cd' := by
      obtain ⟨D, fd, a1, a2, a3⟩ := hx.2.2.1
      obtain ⟨D', fd', b1, b2, b3⟩ := hy.2.2.1
      cases a1.symm.trans b1
      obtain ⟨q1, q2, q3, q4⟩ := a2.1
      obtain ⟨r1, r2, r3, r4⟩ := b2.1
      cases q4.symm.trans r4
      cases a3.symm.trans b3; rfl
    have et : t = t' := by
      obtain ⟨D, fd, a1, a2, a3⟩ := hx.2.1
      obtain ⟨D', fd', b1, b2, b3⟩ := hy.2.1
      cases a1.symm.trans b1
      obtain ⟨q1, q2, q3, q4⟩ := a2.1
      obtain ⟨r1, r2, r3, r4⟩ := b2.1
      cases q4.symm.trans r4
      cases a3.symm.trans b3; rfl
    subst ec et
    have ev : V = V' := by cases hx.2.2.2.1.1.symm.trans hy.2.2.2.1.1; rfl
    subst ev
    have hs : SameT n f k g := (Cod.eqv hx.2.2.2.2.1 hy.2.2.2.2.1 hx.2.2.2.2.2 hy.2.2.2.2.2).mp ⟨rfl, fun _ _ => rfl⟩
    exact ⟨s₁, some (.int 1), _, _, _, X0, rfl, rfl, rfl, (fun h => by cases h), ⟨1, rfl, hh0, Or.inl ⟨rfl, hs⟩⟩, fun fs hl => c2.trans (X0.ireturnOut hexec hret rfl (Or.inr (Or.inl rfl)) (hb hbytes d6) hl)⟩
  · have c2 : Steps p.tables e below (s₁.setTop (entryFrame m #[.ref x, .ref y] 3)) (s₁.setTop (mkF m 8 #[.val (.ref x), .val (.ref y), .unset] [.ref y])) := c1.trans (by
      refine acmpYes X0.here hexec rfl (pc0 := 2) rfl (hb hbytes d2) rfl rfl rfl (by simp [acmp, hxy]) (by decide) rfl ?_
      refine XS.aloadN X0.here hexec rfl (hb hbytes d7) rfl rfl ?_
      exact Steps.refl _)
    obtain ⟨T3, X3, q3, st3⟩ := cinst X0 hexec hown (wk W (.classLink "java/lang/String" 10 "java/lang/String")) (hy.mv X0.warmed.alike hh0).1 (g := (mkF m 8 #[.val (.ref x), .val (.ref y), .unset] [.ref y])) rfl (rest := []) rfl (hb hbytes d8)
    have hh3 := q3.trans hh0
    have c4 : Steps p.tables e below (s₁.setTop (entryFrame m #[.ref x, .ref y] 3)) (T3.setTop (mkF m 15 #[.val (.ref x), .val (.ref y), .unset] [.ref y])) := (c2.trans (st3 _ (Steps.refl _))).trans (by
      refine XS.ifNo X3.here hexec rfl (hb hbytes d11) rfl (i0_eq_f (by decide)) ?_
      refine XS.aloadN X3.here hexec rfl (hb hbytes d14) rfl rfl ?_
      exact Steps.refl _)
    obtain ⟨T5, X5, q5, st5⟩ := cself X3 hexec hown (wk W (.classLink "java/lang/String" 10 "java/lang/String")) (hy.mv X3.warmed.alike hh3).1 (g := (mkF m 15 #[.val (.ref x), .val (.ref y), .unset] [.ref y])) rfl (rest := []) rfl (hb hbytes d15)
    have hh5 := q5.trans hh3
    have c6 : Steps p.tables e below (s₁.setTop (entryFrame m #[.ref x, .ref y] 3)) (T5.setTop (mkF m 19 #[.val (.ref x), .val (.ref y), .val (.ref y)] [])) := (c4.trans (st5 _ (Steps.refl _))).trans (by
      refine XS.astoreN X5.here hexec rfl (hb hbytes d18) rfl rfl rfl ?_
      exact Steps.refl _)
    obtain ⟨T7, X7, q7, st7⟩ := X5.sget hexec hown (wk W (.fieldLink "java/lang/String" 38 "java/lang/String" "COMPACT_STRINGS" "Z")) s1 (fun _ _ h => by rw [hh5]; exact h) (g := (mkF m 19 #[.val (.ref x), .val (.ref y), .val (.ref y)] [])) rfl (hb hbytes d19)
    have hh7 := q7.trans hh5
    have c8 : Steps p.tables e below (s₁.setTop (entryFrame m #[.ref x, .ref y] 3)) (T7.setTop (mkF m 26 #[.val (.ref x), .val (.ref y), .val (.ref y)] [.ref x])) := (c6.trans (st7 _ (Steps.refl _))).trans (by
      refine XS.ifNo X7.here hexec rfl (hb hbytes d22) rfl (i0_eq_f hz) ?_
      refine XS.aloadN X7.here hexec rfl (hb hbytes d25) rfl rfl ?_
      exact Steps.refl _)
    obtain ⟨T9, X9, q9, st9⟩ := X7.hget hexec hown (wk W (.fieldLink "java/lang/String" 15 "java/lang/String" "coder" "B")) (hx.mv X7.warmed.alike hh7).2.2.1 (g := (mkF m 26 #[.val (.ref x), .val (.ref y), .val (.ref y)] [.ref x])) rfl (rest := []) rfl (hb hbytes d26)
    have hh9 := q9.trans hh7
    have c10 : Steps p.tables e below (s₁.setTop (entryFrame m #[.ref x, .ref y] 3)) (T9.setTop (mkF m 30 #[.val (.ref x), .val (.ref y), .val (.ref y)] [.ref y, .int cd])) := (c8.trans (st9 _ (Steps.refl _))).trans (by
      refine XS.aloadN X9.here hexec rfl (hb hbytes d29) rfl rfl ?_
      exact Steps.refl _)
    obtain ⟨T11, X11, q11, st11⟩ := X9.hget hexec hown (wk W (.fieldLink "java/lang/String" 15 "java/lang/String" "coder" "B")) (hy.mv X9.warmed.alike hh9).2.2.1 (g := (mkF m 30 #[.val (.ref x), .val (.ref y), .val (.ref y)] [.ref y, .int cd])) rfl (rest := [.int cd]) rfl (hb hbytes d30)
    have hh11 := q11.trans hh9
    have c12 : Steps p.tables e below (s₁.setTop (entryFrame m #[.ref x, .ref y] 3)) (T11.setTop (mkF m 33 #[.val (.ref x), .val (.ref y), .val (.ref y)] [.int cd', .int cd])) := c10.trans (st11 _ (Steps.refl _))
    by_cases hcd : cd = cd'
    · subst hcd
      have c13 : Steps p.tables e below (s₁.setTop (entryFrame m #[.ref x, .ref y] 3)) (T11.setTop (mkF m 37 #[.val (.ref x), .val (.ref y), .val (.ref y)] [.ref x])) := c12.trans (by
        refine XS.icmpNo X11.here hexec rfl (hb hbytes d33) rfl (ii_ne_f rfl) ?_
        refine XS.aloadN X11.here hexec rfl (hb hbytes d36) rfl rfl ?_
        exact Steps.refl _)
      obtain ⟨T14, X14, q14, st14⟩ := X11.hget hexec hown (wk W (.fieldLink "java/lang/String" 9 "java/lang/String" "value" "[B")) (hx.mv X11.warmed.alike hh11).2.1 (g := (mkF m 37 #[.val (.ref x), .val (.ref y), .val (.ref y)] [.ref x])) rfl (rest := []) rfl (hb hbytes d37)
      have hh14 := q14.trans hh11
      have c15 : Steps p.tables e below (s₁.setTop (entryFrame m #[.ref x, .ref y] 3)) (T14.setTop (mkF m 41 #[.val (.ref x), .val (.ref y), .val (.ref y)] [.ref y, .ref t])) := (c13.trans (st14 _ (Steps.refl _))).trans (by
        refine XS.aloadN X14.here hexec rfl (hb hbytes d40) rfl rfl ?_
        exact Steps.refl _)
      obtain ⟨T16, X16, q16, st16⟩ := X14.hget hexec hown (wk W (.fieldLink "java/lang/String" 9 "java/lang/String" "value" "[B")) (hy.mv X14.warmed.alike hh14).2.1 (g := (mkF m 41 #[.val (.ref x), .val (.ref y), .val (.ref y)] [.ref y, .ref t])) rfl (rest := [.ref t]) rfl (hb hbytes d41)
      have hh16 := q16.trans hh14
      have c17 : Steps p.tables e below (s₁.setTop (entryFrame m #[.ref x, .ref y] 3)) (T16.setTop (mkF m 44 #[.val (.ref x), .val (.ref y), .val (.ref y)] [.ref t', .ref t])) := c15.trans (st16 _ (Steps.refl _))
      obtain ⟨v18, T18, X18, E18, g18⟩ := X16.callS hexec (LEq.law l t V t' V') hown (wks W (staticW "java/lang/String" 541 LEq.yN)) (wk W LEq.tab) (W := 0) (Nat.le_of_ble_eq_true rfl) (Nat.le_of_ble_eq_true rfl) (Nat.le_refl _) (Nat.le_refl _) (g := (mkF m 44 #[.val (.ref x), .val (.ref y), .val (.ref y)] [.ref t', .ref t])) rfl (by rw [hml]; rfl) c17 (argsL := [.ref t, .ref t']) (rest := []) rfl rfl (by show 2 * 0 + 0 ≤ _; decide) (hb hbytes d44) (⟨rfl, hx.2.2.2.1.mv X16.warmed.alike hh16, hx.2.2.2.2.1.ty, hy.2.2.2.1.mv X16.warmed.alike hh16, hy.2.2.2.2.1.ty⟩)
      obtain ⟨v, rfl, q18, hv⟩ := E18
      have iff := Cod.eqv hx.2.2.2.2.1 hy.2.2.2.2.1 hx.2.2.2.2.2 hy.2.2.2.2.2
      rcases hv with ⟨rfl, he⟩ | ⟨rfl, he⟩
      · have c19 : Steps p.tables e below (s₁.setTop (entryFrame m #[.ref x, .ref y] 3)) (T18.setTop (mkF m 55 #[.val (.ref x), .val (.ref y), .val (.ref y)] [.int 1])) := Steps.trans g18 (by
          refine XS.ifNo X18.here hexec rfl (hb hbytes d47) rfl (i0_eq_f (by decide)) ?_
          refine iconstV X18.here hexec rfl 1 (hb hbytes d50) (by decide) ?_
          refine XS.goto X18.here hexec rfl (pc0 := 51) rfl (hb hbytes d51) (by decide) rfl ?_
          exact Steps.refl _)
        exact ⟨T18, some (.int 1), _, _, _, X18, rfl, rfl, rfl, (fun h => by cases h), ⟨1, rfl, q18.trans hh16, Or.inl ⟨rfl, iff.mp he⟩⟩, fun fs hl => c19.trans (X18.ireturnOut hexec hret rfl (Or.inr (Or.inl rfl)) (hb hbytes d55) hl)⟩
      · have c19 : Steps p.tables e below (s₁.setTop (entryFrame m #[.ref x, .ref y] 3)) (T18.setTop (mkF m 55 #[.val (.ref x), .val (.ref y), .val (.ref y)] [.int 0])) := Steps.trans g18 (by
          refine XS.ifYes X18.here hexec rfl (pc0 := 47) rfl (hb hbytes d47) rfl (i0_eq_t rfl) (by decide) rfl ?_
          refine iconstV X18.here hexec rfl 0 (hb hbytes d54) (by decide) ?_
          exact Steps.refl _)
        exact ⟨T18, some (.int 0), _, _, _, X18, rfl, rfl, rfl, (fun h => by cases h), ⟨0, rfl, q18.trans hh16, Or.inr ⟨rfl, fun q => he (iff.mpr q)⟩⟩, fun fs hl => c19.trans (X18.ireturnOut hexec hret rfl (Or.inr (Or.inl rfl)) (hb hbytes d55) hl)⟩
    · have c13 : Steps p.tables e below (s₁.setTop (entryFrame m #[.ref x, .ref y] 3)) (T11.setTop (mkF m 55 #[.val (.ref x), .val (.ref y), .val (.ref y)] [.int 0])) := c12.trans (by
        refine XS.icmpYes X11.here hexec rfl (pc0 := 33) rfl (hb hbytes d33) rfl (ii_ne_t hcd) (by decide) rfl ?_
        refine iconstV X11.here hexec rfl 0 (hb hbytes d54) (by decide) ?_
        exact Steps.refl _)
      exact ⟨T11, some (.int 0), _, _, _, X11, rfl, rfl, rfl, (fun h => by cases h), ⟨0, rfl, hh11, Or.inr ⟨rfl, Cod.dif hx.2.2.2.2.1 hy.2.2.2.2.1 hcd⟩⟩, fun fs hl => c13.trans (X11.ireturnOut hexec hret rfl (Or.inr (Or.inl rfl)) (hb hbytes d55) hl)⟩
theorem pays {l : Launch} {R : Room} {p : Program} {e : Env} {below : List Frame} {s : State} {sargs : Array Value} {len W : Nat} (x t : Addr) (V : Cell) (cd : Int32) (n : Nat) (f : Nat → Int32) (y t' : Addr) (V' : Cell) (cd' : Int32) (k : Nat) (g : Nat → Int32) (z : Int32) (htab : tab.before sargs s = true) (hfr : 2 ≤ R.frames) (hlo : W + 28 ≤ R.locals) :
    Back l R p e below s sargs yN len W (fun A₁ a₁ => A₁.cells + 0 ≤ R.cells ∧ A₁.slots + 0 ≤ R.slots ∧ P x t V cd n f y t' V' cd' k g z a₁ A₁.U) (fun A₁ _ v₁ B₁ => Says01 (SameT n f k g) v₁ A₁.U B₁.U ∧ B₁.locs = A₁.locs ++ [] ∧ B₁.cells = A₁.cells + 0 ∧ B₁.slots = A₁.slots + 0) :=
  (law l x t V cd n f y t' V' cd' k g z).pays htab hfr (by omega)
end SEq
end StrChars
namespace StrChars.Road
open Jvm Sem ClassFile Op Lib Jvm.Stand Jvm.Free Jvm.Free.XT
open Jvm.Lib.Cold (StaticIs)
/-- the words of String.equals(Object) -/
abbrev wordsEq : List Jvm.Cond := [.code SEq.yN SEq.yB 3 (some .boolean), .initialized ST, .classLink ST 10 ST, .fieldLink ST 38 ST "COMPACT_STRINGS" "Z", .fieldLink ST 15 ST "coder" "B", .fieldLink ST 9 ST "value" "[B", .methodLink ST 541 LEq.yN, .static LEq.yN, .code LEq.yN LEq.yB 3 (some .boolean), .initialized "java/lang/StringLatin1"]
theorem tabEq_of {a : Array Value} {s : State} (h : ∀ w ∈ wordsEq, w.before a s = true) : SEq.tab.before a s = true := by
  have hl : LEq.tab.before a s = true := unparts (wk h (.code LEq.yN LEq.yB 3 (some .boolean))) (wks h (.initialized LEq.yN.cls :: LEq.site))
  have q := consq hl h
  exact unparts (wk q (.code SEq.yN SEq.yB 3 (some .boolean))) (wks q (.initialized SEq.yN.cls :: SEq.site))
theorem movedEq {Z s : State} {a0 args : Array Value} (hZ : Z.Warmed39 s.vm) (hw : ∀ d ∈ wordsEq, d.before a0 Z = true) : ∀ d ∈ wordsEq, d.before args s = true := fun d hd => by
  have t : ∀ d ∈ wordsEq, (d.onTables && d.keepsFace) = true := by decide +kernel
  exact RoadKit.mv hZ (hw d hd) (t d hd)
/-- the road's facts of a String, as the laws ask it -/
theorem txt_of {Z U : State} {a0 : Array Value} {kI : Nat} (wi : (Jvm.Cond.instantiable ST kI).before a0 Z = true) (al : Z.vm.Alike U.vm) {x t : Addr} {kb : ClassId} {cs : List Int32} {cd N2 : Int32} {vs : List Value} (E : RoadKit.Exa Z U.heap x ST) (V : RoadKit.Fld Z U.heap x ST "value" "[B" (.ref t)) (C : RoadKit.Fld Z U.heap x ST "coder" "B" (.int cd)) (K : RoadKit.Arv Z U.heap t kb .byte N2 vs (.int 0)) (hc : CodA cs cd N2 vs) (hb : ∀ c ∈ cs, ¬ c < 0 ∧ ¬ (65535 : Int32) < c) (l2 : cs.length ≤ 4000) :
    ∃ A, Txt x t A cd cs.length (fun j => cs.getD j 0) U := by
  obtain ⟨A, K1, K2, K3, K4, K5, K6⟩ := K
  have hcod := hc.cod (by omega) K3 K5
  obtain ⟨D, fV, fC, hB, F1, F2, g1, g2, -, -⟩ := strObj wi al E V C
  exact ⟨A, ⟨_, hB.2.2.1, D, hB.1, rfl, by cases q : D.vm <;> first | rfl | exact absurd q (hB.2.1.2 _)⟩, Has.of hB F1 g1, Has.of hB F2 g2, ⟨K1.1, State.isArrayOf_alike al K1.2.1, K1.2.2, by rcases hcod with ⟨-, q, -⟩ | ⟨-, q, -⟩ <;> omega⟩, hcod, fun j hj => by
    have e : cs.getD j 0 = cs[j] := by simp [List.getD_eq_getElem?_getD, hj]
    show ¬ cs.getD j 0 < 0 ∧ ¬ 65535 < cs.getD j 0
    rw [e]; exact hb _ (List.getElem_mem _)⟩
theorem same_list (cs ds : List Int32) : SameT cs.length (fun j => cs.getD j 0) ds.length (fun j => ds.getD j 0) ↔ cs = ds := by
  constructor
  · rintro ⟨e, q⟩
    refine List.ext_getElem e fun j h1 h2 => ?_
    have := q j h1
    simpa [List.getD_eq_getElem?_getD, h1, h2] using this
  · rintro rfl
    exact ⟨rfl, fun _ _ => rfl⟩
/-- **equals(Object) OF TWO SUCH STRINGS**: 1 just where the chars are the same -/
theorem eqW {p : Program} {l : Launch} {e : Env} {R : Room} {s : State} {args : Array Value} {below : List Frame} {len W : Nat} {Z : State} {a0 : Array Value} {h : Heap} (hZ : Z.Warmed39 s.vm) (hw : ∀ d ∈ wordsEq, d.before a0 Z = true) {kI : Nat} (wi : (Jvm.Cond.instantiable ST kI).before a0 Z = true)
    {x t : Addr} {kb : ClassId} {cs : List Int32} {cd N2 : Int32} {vs : List Value} (E : RoadKit.Exa Z h x ST) (V : RoadKit.Fld Z h x ST "value" "[B" (.ref t)) (C : RoadKit.Fld Z h x ST "coder" "B" (.int cd)) (K : RoadKit.Arv Z h t kb .byte N2 vs (.int 0)) (hc : CodA cs cd N2 vs) (hb : ∀ c ∈ cs, ¬ c < 0 ∧ ¬ (65535 : Int32) < c) (l2 : cs.length ≤ 4000)
    {y t' : Addr} {kb' : ClassId} {ds : List Int32} {cd' N2' : Int32} {vs' : List Value} (E' : RoadKit.Exa Z h y ST) (V' : RoadKit.Fld Z h y ST "value" "[B" (.ref t')) (C' : RoadKit.Fld Z h y ST "coder" "B" (.int cd')) (K' : RoadKit.Arv Z h t' kb' .byte N2' vs' (.int 0)) (hc' : CodA ds cd' N2' vs') (hb' : ∀ c ∈ ds, ¬ c < 0 ∧ ¬ (65535 : Int32) < c) (l2' : ds.length ≤ 4000)
    {z : Int32} (S : RoadKit.Sta Z h ST "COMPACT_STRINGS" "Z" (.int z)) (hz : ¬ z = 0) (hfr : 2 ≤ R.frames) (hlo : W + 28 ≤ R.locals) :
    Back l R p e below s args (⟨"java/lang/String", "equals", "(Ljava/lang/Object;)Z"⟩ : MethodName) len W (fun P a => a = #[.ref x, .ref y] ∧ P.U.heap = h ∧ P.cells + 0 ≤ R.cells ∧ P.slots + 0 ≤ R.slots)
      (fun P _ v B => ∃ L, (((v = some (.int 1) ∧ cs = ds) ∨ (v = some (.int 0) ∧ ¬ cs = ds)) ∧ L = [] ∧ B.U.heap = h) ∧ B.locs = P.locs ++ L ∧ B.cells = P.cells + 0 ∧ B.slots = P.slots + 0) := by
  intro m meth c P g ig mk a X hg hsize hdg hW hn hp'
  obtain ⟨rfl, rfl, r1, r2⟩ := hp'
  have al : Z.vm.Alike P.U.vm := hZ.alike.trans X.warmed.alike
  obtain ⟨A, hx⟩ := txt_of wi al E V C K hc hb l2
  obtain ⟨A', hy⟩ := txt_of wi al E' V' C' K' hc' hb' l2'
  obtain ⟨v, B, X', ⟨⟨w, hv, hh, hq⟩, hl, hk, hs⟩, st⟩ := SEq.pays x t A cd cs.length (fun j => cs.getD j 0) y t' A' cd' ds.length (fun j => ds.getD j 0) z (tabEq_of (movedEq hZ hw)) hfr hlo m meth c P g ig mk _ X hg hsize hdg hW hn ⟨r1, r2, rfl, hx, hy, sta_is al S, hz⟩
  refine ⟨v, B, X', ⟨[], ⟨?_, rfl, hh⟩, hl, hk, hs⟩, st⟩
  rcases hq with ⟨rfl, q⟩ | ⟨rfl, q⟩
  · exact Or.inl ⟨hv, (same_list cs ds).mp q⟩
  · exact Or.inr ⟨hv, fun e => q ((same_list cs ds).mpr e)⟩
end StrChars.Road
namespace StrChars.Road
open Jvm Sem ClassFile Op Lib Jvm.Stand Jvm.Free Jvm.Free.XT
open Jvm.Lib.Cold (StaticIs)
/-- what backV says of its String, as the contracts of this text ask it: cs's low bytes, coder 0 -/
theorem codOf {cs : List Int32} {n : Nat} (hn : cs.length = n) (hb : ∀ c ∈ cs, ¬ 255 < c) : CodA cs 0 (Int32.ofNat n) ((cs.map lo8).map Value.int) := Or.inl ⟨rfl, by rw [hn], by simp [List.map_map, Function.comp_def], hb⟩
end StrChars.Road
end Jvm.Pilot.@@N@@
namespace Jvm.Pilot.@@N@@
open Jvm Jvm.ClassFile Sem Op Lib Jvm.Free Jvm.Stand Jvm.LawKit Jvm.RoadKit Bundle Jvm.Pilot.@@N@@.Jvm.D
abbrev vi (x : Int32) : Slot := .val (.int x)
abbrev vj (x : Int64) : Slot := .val (.long x)
abbrev vr (a : Addr) : Slot := .val (.ref a)
abbrev vn : Slot := .val .null
abbrev uu : Slot := .unset
abbrev ss : Slot := .second
theorem own_lt {a b : Nat} (h : a < b) : a < b := h
theorem own_ne {a b : Nat} (h : a ≠ b) : a ≠ b := h
/-- the run from cur comes to an end of which G holds -/
def own_Fin (p : Program) (e : Env) (below : List Frame) (cur : State) (G : State → Outcome → Prop) : Prop :=
  ∃ t o, Steps p.tables e below cur t ∧ t.status = .running ∧ Ended t below o ∧ G t o
theorem own_go {p : Program} {e : Env} {below : List Frame} {cur cur' : State} {G : State → Outcome → Prop} (st : ∀ target, Steps p.tables e below cur' target → Steps p.tables e below cur target) (k : own_Fin p e below cur' G) : own_Fin p e below cur G := by
  obtain ⟨t, o, h, r⟩ := k
  exact ⟨t, o, st _ h, r⟩
theorem own_gs {p : Program} {e : Env} {below : List Frame} {cur cur' : State} {G : State → Outcome → Prop} (st : Steps p.tables e below cur cur') (k : own_Fin p e below cur' G) : own_Fin p e below cur G := by
  obtain ⟨t, o, h, r⟩ := k
  exact ⟨t, o, st.trans h, r⟩
/-! ## Strings: one fact, its carriage, and who pays a call -/
section OwnStr
variable {Z : State} {h h' : Heap} {x t : Addr} {cs : List Int32} {ws : List Addr}
/-- the String at x, its bytes at t, spells cs -/
def own_Str (Z : State) (h : Heap) (x t : Addr) (cs : List Int32) : Prop := ∃ (k : ClassId) (cd N : Int32) (vs : List Value), Exa Z h x "java/lang/String" ∧ Fld Z h x "java/lang/String" "value" "[B" (.ref t) ∧ Fld Z h x "java/lang/String" "coder" "B" (.int cd) ∧ Arv Z h t k .byte N vs (.int 0) ∧ StrChars.Road.CodA cs cd N vs ∧ (∀ c ∈ cs, ¬ c < 0 ∧ ¬ (65535 : Int32) < c) ∧ cs.length ≤ 4000
theorem own_Str.ext (F : own_Str Z h x t cs) (E : Ext h h') : own_Str Z h' x t cs := by
  obtain ⟨k, cd, N, vs, a, b, c, d, r⟩ := F
  exact ⟨k, cd, N, vs, a.ext E, b.ext E, c.ext E, d.ext E, r⟩
theorem own_Str.keep (F : own_Str Z h x t cs) (K : Keep h h' ws) (q1 : x ∉ ws) (q2 : t ∉ ws) : own_Str Z h' x t cs := by
  obtain ⟨k, cd, N, vs, a, b, c, d, r⟩ := F
  exact ⟨k, cd, N, vs, a.keep K, b.keep K q1, c.keep K q1, d.keep K q2, r⟩
theorem own_Str.exa (F : own_Str Z h x t cs) : Exa Z h x "java/lang/String" := by obtain ⟨k, cd, N, vs, a, r⟩ := F; exact a
theorem own_Str.lt {x t : Nat} (F : own_Str Z h x t cs) : x < h.size ∧ t < h.size := by obtain ⟨k, cd, N, vs, a, b, c, d, r⟩ := F; exact ⟨a.lt, d.lt⟩
end OwnStr
theorem own_nar {c : Int32} (h0 : ¬ c < 0) (h1 : ¬ (65535 : Int32) < c) : nar .char c = c := by
  have h3 := c_i2c c
  show c.toUInt32.toUInt16.toUInt32.toInt32 = c
  rw [Int32.lt_iff_toInt_lt] at h0 h1
  have e0 : (0 : Int32).toInt = 0 := rfl
  have e1 : (65535 : Int32).toInt = 65535 := rfl
  exact Int32.toInt_inj.mp (by omega)
theorem own_up {c : Int32} (h1 : ¬ (255 : Int32) < c) : ¬ (65535 : Int32) < c := by
  rw [Int32.lt_iff_toInt_lt] at h1 ⊢
  have e1 : (65535 : Int32).toInt = 65535 := rfl
  have e2 : (255 : Int32).toInt = 255 := rfl
  omega
theorem own_and255 (x : Int32) : ¬ nar .char ((x &&& (255 : Int32)).toUInt32.toUInt16.toUInt32.toInt32) < 0 ∧ ¬ (255 : Int32) < nar .char ((x &&& (255 : Int32)).toUInt32.toUInt16.toUInt32.toInt32) := by
  have h1 := c_mask x 255 8 (by decide) (by decide)
  have h2 := c_i2c (x &&& (255 : Int32))
  have h3 := c_i2c ((x &&& (255 : Int32)).toUInt32.toUInt16.toUInt32.toInt32)
  have e1 : (255 : Int32).toInt = 255 := rfl
  have e0 : (0 : Int32).toInt = 0 := rfl
  show ¬ ((x &&& (255 : Int32)).toUInt32.toUInt16.toUInt32.toInt32).toUInt32.toUInt16.toUInt32.toInt32 < 0 ∧ ¬ (255 : Int32) < ((x &&& (255 : Int32)).toUInt32.toUInt16.toUInt32.toInt32).toUInt32.toUInt16.toUInt32.toInt32
  rw [Int32.lt_iff_toInt_lt, Int32.lt_iff_toInt_lt, e0, e1]
  simp only [Nat.reducePow, Int.cast_ofNat_Int] at h1
  omega
theorem own_and3 (x : Int32) : (x &&& (3 : Int32)) = 0 ∨ (x &&& (3 : Int32)) = 1 ∨ (x &&& (3 : Int32)) = 2 ∨ (x &&& (3 : Int32)) = 3 := by
  have h1 := c_mask x 3 2 (by decide) (by decide)
  simp only [Nat.reducePow, Int.cast_ofNat_Int] at h1
  have e0 : (0 : Int32).toInt = 0 := rfl
  have e1 : (1 : Int32).toInt = 1 := rfl
  have e2 : (2 : Int32).toInt = 2 := rfl
  have e3 : (3 : Int32).toInt = 3 := rfl
  simp only [← Int32.toInt_inj, e0, e1, e2, e3]
  omega
theorem own_m255 (x : Int32) : ¬ ((x &&& (255 : Int32)).toUInt32.toUInt16.toUInt32.toInt32) < 0 ∧ ¬ (255 : Int32) < ((x &&& (255 : Int32)).toUInt32.toUInt16.toUInt32.toInt32) := by
  have h1 := c_mask x 255 8 (by decide) (by decide)
  have h2 := c_i2c (x &&& (255 : Int32))
  have e1 : (255 : Int32).toInt = 255 := rfl
  have e0 : (0 : Int32).toInt = 0 := rfl
  rw [Int32.lt_iff_toInt_lt, Int32.lt_iff_toInt_lt, e0, e1]
  simp only [Nat.reducePow, Int.cast_ofNat_Int] at h1
  omega
section OwnW
variable {p : Program} {l : Launch} {e : Env} {R : Room} {s : State} {m : MethodId} {args : Array Value} {below : List Frame} {Z : State} {a0 : Array Value} {EL : List (String × Nat)} {h : Heap} {vm0 : Vm}
/-- a callee that may load String constants, and that is handed the objects xs, none of them a constant's -/
theorem own_backS {y : MethodName} {bytes : ByteArray} {maxL : Nat} {ret : Option FieldType} {rm : Room} {len W : Nat} {as' : Array Value} {Q : Option Value → Heap → List Loc → Prop} {xs : List Addr}
    (hM : MetFree l y (head1 [Cond.code y bytes maxL ret] rm) (fun a U => a = as' ∧ Z.Warmed39 U.vm ∧ U.heap = h ∧ CHv Z EL U.vm h ∧ ∀ x ∈ xs, Safe Z EL U.vm h x) (fun _ _ _ _ _ => True) (fun _ U o U' => ∃ v L, o = .returned v ∧ Q v U'.heap L ∧ CHr Z EL U.vm U.heap U'.vm U'.heap ∧ ReturnedEndW U o U' L rm.cells rm.slots))
    (hZ : Z.Warmed39 vm0) (wc : (Cond.code y bytes maxL ret).before a0 Z = true) (wz : (Cond.initialized y.cls).before a0 Z = true) (hf : rm.frames + 1 ≤ R.frames) (hl : W + (maxL + 11) + rm.locals ≤ R.locals) (hEL : EW Z a0 EL) (H : CHv Z EL vm0 h) (hs : ∀ x ∈ xs, Safe Z EL vm0 h x ∧ x < h.size) :
    BackS l R p e below (s.setVm vm0) args y len W (fun A a => a = as' ∧ A.U.heap = h ∧ A.cells + rm.cells ≤ R.cells ∧ A.slots + rm.slots ≤ R.slots)
      (fun A _ v B => ∃ L, Q v B.U.heap L ∧ B.locs = A.locs ++ L ∧ B.cells = A.cells + rm.cells ∧ B.slots = A.slots + rm.slots ∧ CHr Z EL vm0 h B.U.vm B.U.heap) := by
  refine BackS.of_freeW (bytes := bytes) (maxL := maxL) (ret := ret) (E := fun _ first o t L k n => (k = rm.cells ∧ n = rm.slots) ∧ CHr Z EL first.vm first.heap t.vm t.heap ∧ ∃ v, o = .returned v ∧ Q v t.heap L) hM hf hl ?_ ?_ (fun _ _ _ _ _ _ _ _ _ => trivial) ?_ ?_
  · intro m meth c A a Y hp
    have hU : Z.Warmed39 A.U.vm := wtrans (s := s.setVm vm0) hZ Y.warmed
    have w1 : (Cond.code y bytes maxL ret).before a A.U = true := mv hU wc
    refine ⟨?_, w1, mv hU wz, hp.2.2.1, hp.2.2.2⟩
    show (Cond.and _ .tt).before a A.U = true
    rw [Cond.before_and, w1]
    rfl
  · intro m meth c A a g mk Y hp
    have q := CHv.at Y hZ hEL H
    exact ⟨hp.1, wtrans (s := s.setVm vm0) hZ Y.warmed, hp.2.1, q.1, fun x hx => q.safe (hs x hx).2 (hs x hx).1⟩
  · rintro a first o t ⟨v, L, h1, h2, h3, h4⟩
    exact ⟨L, _, _, h4, ⟨rfl, rfl⟩, h3, v, h1, h2⟩
  · rintro m meth c A a g mk v t L k n Y hp - - ⟨⟨rfl, rfl⟩, hC, v', e3, e4⟩
    cases e3
    refine ⟨L, e4, rfl, rfl, rfl, (CHv.at Y hZ hEL H).trans ?_⟩
    rw [← hp.2.1]
    exact hC
end OwnW
section OwnW
variable {p : Program} {l : Launch} {e : Env} {R : Room} {s : State} {m : MethodId} {args : Array Value} {below : List Frame} {Z : State} {a0 : Array Value} {EL : List (String × Nat)} {h : Heap} {vm0 : Vm}
/-- length() -/
theorem own_lenB {len W : Nat} (hZ : Z.Warmed39 s.vm) (hw : ∀ d ∈ tables_1, d.before a0 Z = true) {x t : Addr} {cs : List Int32} {z : Int32} (F : own_Str Z h x t cs) (S : Sta Z h "java/lang/String" "COMPACT_STRINGS" "Z" (.int z)) (hz : ¬ z = 0) (hfr : 2 ≤ R.frames) (hlo : W + 25 ≤ R.locals) :
    Back l R p e below s args (⟨"java/lang/String", "length", "()I"⟩ : MethodName) len W (fun P a => a = #[.ref x] ∧ P.U.heap = h ∧ P.cells + 0 ≤ R.cells ∧ P.slots + 0 ≤ R.slots)
      (fun P _ v B => ∃ L, (v = some (.int (Int32.ofNat cs.length)) ∧ L = [] ∧ B.U.heap = h) ∧ B.locs = P.locs ++ L ∧ B.cells = P.cells + 0 ∧ B.slots = P.slots + 0) := by
  obtain ⟨k, cd, N, vs, f1, f2, f3, f4, f5, f6, f7⟩ := F
  exact StrChars.Road.lenW hZ (fun d hd => hw d ((by decide +kernel : ∀ d ∈ StrChars.Road.wordsLen, d ∈ tables_1) d hd)) (kI := 4) (hw _ (List.mem_of_getElem? (i := 5) rfl)) f1 f2 f3 f4 f5 f6 S hz f7 hfr hlo
end OwnW
section OwnW
variable {p : Program} {l : Launch} {e : Env} {R : Room} {s : State} {m : MethodId} {args : Array Value} {below : List Frame} {Z : State} {a0 : Array Value} {EL : List (String × Nat)} {h : Heap} {vm0 : Vm}
/-- equals() of two Strings -/
theorem own_eqB {len W : Nat} (hZ : Z.Warmed39 s.vm) (hw : ∀ d ∈ tables_1, d.before a0 Z = true) {x t y t' : Addr} {cs ds : List Int32} {z : Int32} (F : own_Str Z h x t cs) (G : own_Str Z h y t' ds) (S : Sta Z h "java/lang/String" "COMPACT_STRINGS" "Z" (.int z)) (hz : ¬ z = 0) (hfr : 2 ≤ R.frames) (hlo : W + 28 ≤ R.locals) :
    Back l R p e below s args (⟨"java/lang/String", "equals", "(Ljava/lang/Object;)Z"⟩ : MethodName) len W (fun P a => a = #[.ref x, .ref y] ∧ P.U.heap = h ∧ P.cells + 0 ≤ R.cells ∧ P.slots + 0 ≤ R.slots)
      (fun P _ v B => ∃ L, (v = some (.int (if cs = ds then 1 else 0)) ∧ L = [] ∧ B.U.heap = h) ∧ B.locs = P.locs ++ L ∧ B.cells = P.cells + 0 ∧ B.slots = P.slots + 0) := by
  obtain ⟨k, cd, N, vs, f1, f2, f3, f4, f5, f6, f7⟩ := F
  obtain ⟨k', cd', N', vs', g1, g2, g3, g4, g5, g6, g7⟩ := G
  refine Back.mono (StrChars.Road.eqW hZ (fun d hd => hw d ((by decide +kernel : ∀ d ∈ StrChars.Road.wordsEq, d ∈ tables_1) d hd)) (kI := 4) (hw _ (List.mem_of_getElem? (i := 5) rfl)) f1 f2 f3 f4 f5 f6 f7 g1 g2 g3 g4 g5 g6 g7 S hz hfr hlo) (fun _ _ q => q) ?_
  rintro P a v B - ⟨L, ⟨q, r1, r2⟩, r3⟩
  refine ⟨L, ⟨?_, r1, r2⟩, r3⟩
  rcases q with ⟨q1, q2⟩ | ⟨q1, q2⟩
  · rw [if_pos q2]; exact q1
  · rw [if_neg q2]; exact q1
end OwnW
def own_W (Z : State) (a0 : Array Value) : Prop := (∀ d ∈ tables_1, d.before a0 Z = true) ∧ (∃ g : Int32, Sta Z Z.heap "java/lang/String" "COMPACT_STRINGS" "Z" (.int g) ∧ ¬ g = 0) ∧ ∃ ea : Addr, Sta Z Z.heap "java/util/Optional" "EMPTY" "Ljava/util/Optional;" (.ref ea) ∧ Exa Z Z.heap ea "java/util/Optional" ∧ Fld Z Z.heap ea "java/util/Optional" "value" "Ljava/lang/Object;" .null
def own_EL : List (String × Nat) := [("com/example/mandatum/mandatum/service/Exchanged", 17), ("java/lang/String", 7)]
theorem own_mem_0 : (("com/example/mandatum/mandatum/service/Exchanged", 17) : String × Nat) ∈ own_EL := List.mem_of_getElem? (i := 0) rfl
theorem own_lit_0 : (∀ c ∈ "token is null".toList, c.toNat < 256) ∧ "token is null".toList.map (fun c => Value.int (Jvm.Lit.byteI c.toNat.toUInt16)) = [.int (116 : Int32), .int (111 : Int32), .int (107 : Int32), .int (101 : Int32), .int (110 : Int32), .int (32 : Int32), .int (105 : Int32), .int (115 : Int32), .int (32 : Int32), .int (110 : Int32), .int (117 : Int32), .int (108 : Int32), .int (108 : Int32)] := ⟨by decide, rfl⟩
theorem own_mem_1 : (("java/lang/String", 7) : String × Nat) ∈ own_EL := List.mem_of_getElem? (i := 1) rfl
theorem own_lit_1 : (∀ c ∈ "".toList, c.toNat < 256) ∧ "".toList.map (fun c => Value.int (Jvm.Lit.byteI c.toNat.toUInt16)) = [] := ⟨by decide, rfl⟩
theorem own_EW {Z : State} {a0 : Array Value} (hw : ∀ d ∈ tables_1, d.before a0 Z = true) : EW Z a0 own_EL := (EW.cons (hw _ (List.mem_of_getElem? (i := 32) rfl)) own_lit_0.1 (EW.cons (hw _ (List.mem_of_getElem? (i := 18) rfl)) own_lit_1.1 EW.nil))
theorem own_SA {Z : State} {a0 : Array Value} (hw : ∀ d ∈ tables_1, d.before a0 Z = true) : ∀ a ∈ Bundle.stringAtoms, a.before a0 Z = true := fun d hd => hw d ((by decide +kernel : ∀ d ∈ Bundle.stringAtoms, d ∈ tables_1) d hd)
def own_new4e_Q (Z : State) (x1 b1 : Nat) (v0 c0 : Value) (h0 : Heap) (n0 : Nat) (v : Option Value) (h : Heap) (L : List Loc) : Prop := v = none ∧ Fr n0 L ∧ Keep h0 h [x1] ∧ ∃ t : Nat, x1 ≠ t ∧ own_Str Z h x1 t []
theorem pn_java_lang_String : plainName "java/lang/String" = true := by first | (simp [plainName, overriddenIn]; done) | decide +kernel
theorem ef_own_new4e (m : MethodId) (x0 : Nat) (x1 : Nat) (x2 : Int32) (x3 : Int32) : entryFrame m #[(.ref x0), (.ref x1), (.int x2), (.int x3), .null] 6 = mkF m 0 #[vr x0, vr x1, vi x2, vi x3, vn, .unset] [] := by first | (simp [entryFrame, mkF, argsToLocals, Value.category]; done) | rfl
theorem d_jdk_42_m_149_0 : decode jdk_42_method_149_code 0 = .ok (.aload_n 0, 1) := by decide +kernel
theorem d_jdk_42_m_149_1 : decode jdk_42_method_149_code 1 = .ok (.invokespecial 1, 3) := by decide +kernel
theorem d_jdk_42_m_149_4 : decode jdk_42_method_149_code 4 = .ok (.iload_n 3, 1) := by decide +kernel
theorem d_jdk_42_m_149_5 : decode jdk_42_method_149_code 5 = .ok (.ifCond .ne 22, 3) := by decide +kernel
theorem d_jdk_42_m_149_8 : decode jdk_42_method_149_code 8 = .ok (.aload_n 0, 1) := by decide +kernel
theorem d_jdk_42_m_149_9 : decode jdk_42_method_149_code 9 = .ok (.ldc 7, 2) := by decide +kernel
theorem d_jdk_42_m_149_11 : decode jdk_42_method_149_code 11 = .ok (.getfield 9, 3) := by decide +kernel
theorem d_jdk_42_m_149_14 : decode jdk_42_method_149_code 14 = .ok (.putfield 9, 3) := by decide +kernel
theorem d_jdk_42_m_149_17 : decode jdk_42_method_149_code 17 = .ok (.aload_n 0, 1) := by decide +kernel
theorem d_jdk_42_m_149_18 : decode jdk_42_method_149_code 18 = .ok (.ldc 7, 2) := by decide +kernel
theorem d_jdk_42_m_149_20 : decode jdk_42_method_149_code 20 = .ok (.getfield 15, 3) := by decide +kernel
theorem d_jdk_42_m_149_23 : decode jdk_42_method_149_code 23 = .ok (.putfield 15, 3) := by decide +kernel
theorem d_jdk_42_m_149_26 : decode jdk_42_method_149_code 26 = .ok (.return_, 1) := by decide +kernel
set_option maxRecDepth 65536 in
set_option maxHeartbeats 40000000 in
theorem own_new4e (l : Launch) (Z : State) (a0 : Array Value) (hW : own_W Z a0) (x1 b1 : Nat) (v0 c0 : Value) (h0 : Heap) (n0 : Nat) (Z0 : n0 ≤ h0.size) (O0 : Old Z n0 h0) (E1 : Exa Z h0 x1 "java/lang/String") (Fv1 : Fld Z h0 x1 "java/lang/String" "value" "[B" v0) (Fc1 : Fld Z h0 x1 "java/lang/String" "coder" "B" c0) (g1 : n0 ≤ x1) :
    MetFree l (⟨"java/lang/String", "<init>", "([CIILjava/lang/Void;)V"⟩ : MethodName) (head1 (Jvm.Cond.code (⟨"java/lang/String", "<init>", "([CIILjava/lang/Void;)V"⟩ : MethodName) jdk_42_method_149_code 6 none :: []) ({ frames := 1, cells := 4, slots := 8, locals := 16 } : Room)) (fun a U => a = #[(.ref x1), (.ref b1), (.int (0 : Int32)), (.int (0 : Int32)), .null] ∧ Z.Warmed39 U.vm ∧ U.heap = h0 ∧ CHv Z own_EL U.vm h0 ∧ ∀ x ∈ ([x1] : List Addr), Safe Z own_EL U.vm h0 x) (fun _ _ _ _ _ => True) (fun _ U o U' => ∃ v L, o = .returned v ∧ own_new4e_Q Z x1 b1 v0 c0 h0 n0 v U'.heap L ∧ CHr Z own_EL U.vm U.heap U'.vm U'.heap ∧ ReturnedEndW U o U' L ({ frames := 1, cells := 4, slots := 8, locals := 16 } : Room).cells ({ frames := 1, cells := 4, slots := 8, locals := 16 } : Room).slots) := by
  refine MetFree.of_bodySF (plainFor_of_name pn_java_lang_String) hisR ?_
  intro p e s m args below meth c s₁ Bd hml0 hP hK
  obtain ⟨rfl, hZ, hh, hCH, hSf⟩ := hP
  obtain ⟨hw, ⟨G1, O2, P5⟩, ea, Se, Ee, Fe⟩ := id hW
  have hx := Bd.exec
  have hby := Bd.bytes
  have hml : c.maxLocals = 6 := hml0
  have hown : s.vm.findClass "java/lang/String" = some m.cls := findClass_of_methodNamed Bd.named
  have hnm := (name_of_methodNamed Bd.named Bd.method).1
  have X0 : Stand p l e ({ frames := 1, cells := 4, slots := 8, locals := 16 } : Room) (s.setVm s.vm) m #[(.ref x1), (.ref b1), (.int (0 : Int32)), (.int (0 : Int32)), .null] below meth c s₁ [] 0 0 := Stand.of_body Bd
  have e0 : s₁.heap = h0 := by rw [← hh, Bd.state]; rfl
  have N0 := Fr.nil n0
  have K0 := Keep.refl h0 [x1]
  have hS0 : s.Since s.vm h0.size := (State.WarmedH.refl s).since _
  have CH0 : CHr Z own_EL s.vm h0 s.vm h0 := CHr.refl hCH
  have hEL := own_EW hw
  have hSA := own_SA hw
  have lt1 := own_lt E1.lt
  show own_Fin p e below (s₁.setTop (entryFrame m #[(.ref x1), (.ref b1), (.int (0 : Int32)), (.int (0 : Int32)), .null] 6)) _
  refine own_gs (castTop (ef_own_new4e m x1 b1 (0 : Int32) (0 : Int32)) (Steps.refl _)) ?_
  show own_Fin p e below (s₁.setTop (mkF m 0 #[vr x1, vr b1, vi (0 : Int32), vi (0 : Int32), vn, uu] [])) _
  refine own_gs (cur' := s₁.setTop (mkF m 1 #[vr x1, vr b1, vi (0 : Int32), vi (0 : Int32), vn, uu] [(.ref x1)])) ?_ ?_
  · refine XS.aloadN X0.here hx rfl (hb hby d_jdk_42_m_149_0) rfl rfl ?_
    exact Steps.refl _
  obtain ⟨T11, X11, e11, st11⟩ := initO X0 hx hZ hown (hw _ (List.mem_of_getElem? (i := 15) rfl)) (hw _ (List.mem_of_getElem? (i := 16) rfl)) (hw _ (List.mem_of_getElem? (i := 17) rfl)) e0 (g := (mkF m 1 #[vr x1, vr b1, vi (0 : Int32), vi (0 : Int32), vn, uu] [(.ref x1)])) rfl (by rw [hml]; rfl) rfl (hb hby d_jdk_42_m_149_1) (by decide) (W := 0) (by show 2 * 0 + _ ≤ _; exact Nat.le_of_eq rfl) (by decide)
  refine own_go st11 ?_
  show own_Fin p e below (T11.setTop (mkF m 4 #[vr x1, vr b1, vi (0 : Int32), vi (0 : Int32), vn, uu] [])) _
  refine own_gs (cur' := T11.setTop (mkF m 9 #[vr x1, vr b1, vi (0 : Int32), vi (0 : Int32), vn, uu] [(.ref x1)])) ?_ ?_
  · refine XS.iloadN X11.here hx rfl (hb hby d_jdk_42_m_149_4) rfl ?_
    show Steps p.tables e below (T11.setTop (mkF m 5 #[vr x1, vr b1, vi (0 : Int32), vi (0 : Int32), vn, uu] [(.int (0 : Int32))])) _
    refine XS.ifNo X11.here hx rfl (hb hby d_jdk_42_m_149_5) rfl ((if0 _ _).trans (teq ((by decide) : (0 : Int32) = (0 : Int32))).2) ?_
    show Steps p.tables e below (T11.setTop (mkF m 8 #[vr x1, vr b1, vi (0 : Int32), vi (0 : Int32), vn, uu] [])) _
    refine XS.aloadN X11.here hx rfl (hb hby d_jdk_42_m_149_8) rfl rfl ?_
    exact Steps.refl _
  obtain ⟨sa12, T12, h12, k12, sb12, c12, X12, e12, E12, hS12, hk12, hZ12, hown12, A12, Fc12, Fv12, V12, lta12, ltt12, hC12, Li12, ne12, st12⟩ := ldcCH X11 hx hZ hown (hw _ (List.mem_of_getElem? (i := 18) rfl)) hSA e11 hS0 (show h0.size ≤ h0.size by omega) hEL (own_mem_1) CH0.1 (vs := []) (z := (0 : Int32)) own_lit_1 (by decide) rfl (g := (mkF m 9 #[vr x1, vr b1, vi (0 : Int32), vi (0 : Int32), vn, uu] [(.ref x1)])) rfl (hb hby d_jdk_42_m_149_9) (n := 0) (by decide) (by decide) (by decide) (by decide)
  replace lta12 := own_lt lta12
  replace ltt12 := own_lt ltt12
  refine own_go st12 ?_
  show own_Fin p e below (T12.setTop (mkF m 11 #[vr x1, vr b1, vi (0 : Int32), vi (0 : Int32), vn, uu] [(.ref sa12), (.ref x1)])) _
  have z13 := E12.1
  have K13 := K0.ext E12
  have O13 := O0.ext E12
  have CH13 := CH0.trans hC12
  have f14 := (CHr.safe hC12 (own_lt (by omega)) (hSf _ (List.mem_of_getElem? (i := 0) rfl)))
  have nx12 := ne12 x1 f14
  have nxa12 := own_ne nx12.1
  have nxb12 := own_ne nx12.2
  obtain ⟨T15, X15, e15, st15⟩ := getF X12 hx hZ12 hown12 (host := "") (Or.inl (hw _ (List.mem_of_getElem? (i := 24) rfl))) Via.refl e12 Fv12 (g := (mkF m 11 #[vr x1, vr b1, vi (0 : Int32), vi (0 : Int32), vn, uu] [(.ref sa12), (.ref x1)])) rfl rfl (hb hby d_jdk_42_m_149_11)
  refine own_go st15 ?_
  show own_Fin p e below (T15.setTop (mkF m 14 #[vr x1, vr b1, vi (0 : Int32), vi (0 : Int32), vn, uu] [(.ref sb12), (.ref x1)])) _
  have f17 := (Fv1.ext E12)
  have f18 := (E1.ext E12)
  obtain ⟨T16, h16, X16, e16, W16, st16⟩ := putF X15 hx hZ12 hown12 (host := "") (Or.inl (hw _ (List.mem_of_getElem? (i := 24) rfl))) Via.refl e15 f17 f18 (Or.inr ⟨(hw _ (List.mem_of_getElem? (i := 20) rfl)), rfl, hnm⟩) (hw _ (List.mem_of_getElem? (i := 5) rfl)) (ty := (.array .byte)) (by decide) rfl rfl (g := (mkF m 14 #[vr x1, vr b1, vi (0 : Int32), vi (0 : Int32), vn, uu] [(.ref sb12), (.ref x1)])) rfl rfl (hb hby d_jdk_42_m_149_14)
  have F16 := f17.same W16
  refine own_go st16 ?_
  show own_Fin p e below (T16.setTop (mkF m 17 #[vr x1, vr b1, vi (0 : Int32), vi (0 : Int32), vn, uu] [])) _
  have z19 := W16.size
  have K19 := K13.wr W16 (Or.inl (List.mem_of_getElem? (i := 0) rfl))
  have O19 := O13.wr W16 (by omega)
  have CH19 := CH13.trans (CHr.wr W16 f14 CH13.1)
  have N19 := Fr.snoc X16 N0 (by omega)
  refine own_gs (cur' := T16.setTop (mkF m 18 #[vr x1, vr b1, vi (0 : Int32), vi (0 : Int32), vn, uu] [(.ref x1)])) ?_ ?_
  · refine XS.aloadN X16.here hx rfl (hb hby d_jdk_42_m_149_17) rfl rfl ?_
    exact Steps.refl _
  obtain ⟨sa20, T20, h20, k20, sb20, c20, X20, e20, E20, hS20, hk20, hZ20, hown20, A20, Fc20, Fv20, V20, lta20, ltt20, hC20, Li20, ne20, st20⟩ := ldcCH X16 hx hZ12 hown12 (hw _ (List.mem_of_getElem? (i := 18) rfl)) hSA e16 hS12 (show k12 ≤ h16.size by omega) hEL (own_mem_1) CH19.1 (vs := []) (z := (0 : Int32)) own_lit_1 (by decide) rfl (g := (mkF m 18 #[vr x1, vr b1, vi (0 : Int32), vi (0 : Int32), vn, uu] [(.ref x1)])) rfl (hb hby d_jdk_42_m_149_18) (n := 0) (by decide) (by decide) (by decide) (by decide)
  replace lta20 := own_lt lta20
  replace ltt20 := own_lt ltt20
  refine own_go st20 ?_
  show own_Fin p e below (T20.setTop (mkF m 20 #[vr x1, vr b1, vi (0 : Int32), vi (0 : Int32), vn, uu] [(.ref sa20), (.ref x1)])) _
  have z21 := E20.1
  have K21 := K19.ext E20
  have O21 := O19.ext E20
  have CH21 := CH19.trans hC20
  have f22 := (CHr.safe hC20 (own_lt (by omega)) (Safe.wr W16 f14 CH13.1 f14))
  have nx20 := ne20 x1 f22
  have nxa20 := own_ne nx20.1
  have nxb20 := own_ne nx20.2
  obtain ⟨T23, X23, e23, st23⟩ := getF X20 hx hZ20 hown20 (host := "") (Or.inl (hw _ (List.mem_of_getElem? (i := 25) rfl))) Via.refl e20 Fc20 (g := (mkF m 20 #[vr x1, vr b1, vi (0 : Int32), vi (0 : Int32), vn, uu] [(.ref sa20), (.ref x1)])) rfl rfl (hb hby d_jdk_42_m_149_20)
  refine own_go st23 ?_
  show own_Fin p e below (T23.setTop (mkF m 23 #[vr x1, vr b1, vi (0 : Int32), vi (0 : Int32), vn, uu] [(.int (0 : Int32)), (.ref x1)])) _
  have f25 := (((Fc1.ext E12).other W16 (Or.inr (slot_ne (Or.inr (hw _ (List.mem_of_getElem? (i := 21) rfl))) (Or.inr (hw _ (List.mem_of_getElem? (i := 20) rfl))) (by decide) (t := .byte) (t' := (.array .byte)) (by decide) (by decide)))).ext E20)
  have f26 := ((f18.wr W16).ext E20)
  obtain ⟨T24, h24, X24, e24, W24, st24⟩ := putF X23 hx hZ20 hown20 (host := "") (Or.inl (hw _ (List.mem_of_getElem? (i := 25) rfl))) Via.refl e23 f25 f26 (Or.inr ⟨(hw _ (List.mem_of_getElem? (i := 21) rfl)), rfl, hnm⟩) (hw _ (List.mem_of_getElem? (i := 5) rfl)) (ty := .byte) (by decide) rfl rfl (g := (mkF m 23 #[vr x1, vr b1, vi (0 : Int32), vi (0 : Int32), vn, uu] [(.int (0 : Int32)), (.ref x1)])) rfl rfl (hb hby d_jdk_42_m_149_23)
  have F24 := f25.same W24
  refine own_go st24 ?_
  show own_Fin p e below (T24.setTop (mkF m 26 #[vr x1, vr b1, vi (0 : Int32), vi (0 : Int32), vn, uu] [])) _
  have z27 := W24.size
  have K27 := K21.wr W24 (Or.inl (List.mem_of_getElem? (i := 0) rfl))
  have O27 := O21.wr W24 (by omega)
  have CH27 := CH21.trans (CHr.wr W24 f22 CH21.1)
  have N27 := Fr.snoc X24 N19 (by omega)
  have f28 := (f26.wr W24)
  have f29 := ((F16.ext E20).other W24 (Or.inr (slot_ne (Or.inr (hw _ (List.mem_of_getElem? (i := 20) rfl))) (Or.inr (hw _ (List.mem_of_getElem? (i := 21) rfl))) (by decide) (t := (.array .byte)) (t' := .byte) (by decide) (by decide))))
  have f30 := (((V12.other W16 (own_ne (a := sb12) (b := x1) (by omega))).ext E20).other W24 (own_ne (a := sb12) (b := x1) (by omega)))
  obtain ⟨fs, hr, hrun, hended, hRE⟩ := X24.leaveW hS20 (show k20 ≤ T24.heap.size by rw [e24]; omega) (v := none) (fun _ => rfl)
  refine ⟨_, _, X24.returnOut hx Bd.returns (hb hby d_jdk_42_m_149_26) hr, hrun, hended, _, _, rfl, ?_, ?_, hRE.1, hRE.2.1, hRE.2.2.1, hRE.2.2.2.mono (by decide) (by decide)⟩
  · show own_new4e_Q Z x1 b1 v0 c0 h0 n0 none T24.heap _
    rw [e24]
    exact ⟨rfl, N27, K27, sb12, (by omega), ⟨_, _, _, _, f28, f29, F24, f30, Or.inl ⟨rfl, rfl, rfl, by simp⟩, by simp, by simp⟩⟩
  · have hfin := CH27.trans (CHv.at X24 hZ20 hEL CH27.1)
    rw [hh]
    show CHr Z own_EL s.vm h0 T24.vm T24.heap
    rw [e24]
    exact hfin
def own_new1e_Q (Z : State) (x1 b1 : Nat) (v0 c0 : Value) (k1 : ClassId) (h0 : Heap) (n0 : Nat) (v : Option Value) (h : Heap) (L : List Loc) : Prop := v = none ∧ Fr n0 L ∧ Keep h0 h [x1] ∧ ∃ t : Nat, x1 ≠ t ∧ own_Str Z h x1 t []
theorem ef_own_new1e (m : MethodId) (x0 : Nat) (x1 : Nat) : entryFrame m #[(.ref x0), (.ref x1)] 2 = mkF m 0 #[vr x0, vr x1] [] := by first | (simp [entryFrame, mkF, argsToLocals, Value.category]; done) | rfl
theorem d_jdk_42_m_3_0 : decode jdk_42_method_3_code 0 = .ok (.aload_n 0, 1) := by decide +kernel
theorem d_jdk_42_m_3_1 : decode jdk_42_method_3_code 1 = .ok (.aload_n 1, 1) := by decide +kernel
theorem d_jdk_42_m_3_2 : decode jdk_42_method_3_code 2 = .ok (.iconst 0, 1) := by decide +kernel
theorem d_jdk_42_m_3_3 : decode jdk_42_method_3_code 3 = .ok (.aload_n 1, 1) := by decide +kernel
theorem d_jdk_42_m_3_4 : decode jdk_42_method_3_code 4 = .ok (.arraylength, 1) := by decide +kernel
theorem d_jdk_42_m_3_5 : decode jdk_42_method_3_code 5 = .ok (.aconst_null, 1) := by decide +kernel
theorem d_jdk_42_m_3_6 : decode jdk_42_method_3_code 6 = .ok (.invokespecial 27, 3) := by decide +kernel
theorem pd_0 : parseMethodDescriptor "([CIILjava/lang/Void;)V" = some ⟨[(.array .char), .int, .int, (.object "java/lang/Void")], none⟩ := by decide +kernel
theorem d_jdk_42_m_3_9 : decode jdk_42_method_3_code 9 = .ok (.return_, 1) := by decide +kernel
set_option maxRecDepth 65536 in
set_option maxHeartbeats 40000000 in
theorem own_new1e (l : Launch) (Z : State) (a0 : Array Value) (hW : own_W Z a0) (x1 b1 : Nat) (v0 c0 : Value) (k1 : ClassId) (h0 : Heap) (n0 : Nat) (Z0 : n0 ≤ h0.size) (O0 : Old Z n0 h0) (E1 : Exa Z h0 x1 "java/lang/String") (Fv1 : Fld Z h0 x1 "java/lang/String" "value" "[B" v0) (Fc1 : Fld Z h0 x1 "java/lang/String" "coder" "B" c0) (g1 : n0 ≤ x1) (V1 : Arv Z h0 b1 k1 .char (0 : Int32) [] (.int (0 : Int32))) :
    MetFree l (⟨"java/lang/String", "<init>", "([C)V"⟩ : MethodName) (head1 (Jvm.Cond.code (⟨"java/lang/String", "<init>", "([C)V"⟩ : MethodName) jdk_42_method_3_code 2 none :: []) ({ frames := 2, cells := 4, slots := 8, locals := 40 } : Room)) (fun a U => a = #[(.ref x1), (.ref b1)] ∧ Z.Warmed39 U.vm ∧ U.heap = h0 ∧ CHv Z own_EL U.vm h0 ∧ ∀ x ∈ ([x1] : List Addr), Safe Z own_EL U.vm h0 x) (fun _ _ _ _ _ => True) (fun _ U o U' => ∃ v L, o = .returned v ∧ own_new1e_Q Z x1 b1 v0 c0 k1 h0 n0 v U'.heap L ∧ CHr Z own_EL U.vm U.heap U'.vm U'.heap ∧ ReturnedEndW U o U' L ({ frames := 2, cells := 4, slots := 8, locals := 40 } : Room).cells ({ frames := 2, cells := 4, slots := 8, locals := 40 } : Room).slots) := by
  refine MetFree.of_bodySF (plainFor_of_name pn_java_lang_String) hisR ?_
  intro p e s m args below meth c s₁ Bd hml0 hP hK
  obtain ⟨rfl, hZ, hh, hCH, hSf⟩ := hP
  obtain ⟨hw, ⟨G1, O2, P5⟩, ea, Se, Ee, Fe⟩ := id hW
  have hx := Bd.exec
  have hby := Bd.bytes
  have hml : c.maxLocals = 2 := hml0
  have hown : s.vm.findClass "java/lang/String" = some m.cls := findClass_of_methodNamed Bd.named
  have hnm := (name_of_methodNamed Bd.named Bd.method).1
  have X0 : Stand p l e ({ frames := 2, cells := 4, slots := 8, locals := 40 } : Room) (s.setVm s.vm) m #[(.ref x1), (.ref b1)] below meth c s₁ [] 0 0 := Stand.of_body Bd
  have e0 : s₁.heap = h0 := by rw [← hh, Bd.state]; rfl
  have N0 := Fr.nil n0
  have K0 := Keep.refl h0 [x1]
  have hS0 : s.Since s.vm h0.size := (State.WarmedH.refl s).since _
  have CH0 : CHr Z own_EL s.vm h0 s.vm h0 := CHr.refl hCH
  have hEL := own_EW hw
  have hSA := own_SA hw
  have lt1 := own_lt E1.lt
  show own_Fin p e below (s₁.setTop (entryFrame m #[(.ref x1), (.ref b1)] 2)) _
  refine own_gs (castTop (ef_own_new1e m x1 b1) (Steps.refl _)) ?_
  show own_Fin p e below (s₁.setTop (mkF m 0 #[vr x1, vr b1] [])) _
  refine own_gs (cur' := s₁.setTop (mkF m 4 #[vr x1, vr b1] [(.ref b1), (.int (0 : Int32)), (.ref b1), (.ref x1)])) ?_ ?_
  · refine XS.aloadN X0.here hx rfl (hb hby d_jdk_42_m_3_0) rfl rfl ?_
    show Steps p.tables e below (s₁.setTop (mkF m 1 #[vr x1, vr b1] [(.ref x1)])) _
    refine XS.aloadN X0.here hx rfl (hb hby d_jdk_42_m_3_1) rfl rfl ?_
    show Steps p.tables e below (s₁.setTop (mkF m 2 #[vr x1, vr b1] [(.ref b1), (.ref x1)])) _
    refine XS.iconst X0.here hx rfl (hb hby d_jdk_42_m_3_2) ?_
    show Steps p.tables e below (s₁.setTop (mkF m 3 #[vr x1, vr b1] [(.int (0 : Int32)), (.ref b1), (.ref x1)])) _
    refine XS.aloadN X0.here hx rfl (hb hby d_jdk_42_m_3_3) rfl rfl ?_
    exact Steps.refl _
  obtain ⟨cl11, Ar11, q11, S11, M11, Hs11, G11⟩ := id V1
  refine own_go (X0.arraylength hx (by rw [e0]; exact Ar11.1) (State.isArrayOf_alike hZ.alike Ar11.2.1) (g := (mkF m 4 #[vr x1, vr b1] [(.ref b1), (.int (0 : Int32)), (.ref b1), (.ref x1)])) rfl rfl (hb hby d_jdk_42_m_3_4)) ?_
  rw [len_of S11 M11]
  show own_Fin p e below (s₁.setTop (mkF m 5 #[vr x1, vr b1] [(.int (0 : Int32)), (.int (0 : Int32)), (.ref b1), (.ref x1)])) _
  refine own_gs (cur' := s₁.setTop (mkF m 6 #[vr x1, vr b1] [.null, (.int (0 : Int32)), (.int (0 : Int32)), (.ref b1), (.ref x1)])) ?_ ?_
  · refine XS.aconstNull X0.here hx rfl (hb hby d_jdk_42_m_3_5) ?_
    exact Steps.refl _
  obtain ⟨_, _, ⟨T12, L12, k12, n12⟩, -, Xw12, hSw12, hgw12, ⟨Lc12, hQ12, l12, y12, z12, hC12⟩, st12⟩ := X0.specialBackS hx (y := (⟨"java/lang/String", "<init>", "([CIILjava/lang/Void;)V"⟩ : MethodName)) rfl hown (mvT hZ (hw _ (List.mem_of_getElem? (i := 11) rfl))) (mvT hZ (hw _ (List.mem_of_getElem? (i := 12) rfl))) (mvT hZ (hw _ (List.mem_of_getElem? (i := 14) rfl))) (by decide) (own_backS (W := 0) (own_new4e l Z a0 hW x1 b1 v0 c0 h0 n0 (by omega) O0 E1 Fv1 Fc1 g1) hZ (hw _ (List.mem_of_getElem? (i := 14) rfl)) (hw _ (List.mem_of_getElem? (i := 6) rfl)) (by decide) (by decide) hEL CH0.1 (allS ⟨(hSf _ (List.mem_of_getElem? (i := 0) rfl)), own_lt (by omega)⟩ all0)) (g := (mkF m 6 #[vr x1, vr b1] [.null, (.int (0 : Int32)), (.int (0 : Int32)), (.ref b1), (.ref x1)])) rfl (by rw [hml]; rfl) (Steps.refl _) (a := x1) (argsL := [(.ref b1), (.int (0 : Int32)), (.int (0 : Int32)), .null]) (rest := []) (lenOf pd_0 rfl) rfl (by show 2 * 0 + _ ≤ _; exact Nat.le_of_eq rfl) (hb hby d_jdk_42_m_3_6) (fun _ _ => ⟨rfl, e0, (by decide : 0 + 4 ≤ 4), (by decide : 0 + 8 ≤ 8)⟩)
  dsimp only [Pt.U, Pt.locs, Pt.cells, Pt.slots] at Xw12 hSw12 hgw12 hC12 l12 y12 z12 st12 hQ12
  subst l12 y12 z12
  obtain ⟨X12, hS12, hZ12, hown12⟩ := rebS hS0 (show h0.size ≤ s₁.heap.size by rw [e0]; omega) Xw12 hSw12 hgw12 hZ hown
  obtain ⟨rfl, Nq12, Kq12, tq, hne, F12⟩ := hQ12
  have N12 := Fr.app N0 Nq12
  have z13 := Kq12.1
  have K13 := K0.trans Kq12 (allS (Or.inl (List.mem_of_getElem? (i := 0) rfl)) all0)
  have O13 := O0.keep Kq12 (allS (by omega) all0)
  have CH13 := CH0.trans hC12
  refine own_gs st12 ?_
  show own_Fin p e below (T12.setTop (mkF m 9 #[vr x1, vr b1] [])) _
  obtain ⟨fs, hr, hrun, hended, hRE⟩ := X12.leaveW hS12 (show T12.heap.size ≤ T12.heap.size by omega) (v := none) (fun _ => rfl)
  refine ⟨_, _, X12.returnOut hx Bd.returns (hb hby d_jdk_42_m_3_9) hr, hrun, hended, _, _, rfl, ?_, ?_, hRE.1, hRE.2.1, hRE.2.2.1, hRE.2.2.2.mono (by decide) (by decide)⟩
  · show own_new1e_Q Z x1 b1 v0 c0 k1 h0 n0 none T12.heap _
    exact ⟨rfl, N12, K13, tq, hne, F12⟩
  · have hfin := CH13.trans (CHv.at X12 hZ12 hEL CH13.1)
    rw [hh]
    show CHr Z own_EL s.vm h0 T12.vm T12.heap
    exact hfin
def own_make0_Q (Z : State) (c0 c1 c2 : Int32) (h0 : Heap) (n0 : Nat) (v : Option Value) (h : Heap) (L : List Loc) : Prop := ∃ a t : Nat, v = some (.ref a) ∧ Fr n0 L ∧ Keep h0 h [] ∧ own_Str Z h a t [] ∧ h0.size ≤ a
theorem pn_com_example_mandatum_mandatum_service_ExchangedOfIdTokenPinLaw : plainName "com/example/mandatum/mandatum/service/ExchangedOfIdTokenPinLaw" = true := by first | (simp [plainName, overriddenIn]; done) | decide +kernel
theorem ef_own_make0 (m : MethodId) (x0 : Int32) (x1 : Int32) (x2 : Int32) (x3 : Int32) : entryFrame m #[(.int x0), (.int x1), (.int x2), (.int x3)] 5 = mkF m 0 #[vi x0, vi x1, vi x2, vi x3, .unset] [] := by first | (simp [entryFrame, mkF, argsToLocals, Value.category]; done) | rfl
theorem d_m_2_0 : decode method_2_code 0 = .ok (.iload_n 0, 1) := by decide +kernel
theorem d_m_2_1 : decode method_2_code 1 = .ok (.ifCond .ne 14, 3) := by decide +kernel
theorem d_m_2_4 : decode method_2_code 4 = .ok (.new 7, 3) := by decide +kernel
theorem d_m_2_7 : decode method_2_code 7 = .ok (.dup, 1) := by decide +kernel
theorem d_m_2_8 : decode method_2_code 8 = .ok (.iconst 0, 1) := by decide +kernel
theorem d_m_2_9 : decode method_2_code 9 = .ok (.newarray .char, 2) := by decide +kernel
theorem d_m_2_11 : decode method_2_code 11 = .ok (.invokespecial 9, 3) := by decide +kernel
theorem pd_1 : parseMethodDescriptor "([C)V" = some ⟨[(.array .char)], none⟩ := by decide +kernel
theorem d_m_2_14 : decode method_2_code 14 = .ok (.areturn, 1) := by decide +kernel
set_option maxRecDepth 65536 in
set_option maxHeartbeats 40000000 in
theorem own_make0 (l : Launch) (Z : State) (a0 : Array Value) (hW : own_W Z a0) (c0 c1 c2 : Int32) (h0 : Heap) (n0 : Nat) (Z0 : n0 ≤ h0.size) (O0 : Old Z n0 h0) (hc0 : ¬ c0 < 0 ∧ ¬ (255 : Int32) < c0) (hc1 : ¬ c1 < 0 ∧ ¬ (255 : Int32) < c1) (hc2 : ¬ c2 < 0 ∧ ¬ (255 : Int32) < c2) :
    MetFree l (⟨"com/example/mandatum/mandatum/service/ExchangedOfIdTokenPinLaw", "make", "(ICCC)Ljava/lang/String;"⟩ : MethodName) (head1 (Jvm.Cond.code (⟨"com/example/mandatum/mandatum/service/ExchangedOfIdTokenPinLaw", "make", "(ICCC)Ljava/lang/String;"⟩ : MethodName) method_2_code 5 (some (.object "java/lang/String")) :: []) ({ frames := 4, cells := 8, slots := 24, locals := 80 } : Room)) (fun a U => a = #[(.int (0 : Int32)), (.int c0), (.int c1), (.int c2)] ∧ Z.Warmed39 U.vm ∧ U.heap = h0 ∧ CHv Z own_EL U.vm h0 ∧ ∀ x ∈ ([] : List Addr), Safe Z own_EL U.vm h0 x) (fun _ _ _ _ _ => True) (fun _ U o U' => ∃ v L, o = .returned v ∧ own_make0_Q Z c0 c1 c2 h0 n0 v U'.heap L ∧ CHr Z own_EL U.vm U.heap U'.vm U'.heap ∧ ReturnedEndW U o U' L ({ frames := 4, cells := 8, slots := 24, locals := 80 } : Room).cells ({ frames := 4, cells := 8, slots := 24, locals := 80 } : Room).slots) := by
  refine MetFree.of_bodySF (plainFor_of_name pn_com_example_mandatum_mandatum_service_ExchangedOfIdTokenPinLaw) hisR ?_
  intro p e s m args below meth c s₁ Bd hml0 hP hK
  obtain ⟨rfl, hZ, hh, hCH, hSf⟩ := hP
  obtain ⟨hw, ⟨G1, O2, P5⟩, ea, Se, Ee, Fe⟩ := id hW
  have hx := Bd.exec
  have hby := Bd.bytes
  have hml : c.maxLocals = 5 := hml0
  have hown : s.vm.findClass "com/example/mandatum/mandatum/service/ExchangedOfIdTokenPinLaw" = some m.cls := findClass_of_methodNamed Bd.named
  have hnm := (name_of_methodNamed Bd.named Bd.method).1
  have X0 : Stand p l e ({ frames := 4, cells := 8, slots := 24, locals := 80 } : Room) (s.setVm s.vm) m #[(.int (0 : Int32)), (.int c0), (.int c1), (.int c2)] below meth c s₁ [] 0 0 := Stand.of_body Bd
  have e0 : s₁.heap = h0 := by rw [← hh, Bd.state]; rfl
  have N0 := Fr.nil n0
  have K0 := Keep.refl h0 []
  have hS0 : s.Since s.vm h0.size := (State.WarmedH.refl s).since _
  have CH0 : CHr Z own_EL s.vm h0 s.vm h0 := CHr.refl hCH
  have hEL := own_EW hw
  have hSA := own_SA hw
  show own_Fin p e below (s₁.setTop (entryFrame m #[(.int (0 : Int32)), (.int c0), (.int c1), (.int c2)] 5)) _
  refine own_gs (castTop (ef_own_make0 m (0 : Int32) c0 c1 c2) (Steps.refl _)) ?_
  show own_Fin p e below (s₁.setTop (mkF m 0 #[vi (0 : Int32), vi c0, vi c1, vi c2, uu] [])) _
  refine own_gs (cur' := s₁.setTop (mkF m 4 #[vi (0 : Int32), vi c0, vi c1, vi c2, uu] [])) ?_ ?_
  · refine XS.iloadN X0.here hx rfl (hb hby d_m_2_0) rfl ?_
    show Steps p.tables e below (s₁.setTop (mkF m 1 #[vi (0 : Int32), vi c0, vi c1, vi c2, uu] [(.int (0 : Int32))])) _
    refine XS.ifNo X0.here hx rfl (hb hby d_m_2_1) rfl ((if0 _ _).trans (teq ((by decide) : (0 : Int32) = (0 : Int32))).2) ?_
    exact Steps.refl _
  obtain ⟨T11, h11, X11, e11, E11, A11, D11, -, st11⟩ := newO X0 hx hZ hown (hw _ (List.mem_of_getElem? (i := 4) rfl)) (hw _ (List.mem_of_getElem? (i := 5) rfl)) (hw _ (List.mem_of_getElem? (i := 6) rfl)) e0 (g := (mkF m 4 #[vi (0 : Int32), vi c0, vi c1, vi c2, uu] [])) rfl (hb hby d_m_2_4) (by decide) (by decide)
  obtain ⟨b11, g11⟩ : ∃ z, z = h0.size := ⟨_, rfl⟩
  rw [← g11] at A11 D11 st11
  have lt11 := own_lt A11.lt
  refine own_go st11 ?_
  show own_Fin p e below (T11.setTop (mkF m 7 #[vi (0 : Int32), vi c0, vi c1, vi c2, uu] [(.ref b11)])) _
  have z12 := E11.1
  have K12 := K0.ext E11
  have O12 := O0.ext E11
  have CH12 := CH0.trans (CHr.ext E11 CH0.1)
  have F11_value : Fld Z h11 b11 "java/lang/String" "value" "[B" .null := D11 (Or.inr (hw _ (List.mem_of_getElem? (i := 20) rfl))) (ty := (.array .byte)) (by decide)
  have F11_coder : Fld Z h11 b11 "java/lang/String" "coder" "B" (.int (0 : Int32)) := D11 (Or.inr (hw _ (List.mem_of_getElem? (i := 21) rfl))) (ty := .byte) (by decide)
  have Sf11 := Safe.ext E11 CH0.1 (Safe.new (by omega : h0.size ≤ b11))
  refine own_gs (cur' := T11.setTop (mkF m 9 #[vi (0 : Int32), vi c0, vi c1, vi c2, uu] [(.int (0 : Int32)), (.ref b11), (.ref b11)])) ?_ ?_
  · refine XS.dup X11.here hx rfl (hb hby d_m_2_7) rfl rfl ?_
    show Steps p.tables e below (T11.setTop (mkF m 8 #[vi (0 : Int32), vi c0, vi c1, vi c2, uu] [(.ref b11), (.ref b11)])) _
    refine XS.iconst X11.here hx rfl (hb hby d_m_2_8) ?_
    exact Steps.refl _
  obtain ⟨T13, h13, k13, X13, e13, E13, A13, st13⟩ := newP X11 hx hZ (hw _ (List.mem_of_getElem? (i := 7) rfl)) e11 (g := (mkF m 9 #[vi (0 : Int32), vi c0, vi c1, vi c2, uu] [(.int (0 : Int32)), (.ref b11), (.ref b11)])) rfl (hb hby d_m_2_9) rfl (by decide) (cap := 0) (by decide) (by decide) (by decide) (by decide)
  obtain ⟨b13, g13⟩ : ∃ z, z = h11.size := ⟨_, rfl⟩
  rw [← g13] at A13 st13
  have lt13 := own_lt A13.lt
  refine own_go st13 ?_
  show own_Fin p e below (T13.setTop (mkF m 11 #[vi (0 : Int32), vi c0, vi c1, vi c2, uu] [(.ref b13), (.ref b11), (.ref b11)])) _
  have z14 := E13.1
  have K14 := K12.ext E13
  have O14 := O12.ext E13
  have CH14 := CH12.trans (CHr.ext E13 CH12.1)
  have V13 : Arv Z h13 b13 k13 .char (0 : Int32) [] (.int (0 : Int32)) := Arv.new A13 (by decide)
  have f15 := (A11.ext E13)
  have f16 := (F11_value.ext E13)
  have f17 := (F11_coder.ext E13)
  have f19 := (Safe.ext E13 CH12.1 Sf11)
  obtain ⟨_, _, ⟨T18, L18, k18, n18⟩, -, Xw18, hSw18, hgw18, ⟨Lc18, hQ18, l18, y18, z18, hC18⟩, st18⟩ := X13.specialBackS hx (y := (⟨"java/lang/String", "<init>", "([C)V"⟩ : MethodName)) rfl hown (mvT hZ (hw _ (List.mem_of_getElem? (i := 8) rfl))) (mvT hZ (hw _ (List.mem_of_getElem? (i := 9) rfl))) (mvT hZ (hw _ (List.mem_of_getElem? (i := 10) rfl))) (by decide) (own_backS (W := 1) (own_new1e l Z a0 hW b11 b13 .null (.int (0 : Int32)) k13 h13 n0 (by omega) O14 f15 f16 f17 (by omega) V13) hZ (hw _ (List.mem_of_getElem? (i := 10) rfl)) (hw _ (List.mem_of_getElem? (i := 6) rfl)) (by decide) (by decide) hEL CH14.1 (allS ⟨f19, own_lt (by omega)⟩ all0)) (g := (mkF m 11 #[vi (0 : Int32), vi c0, vi c1, vi c2, uu] [(.ref b13), (.ref b11), (.ref b11)])) rfl (by rw [hml]; rfl) (Steps.refl _) (a := b11) (argsL := [(.ref b13)]) (rest := [(.ref b11)]) (lenOf pd_1 rfl) rfl (by show 2 * 0 + _ ≤ _; exact Nat.le_of_eq rfl) (hb hby d_m_2_11) (fun _ _ => ⟨rfl, e13, (by decide : 2 + 4 ≤ 8), (by decide : 4 + 8 ≤ 24)⟩)
  dsimp only [Pt.U, Pt.locs, Pt.cells, Pt.slots] at Xw18 hSw18 hgw18 hC18 l18 y18 z18 st18 hQ18
  subst l18 y18 z18
  obtain ⟨X18, hS18, hZ18, hown18⟩ := rebS hS0 (show h0.size ≤ T13.heap.size by rw [e13]; omega) Xw18 hSw18 hgw18 hZ hown
  obtain ⟨rfl, Nq18, Kq18, t18, hne18, F18⟩ := hQ18
  have N18 := Fr.app N0 Nq18
  have z20 := Kq18.1
  have K20 := K14.trans Kq18 (allS (Or.inr (by omega)) all0)
  have O20 := O14.keep Kq18 (allS (by omega) all0)
  have CH20 := CH14.trans hC18
  have lt18 := F18.lt
  refine own_gs st18 ?_
  show own_Fin p e below (T18.setTop (mkF m 14 #[vi (0 : Int32), vi c0, vi c1, vi c2, uu] [(.ref b11)])) _
  obtain ⟨fs, hr, hrun, hended, hRE⟩ := X18.leaveW hS18 (show T18.heap.size ≤ T18.heap.size by omega) (v := (some (.ref b11))) (fun h => by rw [Bd.returns] at h; cases h)
  refine ⟨_, _, X18.areturnOut hx rfl Bd.returns rfl (hb hby d_m_2_14) hr, hrun, hended, _, _, rfl, ?_, ?_, hRE.1, hRE.2.1, hRE.2.2.1, hRE.2.2.2.mono (by decide) (by decide)⟩
  · show own_make0_Q Z c0 c1 c2 h0 n0 (some (.ref b11)) T18.heap _
    exact ⟨_, _, rfl, N18, K20, F18, (by omega)⟩
  · have hfin := CH20.trans (CHv.at X18 hZ18 hEL CH20.1)
    rw [hh]
    show CHr Z own_EL s.vm h0 T18.vm T18.heap
    exact hfin
def own_make1_Q (Z : State) (c0 c1 c2 : Int32) (h0 : Heap) (n0 : Nat) (v : Option Value) (h : Heap) (L : List Loc) : Prop := ∃ a t : Nat, v = some (.ref a) ∧ Fr n0 L ∧ Keep h0 h [] ∧ own_Str Z h a t [c0] ∧ h0.size ≤ a
theorem ef_own_make1 (m : MethodId) (x0 : Int32) (x1 : Int32) (x2 : Int32) (x3 : Int32) : entryFrame m #[(.int x0), (.int x1), (.int x2), (.int x3)] 5 = mkF m 0 #[vi x0, vi x1, vi x2, vi x3, .unset] [] := by first | (simp [entryFrame, mkF, argsToLocals, Value.category]; done) | rfl
theorem d_m_2_15 : decode method_2_code 15 = .ok (.iload_n 0, 1) := by decide +kernel
theorem d_m_2_16 : decode method_2_code 16 = .ok (.iconst 1, 1) := by decide +kernel
theorem d_m_2_17 : decode method_2_code 17 = .ok (.if_icmp .ne 23, 3) := by decide +kernel
theorem d_m_2_20 : decode method_2_code 20 = .ok (.iconst 1, 1) := by decide +kernel
theorem d_m_2_21 : decode method_2_code 21 = .ok (.newarray .char, 2) := by decide +kernel
theorem d_m_2_23 : decode method_2_code 23 = .ok (.astore 4, 2) := by decide +kernel
theorem d_m_2_25 : decode method_2_code 25 = .ok (.aload 4, 2) := by decide +kernel
theorem d_m_2_27 : decode method_2_code 27 = .ok (.iconst 0, 1) := by decide +kernel
theorem d_m_2_28 : decode method_2_code 28 = .ok (.iload_n 1, 1) := by decide +kernel
theorem d_m_2_29 : decode method_2_code 29 = .ok (.castore, 1) := by decide +kernel
theorem d_m_2_30 : decode method_2_code 30 = .ok (.new 7, 3) := by decide +kernel
theorem d_m_2_33 : decode method_2_code 33 = .ok (.dup, 1) := by decide +kernel
theorem d_m_2_34 : decode method_2_code 34 = .ok (.aload 4, 2) := by decide +kernel
theorem d_m_2_36 : decode method_2_code 36 = .ok (.invokespecial 9, 3) := by decide +kernel
theorem d_m_2_39 : decode method_2_code 39 = .ok (.areturn, 1) := by decide +kernel
set_option maxRecDepth 65536 in
set_option maxHeartbeats 40000000 in
theorem own_make1 (l : Launch) (Z : State) (a0 : Array Value) (hW : own_W Z a0) (c0 c1 c2 : Int32) (h0 : Heap) (n0 : Nat) (Z0 : n0 ≤ h0.size) (O0 : Old Z n0 h0) (hc0 : ¬ c0 < 0 ∧ ¬ (255 : Int32) < c0) (hc1 : ¬ c1 < 0 ∧ ¬ (255 : Int32) < c1) (hc2 : ¬ c2 < 0 ∧ ¬ (255 : Int32) < c2) :
    MetFree l (⟨"com/example/mandatum/mandatum/service/ExchangedOfIdTokenPinLaw", "make", "(ICCC)Ljava/lang/String;"⟩ : MethodName) (head1 (Jvm.Cond.code (⟨"com/example/mandatum/mandatum/service/ExchangedOfIdTokenPinLaw", "make", "(ICCC)Ljava/lang/String;"⟩ : MethodName) method_2_code 5 (some (.object "java/lang/String")) :: []) ({ frames := 4, cells := 8, slots := 24, locals := 80 } : Room)) (fun a U => a = #[(.int (1 : Int32)), (.int c0), (.int c1), (.int c2)] ∧ Z.Warmed39 U.vm ∧ U.heap = h0 ∧ CHv Z own_EL U.vm h0 ∧ ∀ x ∈ ([] : List Addr), Safe Z own_EL U.vm h0 x) (fun _ _ _ _ _ => True) (fun _ U o U' => ∃ v L, o = .returned v ∧ own_make1_Q Z c0 c1 c2 h0 n0 v U'.heap L ∧ CHr Z own_EL U.vm U.heap U'.vm U'.heap ∧ ReturnedEndW U o U' L ({ frames := 4, cells := 8, slots := 24, locals := 80 } : Room).cells ({ frames := 4, cells := 8, slots := 24, locals := 80 } : Room).slots) := by
  refine MetFree.of_bodySF (plainFor_of_name pn_com_example_mandatum_mandatum_service_ExchangedOfIdTokenPinLaw) hisR ?_
  intro p e s m args below meth c s₁ Bd hml0 hP hK
  obtain ⟨rfl, hZ, hh, hCH, hSf⟩ := hP
  obtain ⟨hw, ⟨G1, O2, P5⟩, ea, Se, Ee, Fe⟩ := id hW
  have hx := Bd.exec
  have hby := Bd.bytes
  have hml : c.maxLocals = 5 := hml0
  have hown : s.vm.findClass "com/example/mandatum/mandatum/service/ExchangedOfIdTokenPinLaw" = some m.cls := findClass_of_methodNamed Bd.named
  have hnm := (name_of_methodNamed Bd.named Bd.method).1
  have X0 : Stand p l e ({ frames := 4, cells := 8, slots := 24, locals := 80 } : Room) (s.setVm s.vm) m #[(.int (1 : Int32)), (.int c0), (.int c1), (.int c2)] below meth c s₁ [] 0 0 := Stand.of_body Bd
  have e0 : s₁.heap = h0 := by rw [← hh, Bd.state]; rfl
  have N0 := Fr.nil n0
  have K0 := Keep.refl h0 []
  have hS0 : s.Since s.vm h0.size := (State.WarmedH.refl s).since _
  have CH0 : CHr Z own_EL s.vm h0 s.vm h0 := CHr.refl hCH
  have hEL := own_EW hw
  have hSA := own_SA hw
  show own_Fin p e below (s₁.setTop (entryFrame m #[(.int (1 : Int32)), (.int c0), (.int c1), (.int c2)] 5)) _
  refine own_gs (castTop (ef_own_make1 m (1 : Int32) c0 c1 c2) (Steps.refl _)) ?_
  show own_Fin p e below (s₁.setTop (mkF m 0 #[vi (1 : Int32), vi c0, vi c1, vi c2, uu] [])) _
  refine own_gs (cur' := s₁.setTop (mkF m 21 #[vi (1 : Int32), vi c0, vi c1, vi c2, uu] [(.int (1 : Int32))])) ?_ ?_
  · refine XS.iloadN X0.here hx rfl (hb hby d_m_2_0) rfl ?_
    show Steps p.tables e below (s₁.setTop (mkF m 1 #[vi (1 : Int32), vi c0, vi c1, vi c2, uu] [(.int (1 : Int32))])) _
    refine XS.ifYes X0.here hx rfl (pc0 := 1) (pc' := 15) rfl (hb hby d_m_2_1) rfl ((if0 _ _).trans (feq ((by decide) : ¬ ((1 : Int32) = (0 : Int32)))).2) (by decide) (by decide) ?_
    show Steps p.tables e below (s₁.setTop (mkF m 15 #[vi (1 : Int32), vi c0, vi c1, vi c2, uu] [])) _
    refine XS.iloadN X0.here hx rfl (hb hby d_m_2_15) rfl ?_
    show Steps p.tables e below (s₁.setTop (mkF m 16 #[vi (1 : Int32), vi c0, vi c1, vi c2, uu] [(.int (1 : Int32))])) _
    refine XS.iconst X0.here hx rfl (hb hby d_m_2_16) ?_
    show Steps p.tables e below (s₁.setTop (mkF m 17 #[vi (1 : Int32), vi c0, vi c1, vi c2, uu] [(.int (1 : Int32)), (.int (1 : Int32))])) _
    refine XS.icmpNo X0.here hx rfl (hb hby d_m_2_17) rfl (teq ((by decide) : (1 : Int32) = (1 : Int32))).2 ?_
    show Steps p.tables e below (s₁.setTop (mkF m 20 #[vi (1 : Int32), vi c0, vi c1, vi c2, uu] [])) _
    refine XS.iconst X0.here hx rfl (hb hby d_m_2_20) ?_
    exact Steps.refl _
  obtain ⟨T11, h11, k11, X11, e11, E11, A11, st11⟩ := newP X0 hx hZ (hw _ (List.mem_of_getElem? (i := 7) rfl)) e0 (g := (mkF m 21 #[vi (1 : Int32), vi c0, vi c1, vi c2, uu] [(.int (1 : Int32))])) rfl (hb hby d_m_2_21) rfl (by decide) (cap := 1) (by decide) (by decide) (by decide) (by decide)
  obtain ⟨b11, g11⟩ : ∃ z, z = h0.size := ⟨_, rfl⟩
  rw [← g11] at A11 st11
  have lt11 := own_lt A11.lt
  refine own_go st11 ?_
  show own_Fin p e below (T11.setTop (mkF m 23 #[vi (1 : Int32), vi c0, vi c1, vi c2, uu] [(.ref b11)])) _
  have z12 := E11.1
  have K12 := K0.ext E11
  have O12 := O0.ext E11
  have CH12 := CH0.trans (CHr.ext E11 CH0.1)
  have V11 : Arv Z h11 b11 k11 .char (1 : Int32) [(.int (0 : Int32))] (.int (0 : Int32)) := (Arv.new A11 (by decide)).pad (pad_rep [] (.int (0 : Int32)) 1)
  refine own_gs (cur' := T11.setTop (mkF m 29 #[vi (1 : Int32), vi c0, vi c1, vi c2, vr b11] [(.int c0), (.int (0 : Int32)), (.ref b11)])) ?_ ?_
  · refine XS.astore X11.here hx rfl (hb hby d_m_2_23) rfl rfl (l' := #[vi (1 : Int32), vi c0, vi c1, vi c2, vr b11]) rfl ?_
    show Steps p.tables e below (T11.setTop (mkF m 25 #[vi (1 : Int32), vi c0, vi c1, vi c2, vr b11] [])) _
    refine XS.aload X11.here hx rfl (hb hby d_m_2_25) rfl rfl ?_
    show Steps p.tables e below (T11.setTop (mkF m 27 #[vi (1 : Int32), vi c0, vi c1, vi c2, vr b11] [(.ref b11)])) _
    refine XS.iconst X11.here hx rfl (hb hby d_m_2_27) ?_
    show Steps p.tables e below (T11.setTop (mkF m 28 #[vi (1 : Int32), vi c0, vi c1, vi c2, vr b11] [(.int (0 : Int32)), (.ref b11)])) _
    refine XS.iloadN X11.here hx rfl (hb hby d_m_2_28) rfl ?_
    exact Steps.refl _
  obtain ⟨_, Ar14, -⟩ := id V11
  obtain ⟨cl13, Ar13, q13, S13, M13, Hs13, G13⟩ := id V11
  have hin13 : ¬ ((0 : Int32) < 0 ∨ cl13.slots.size ≤ ((0 : Int32)).toNatClampNeg) := inb_of S13 ⟨by decide, by decide⟩
  obtain ⟨T13, h13, X13, e13, W13, st13⟩ := stC X11 hx hZ e11 Ar13 (j := (0 : Int32)) hin13 (g := (mkF m 29 #[vi (1 : Int32), vi c0, vi c1, vi c2, vr b11] [(.int c0), (.int (0 : Int32)), (.ref b11)])) rfl rfl (hb hby d_m_2_29)
  have V13 := Arv.set Ar13 q13 S13 M13 Hs13 G13 (fits_nar_char _) W13 0 rfl (Nat.le_of_ble_eq_true rfl)
  refine own_go st13 ?_
  show own_Fin p e below (T13.setTop (mkF m 30 #[vi (1 : Int32), vi c0, vi c1, vi c2, vr b11] [])) _
  have z15 := W13.size
  have K15 := K12.wr W13 (Or.inr (by omega))
  have O15 := O12.wr W13 (by omega)
  have CH15 := CH12.trans (CHr.wr W13 (Safe.arr hZ.alike Ar14 (by decide)) CH12.1)
  have N15 := Fr.snoc X13 N0 (by omega)
  obtain ⟨T16, h16, X16, e16, E16, A16, D16, -, st16⟩ := newO X13 hx hZ hown (hw _ (List.mem_of_getElem? (i := 4) rfl)) (hw _ (List.mem_of_getElem? (i := 5) rfl)) (hw _ (List.mem_of_getElem? (i := 6) rfl)) e13 (g := (mkF m 30 #[vi (1 : Int32), vi c0, vi c1, vi c2, vr b11] [])) rfl (hb hby d_m_2_30) (by decide) (by decide)
  obtain ⟨b16, g16⟩ : ∃ z, z = h13.size := ⟨_, rfl⟩
  rw [← g16] at A16 D16 st16
  have lt16 := own_lt A16.lt
  refine own_go st16 ?_
  show own_Fin p e below (T16.setTop (mkF m 33 #[vi (1 : Int32), vi c0, vi c1, vi c2, vr b11] [(.ref b16)])) _
  have z17 := E16.1
  have K17 := K15.ext E16
  have O17 := O15.ext E16
  have CH17 := CH15.trans (CHr.ext E16 CH15.1)
  have F16_value : Fld Z h16 b16 "java/lang/String" "value" "[B" .null := D16 (Or.inr (hw _ (List.mem_of_getElem? (i := 20) rfl))) (ty := (.array .byte)) (by decide)
  have F16_coder : Fld Z h16 b16 "java/lang/String" "coder" "B" (.int (0 : Int32)) := D16 (Or.inr (hw _ (List.mem_of_getElem? (i := 21) rfl))) (ty := .byte) (by decide)
  have Sf16 := Safe.ext E16 CH15.1 (Safe.new (by omega : h13.size ≤ b16))
  have f18 := (V13.ext E16)
  have hws19 : ∀ d ∈ StrChars.Road.words, d.before a0 Z = true := fun d hd => hw d ((by decide +kernel : ∀ d ∈ StrChars.Road.words, d ∈ tables_1) d hd)
  have hp19 : ∀ c ∈ ([(nar .char c0)] : List Int32), ¬ c < 0 ∧ ¬ (255 : Int32) < c := by
    intro c hc
    simp only [List.mem_cons, List.not_mem_nil, or_false] at hc
    rcases hc with rfl
    · rw [own_nar hc0.1 (own_up hc0.2)]; exact hc0
  refine own_gs (cur' := T16.setTop (mkF m 36 #[vi (1 : Int32), vi c0, vi c1, vi c2, vr b11] [(.ref b11), (.ref b16), (.ref b16)])) ?_ ?_
  · refine XS.dup X16.here hx rfl (hb hby d_m_2_33) rfl rfl ?_
    show Steps p.tables e below (T16.setTop (mkF m 34 #[vi (1 : Int32), vi c0, vi c1, vi c2, vr b11] [(.ref b16), (.ref b16)])) _
    refine XS.aload X16.here hx rfl (hb hby d_m_2_34) rfl rfl ?_
    exact Steps.refl _
  obtain ⟨_, _, ⟨T20, L20, k20, n20⟩, -, X20, ⟨Lc20, hQ20, l20, y20, z20⟩, st20⟩ := X16.specialBack hx (y := (⟨"java/lang/String", "<init>", "([C)V"⟩ : MethodName)) rfl hown (mvT hZ (hw _ (List.mem_of_getElem? (i := 8) rfl))) (mvT hZ (hw _ (List.mem_of_getElem? (i := 9) rfl))) (mvT hZ (hw _ (List.mem_of_getElem? (i := 10) rfl))) (by decide) (StrChars.Road.backV (W := 1) hZ hws19 (kI := 4) (hw _ (List.mem_of_getElem? (i := 5) rfl)) (cs := ([(nar .char c0)] : List Int32)) (bs := ([(nar .char c0)] : List Int32).map (fun c => c.toInt8.toInt32)) (n := 1) (n0 := n0) (by omega) (by omega) A16 F16_value F16_coder f18 (O2.ext O17.2) P5 rfl rfl (by decide) (by decide) hp19 rfl (by decide) (by decide)) (g := (mkF m 36 #[vi (1 : Int32), vi c0, vi c1, vi c2, vr b11] [(.ref b11), (.ref b16), (.ref b16)])) rfl (by rw [hml]; rfl) (Steps.refl _) (a := b16) (argsL := [(.ref b11)]) (rest := [(.ref b16)]) (lenOf pd_1 rfl) rfl (by show 2 * 0 + _ ≤ _; exact Nat.le_of_eq rfl) (hb hby d_m_2_36) (fun _ _ => ⟨rfl, e16, (by decide : 2 + 1 ≤ 8), (by decide : 5 + 1 ≤ 24)⟩)
  dsimp only [Pt.U, Pt.locs, Pt.cells, Pt.slots] at X20 l20 y20 z20 st20 hQ20
  subst l20 y20 z20
  obtain ⟨rfl, Nq20, Kq20, g20a, g20b, t20, k20, u20, v20, w20, g20c, g20d⟩ := hQ20
  have N20 := Fr.app N15 Nq20
  have z21 := Kq20.1
  have K21 := K17.trans Kq20 (allS (Or.inr (by omega)) all0)
  have O21 := O17.keep Kq20 (allS (by omega) all0)
  have CH21 := CH17.trans (CHr.keep Kq20 (allS Sf16 all0) CH17.1)
  have F20 : own_Str Z T20.heap b16 t20 ([(nar .char c0)] : List Int32) := ⟨_, _, _, _, g20a, g20c, g20b, g20d, StrChars.Road.codOf rfl (fun c hc => (hp19 c hc).2), fun c hc => ⟨(hp19 c hc).1, own_up (hp19 c hc).2⟩, Nat.le_of_ble_eq_true rfl⟩
  have lt20 := F20.lt
  refine own_gs st20 ?_
  show own_Fin p e below (T20.setTop (mkF m 39 #[vi (1 : Int32), vi c0, vi c1, vi c2, vr b11] [(.ref b16)])) _
  have Ff := F20
  rw [own_nar hc0.1 (own_up hc0.2)] at Ff
  obtain ⟨fs, hr, hrun, hended, hRE⟩ := X20.leaveW hS0 (show h0.size ≤ T20.heap.size by omega) (v := (some (.ref b16))) (fun h => by rw [Bd.returns] at h; cases h)
  refine ⟨_, _, X20.areturnOut hx rfl Bd.returns rfl (hb hby d_m_2_39) hr, hrun, hended, _, _, rfl, ?_, ?_, hRE.1, hRE.2.1, hRE.2.2.1, hRE.2.2.2.mono (by decide) (by decide)⟩
  · show own_make1_Q Z c0 c1 c2 h0 n0 (some (.ref b16)) T20.heap _
    exact ⟨_, _, rfl, N20, K21, Ff, (by omega)⟩
  · have hfin := CH21.trans (CHv.at X20 hZ hEL CH21.1)
    rw [hh]
    show CHr Z own_EL s.vm h0 T20.vm T20.heap
    exact hfin
def own_make2_Q (Z : State) (c0 c1 c2 : Int32) (h0 : Heap) (n0 : Nat) (v : Option Value) (h : Heap) (L : List Loc) : Prop := ∃ a t : Nat, v = some (.ref a) ∧ Fr n0 L ∧ Keep h0 h [] ∧ own_Str Z h a t [c0, c1] ∧ h0.size ≤ a
theorem ef_own_make2 (m : MethodId) (x0 : Int32) (x1 : Int32) (x2 : Int32) (x3 : Int32) : entryFrame m #[(.int x0), (.int x1), (.int x2), (.int x3)] 5 = mkF m 0 #[vi x0, vi x1, vi x2, vi x3, .unset] [] := by first | (simp [entryFrame, mkF, argsToLocals, Value.category]; done) | rfl
theorem d_m_2_40 : decode method_2_code 40 = .ok (.iload_n 0, 1) := by decide +kernel
theorem d_m_2_41 : decode method_2_code 41 = .ok (.iconst 2, 1) := by decide +kernel
theorem d_m_2_42 : decode method_2_code 42 = .ok (.if_icmp .ne 28, 3) := by decide +kernel
theorem d_m_2_45 : decode method_2_code 45 = .ok (.iconst 2, 1) := by decide +kernel
theorem d_m_2_46 : decode method_2_code 46 = .ok (.newarray .char, 2) := by decide +kernel
theorem d_m_2_48 : decode method_2_code 48 = .ok (.astore 4, 2) := by decide +kernel
theorem d_m_2_50 : decode method_2_code 50 = .ok (.aload 4, 2) := by decide +kernel
theorem d_m_2_52 : decode method_2_code 52 = .ok (.iconst 0, 1) := by decide +kernel
theorem d_m_2_53 : decode method_2_code 53 = .ok (.iload_n 1, 1) := by decide +kernel
theorem d_m_2_54 : decode method_2_code 54 = .ok (.castore, 1) := by decide +kernel
theorem d_m_2_55 : decode method_2_code 55 = .ok (.aload 4, 2) := by decide +kernel
theorem d_m_2_57 : decode method_2_code 57 = .ok (.iconst 1, 1) := by decide +kernel
theorem d_m_2_58 : decode method_2_code 58 = .ok (.iload_n 2, 1) := by decide +kernel
theorem d_m_2_59 : decode method_2_code 59 = .ok (.castore, 1) := by decide +kernel
theorem d_m_2_60 : decode method_2_code 60 = .ok (.new 7, 3) := by decide +kernel
theorem d_m_2_63 : decode method_2_code 63 = .ok (.dup, 1) := by decide +kernel
theorem d_m_2_64 : decode method_2_code 64 = .ok (.aload 4, 2) := by decide +kernel
theorem d_m_2_66 : decode method_2_code 66 = .ok (.invokespecial 9, 3) := by decide +kernel
theorem d_m_2_69 : decode method_2_code 69 = .ok (.areturn, 1) := by decide +kernel
set_option maxRecDepth 65536 in
set_option maxHeartbeats 40000000 in
theorem own_make2 (l : Launch) (Z : State) (a0 : Array Value) (hW : own_W Z a0) (c0 c1 c2 : Int32) (h0 : Heap) (n0 : Nat) (Z0 : n0 ≤ h0.size) (O0 : Old Z n0 h0) (hc0 : ¬ c0 < 0 ∧ ¬ (255 : Int32) < c0) (hc1 : ¬ c1 < 0 ∧ ¬ (255 : Int32) < c1) (hc2 : ¬ c2 < 0 ∧ ¬ (255 : Int32) < c2) :
    MetFree l (⟨"com/example/mandatum/mandatum/service/ExchangedOfIdTokenPinLaw", "make", "(ICCC)Ljava/lang/String;"⟩ : MethodName) (head1 (Jvm.Cond.code (⟨"com/example/mandatum/mandatum/service/ExchangedOfIdTokenPinLaw", "make", "(ICCC)Ljava/lang/String;"⟩ : MethodName) method_2_code 5 (some (.object "java/lang/String")) :: []) ({ frames := 4, cells := 8, slots := 24, locals := 80 } : Room)) (fun a U => a = #[(.int (2 : Int32)), (.int c0), (.int c1), (.int c2)] ∧ Z.Warmed39 U.vm ∧ U.heap = h0 ∧ CHv Z own_EL U.vm h0 ∧ ∀ x ∈ ([] : List Addr), Safe Z own_EL U.vm h0 x) (fun _ _ _ _ _ => True) (fun _ U o U' => ∃ v L, o = .returned v ∧ own_make2_Q Z c0 c1 c2 h0 n0 v U'.heap L ∧ CHr Z own_EL U.vm U.heap U'.vm U'.heap ∧ ReturnedEndW U o U' L ({ frames := 4, cells := 8, slots := 24, locals := 80 } : Room).cells ({ frames := 4, cells := 8, slots := 24, locals := 80 } : Room).slots) := by
  refine MetFree.of_bodySF (plainFor_of_name pn_com_example_mandatum_mandatum_service_ExchangedOfIdTokenPinLaw) hisR ?_
  intro p e s m args below meth c s₁ Bd hml0 hP hK
  obtain ⟨rfl, hZ, hh, hCH, hSf⟩ := hP
  obtain ⟨hw, ⟨G1, O2, P5⟩, ea, Se, Ee, Fe⟩ := id hW
  have hx := Bd.exec
  have hby := Bd.bytes
  have hml : c.maxLocals = 5 := hml0
  have hown : s.vm.findClass "com/example/mandatum/mandatum/service/ExchangedOfIdTokenPinLaw" = some m.cls := findClass_of_methodNamed Bd.named
  have hnm := (name_of_methodNamed Bd.named Bd.method).1
  have X0 : Stand p l e ({ frames := 4, cells := 8, slots := 24, locals := 80 } : Room) (s.setVm s.vm) m #[(.int (2 : Int32)), (.int c0), (.int c1), (.int c2)] below meth c s₁ [] 0 0 := Stand.of_body Bd
  have e0 : s₁.heap = h0 := by rw [← hh, Bd.state]; rfl
  have N0 := Fr.nil n0
  have K0 := Keep.refl h0 []
  have hS0 : s.Since s.vm h0.size := (State.WarmedH.refl s).since _
  have CH0 : CHr Z own_EL s.vm h0 s.vm h0 := CHr.refl hCH
  have hEL := own_EW hw
  have hSA := own_SA hw
  show own_Fin p e below (s₁.setTop (entryFrame m #[(.int (2 : Int32)), (.int c0), (.int c1), (.int c2)] 5)) _
  refine own_gs (castTop (ef_own_make2 m (2 : Int32) c0 c1 c2) (Steps.refl _)) ?_
  show own_Fin p e below (s₁.setTop (mkF m 0 #[vi (2 : Int32), vi c0, vi c1, vi c2, uu] [])) _
  refine own_gs (cur' := s₁.setTop (mkF m 46 #[vi (2 : Int32), vi c0, vi c1, vi c2, uu] [(.int (2 : Int32))])) ?_ ?_
  · refine XS.iloadN X0.here hx rfl (hb hby d_m_2_0) rfl ?_
    show Steps p.tables e below (s₁.setTop (mkF m 1 #[vi (2 : Int32), vi c0, vi c1, vi c2, uu] [(.int (2 : Int32))])) _
    refine XS.ifYes X0.here hx rfl (pc0 := 1) (pc' := 15) rfl (hb hby d_m_2_1) rfl ((if0 _ _).trans (feq ((by decide) : ¬ ((2 : Int32) = (0 : Int32)))).2) (by decide) (by decide) ?_
    show Steps p.tables e below (s₁.setTop (mkF m 15 #[vi (2 : Int32), vi c0, vi c1, vi c2, uu] [])) _
    refine XS.iloadN X0.here hx rfl (hb hby d_m_2_15) rfl ?_
    show Steps p.tables e below (s₁.setTop (mkF m 16 #[vi (2 : Int32), vi c0, vi c1, vi c2, uu] [(.int (2 : Int32))])) _
    refine XS.iconst X0.here hx rfl (hb hby d_m_2_16) ?_
    show Steps p.tables e below (s₁.setTop (mkF m 17 #[vi (2 : Int32), vi c0, vi c1, vi c2, uu] [(.int (1 : Int32)), (.int (2 : Int32))])) _
    refine XS.icmpYes X0.here hx rfl (pc0 := 17) (pc' := 40) rfl (hb hby d_m_2_17) rfl (feq ((by decide) : ¬ ((2 : Int32) = (1 : Int32)))).2 (by decide) (by decide) ?_
    show Steps p.tables e below (s₁.setTop (mkF m 40 #[vi (2 : Int32), vi c0, vi c1, vi c2, uu] [])) _
    refine XS.iloadN X0.here hx rfl (hb hby d_m_2_40) rfl ?_
    show Steps p.tables e below (s₁.setTop (mkF m 41 #[vi (2 : Int32), vi c0, vi c1, vi c2, uu] [(.int (2 : Int32))])) _
    refine XS.iconst X0.here hx rfl (hb hby d_m_2_41) ?_
    show Steps p.tables e below (s₁.setTop (mkF m 42 #[vi (2 : Int32), vi c0, vi c1, vi c2, uu] [(.int (2 : Int32)), (.int (2 : Int32))])) _
    refine XS.icmpNo X0.here hx rfl (hb hby d_m_2_42) rfl (teq ((by decide) : (2 : Int32) = (2 : Int32))).2 ?_
    show Steps p.tables e below (s₁.setTop (mkF m 45 #[vi (2 : Int32), vi c0, vi c1, vi c2, uu] [])) _
    refine XS.iconst X0.here hx rfl (hb hby d_m_2_45) ?_
    exact Steps.refl _
  obtain ⟨T11, h11, k11, X11, e11, E11, A11, st11⟩ := newP X0 hx hZ (hw _ (List.mem_of_getElem? (i := 7) rfl)) e0 (g := (mkF m 46 #[vi (2 : Int32), vi c0, vi c1, vi c2, uu] [(.int (2 : Int32))])) rfl (hb hby d_m_2_46) rfl (by decide) (cap := 2) (by decide) (by decide) (by decide) (by decide)
  obtain ⟨b11, g11⟩ : ∃ z, z = h0.size := ⟨_, rfl⟩
  rw [← g11] at A11 st11
  have lt11 := own_lt A11.lt
  refine own_go st11 ?_
  show own_Fin p e below (T11.setTop (mkF m 48 #[vi (2 : Int32), vi c0, vi c1, vi c2, uu] [(.ref b11)])) _
  have z12 := E11.1
  have K12 := K0.ext E11
  have O12 := O0.ext E11
  have CH12 := CH0.trans (CHr.ext E11 CH0.1)
  have V11 : Arv Z h11 b11 k11 .char (2 : Int32) [(.int (0 : Int32)), (.int (0 : Int32))] (.int (0 : Int32)) := (Arv.new A11 (by decide)).pad (pad_rep [] (.int (0 : Int32)) 2)
  refine own_gs (cur' := T11.setTop (mkF m 54 #[vi (2 : Int32), vi c0, vi c1, vi c2, vr b11] [(.int c0), (.int (0 : Int32)), (.ref b11)])) ?_ ?_
  · refine XS.astore X11.here hx rfl (hb hby d_m_2_48) rfl rfl (l' := #[vi (2 : Int32), vi c0, vi c1, vi c2, vr b11]) rfl ?_
    show Steps p.tables e below (T11.setTop (mkF m 50 #[vi (2 : Int32), vi c0, vi c1, vi c2, vr b11] [])) _
    refine XS.aload X11.here hx rfl (hb hby d_m_2_50) rfl rfl ?_
    show Steps p.tables e below (T11.setTop (mkF m 52 #[vi (2 : Int32), vi c0, vi c1, vi c2, vr b11] [(.ref b11)])) _
    refine XS.iconst X11.here hx rfl (hb hby d_m_2_52) ?_
    show Steps p.tables e below (T11.setTop (mkF m 53 #[vi (2 : Int32), vi c0, vi c1, vi c2, vr b11] [(.int (0 : Int32)), (.ref b11)])) _
    refine XS.iloadN X11.here hx rfl (hb hby d_m_2_53) rfl ?_
    exact Steps.refl _
  obtain ⟨_, Ar14, -⟩ := id V11
  obtain ⟨cl13, Ar13, q13, S13, M13, Hs13, G13⟩ := id V11
  have hin13 : ¬ ((0 : Int32) < 0 ∨ cl13.slots.size ≤ ((0 : Int32)).toNatClampNeg) := inb_of S13 ⟨by decide, by decide⟩
  obtain ⟨T13, h13, X13, e13, W13, st13⟩ := stC X11 hx hZ e11 Ar13 (j := (0 : Int32)) hin13 (g := (mkF m 54 #[vi (2 : Int32), vi c0, vi c1, vi c2, vr b11] [(.int c0), (.int (0 : Int32)), (.ref b11)])) rfl rfl (hb hby d_m_2_54)
  have V13 := Arv.set Ar13 q13 S13 M13 Hs13 G13 (fits_nar_char _) W13 0 rfl (Nat.le_of_ble_eq_true rfl)
  refine own_go st13 ?_
  show own_Fin p e below (T13.setTop (mkF m 55 #[vi (2 : Int32), vi c0, vi c1, vi c2, vr b11] [])) _
  have z15 := W13.size
  have K15 := K12.wr W13 (Or.inr (by omega))
  have O15 := O12.wr W13 (by omega)
  have CH15 := CH12.trans (CHr.wr W13 (Safe.arr hZ.alike Ar14 (by decide)) CH12.1)
  have N15 := Fr.snoc X13 N0 (by omega)
  refine own_gs (cur' := T13.setTop (mkF m 59 #[vi (2 : Int32), vi c0, vi c1, vi c2, vr b11] [(.int c1), (.int (1 : Int32)), (.ref b11)])) ?_ ?_
  · refine XS.aload X13.here hx rfl (hb hby d_m_2_55) rfl rfl ?_
    show Steps p.tables e below (T13.setTop (mkF m 57 #[vi (2 : Int32), vi c0, vi c1, vi c2, vr b11] [(.ref b11)])) _
    refine XS.iconst X13.here hx rfl (hb hby d_m_2_57) ?_
    show Steps p.tables e below (T13.setTop (mkF m 58 #[vi (2 : Int32), vi c0, vi c1, vi c2, vr b11] [(.int (1 : Int32)), (.ref b11)])) _
    refine XS.iloadN X13.here hx rfl (hb hby d_m_2_58) rfl ?_
    exact Steps.refl _
  obtain ⟨_, Ar17, -⟩ := id V13
  obtain ⟨cl16, Ar16, q16, S16, M16, Hs16, G16⟩ := id V13
  have hin16 : ¬ ((1 : Int32) < 0 ∨ cl16.slots.size ≤ ((1 : Int32)).toNatClampNeg) := inb_of S16 ⟨by decide, by decide⟩
  obtain ⟨T16, h16, X16, e16, W16, st16⟩ := stC X13 hx hZ e13 Ar16 (j := (1 : Int32)) hin16 (g := (mkF m 59 #[vi (2 : Int32), vi c0, vi c1, vi c2, vr b11] [(.int c1), (.int (1 : Int32)), (.ref b11)])) rfl rfl (hb hby d_m_2_59)
  have V16 := Arv.set Ar16 q16 S16 M16 Hs16 G16 (fits_nar_char _) W16 1 rfl (Nat.le_of_ble_eq_true rfl)
  refine own_go st16 ?_
  show own_Fin p e below (T16.setTop (mkF m 60 #[vi (2 : Int32), vi c0, vi c1, vi c2, vr b11] [])) _
  have z18 := W16.size
  have K18 := K15.wr W16 (Or.inr (by omega))
  have O18 := O15.wr W16 (by omega)
  have CH18 := CH15.trans (CHr.wr W16 (Safe.arr hZ.alike Ar17 (by decide)) CH15.1)
  have N18 := Fr.snoc X16 N15 (by omega)
  obtain ⟨T19, h19, X19, e19, E19, A19, D19, -, st19⟩ := newO X16 hx hZ hown (hw _ (List.mem_of_getElem? (i := 4) rfl)) (hw _ (List.mem_of_getElem? (i := 5) rfl)) (hw _ (List.mem_of_getElem? (i := 6) rfl)) e16 (g := (mkF m 60 #[vi (2 : Int32), vi c0, vi c1, vi c2, vr b11] [])) rfl (hb hby d_m_2_60) (by decide) (by decide)
  obtain ⟨b19, g19⟩ : ∃ z, z = h16.size := ⟨_, rfl⟩
  rw [← g19] at A19 D19 st19
  have lt19 := own_lt A19.lt
  refine own_go st19 ?_
  show own_Fin p e below (T19.setTop (mkF m 63 #[vi (2 : Int32), vi c0, vi c1, vi c2, vr b11] [(.ref b19)])) _
  have z20 := E19.1
  have K20 := K18.ext E19
  have O20 := O18.ext E19
  have CH20 := CH18.trans (CHr.ext E19 CH18.1)
  have F19_value : Fld Z h19 b19 "java/lang/String" "value" "[B" .null := D19 (Or.inr (hw _ (List.mem_of_getElem? (i := 20) rfl))) (ty := (.array .byte)) (by decide)
  have F19_coder : Fld Z h19 b19 "java/lang/String" "coder" "B" (.int (0 : Int32)) := D19 (Or.inr (hw _ (List.mem_of_getElem? (i := 21) rfl))) (ty := .byte) (by decide)
  have Sf19 := Safe.ext E19 CH18.1 (Safe.new (by omega : h16.size ≤ b19))
  have f21 := (V16.ext E19)
  have hws22 : ∀ d ∈ StrChars.Road.words, d.before a0 Z = true := fun d hd => hw d ((by decide +kernel : ∀ d ∈ StrChars.Road.words, d ∈ tables_1) d hd)
  have hp22 : ∀ c ∈ ([(nar .char c0), (nar .char c1)] : List Int32), ¬ c < 0 ∧ ¬ (255 : Int32) < c := by
    intro c hc
    simp only [List.mem_cons, List.not_mem_nil, or_false] at hc
    rcases hc with rfl | rfl
    · rw [own_nar hc0.1 (own_up hc0.2)]; exact hc0
    · rw [own_nar hc1.1 (own_up hc1.2)]; exact hc1
  refine own_gs (cur' := T19.setTop (mkF m 66 #[vi (2 : Int32), vi c0, vi c1, vi c2, vr b11] [(.ref b11), (.ref b19), (.ref b19)])) ?_ ?_
  · refine XS.dup X19.here hx rfl (hb hby d_m_2_63) rfl rfl ?_
    show Steps p.tables e below (T19.setTop (mkF m 64 #[vi (2 : Int32), vi c0, vi c1, vi c2, vr b11] [(.ref b19), (.ref b19)])) _
    refine XS.aload X19.here hx rfl (hb hby d_m_2_64) rfl rfl ?_
    exact Steps.refl _
  obtain ⟨_, _, ⟨T23, L23, k23, n23⟩, -, X23, ⟨Lc23, hQ23, l23, y23, z23⟩, st23⟩ := X19.specialBack hx (y := (⟨"java/lang/String", "<init>", "([C)V"⟩ : MethodName)) rfl hown (mvT hZ (hw _ (List.mem_of_getElem? (i := 8) rfl))) (mvT hZ (hw _ (List.mem_of_getElem? (i := 9) rfl))) (mvT hZ (hw _ (List.mem_of_getElem? (i := 10) rfl))) (by decide) (StrChars.Road.backV (W := 1) hZ hws22 (kI := 4) (hw _ (List.mem_of_getElem? (i := 5) rfl)) (cs := ([(nar .char c0), (nar .char c1)] : List Int32)) (bs := ([(nar .char c0), (nar .char c1)] : List Int32).map (fun c => c.toInt8.toInt32)) (n := 2) (n0 := n0) (by omega) (by omega) A19 F19_value F19_coder f21 (O2.ext O20.2) P5 rfl rfl (by decide) (by decide) hp22 rfl (by decide) (by decide)) (g := (mkF m 66 #[vi (2 : Int32), vi c0, vi c1, vi c2, vr b11] [(.ref b11), (.ref b19), (.ref b19)])) rfl (by rw [hml]; rfl) (Steps.refl _) (a := b19) (argsL := [(.ref b11)]) (rest := [(.ref b19)]) (lenOf pd_1 rfl) rfl (by show 2 * 0 + _ ≤ _; exact Nat.le_of_eq rfl) (hb hby d_m_2_66) (fun _ _ => ⟨rfl, e19, (by decide : 2 + 1 ≤ 8), (by decide : 6 + 2 ≤ 24)⟩)
  dsimp only [Pt.U, Pt.locs, Pt.cells, Pt.slots] at X23 l23 y23 z23 st23 hQ23
  subst l23 y23 z23
  obtain ⟨rfl, Nq23, Kq23, g23a, g23b, t23, k23, u23, v23, w23, g23c, g23d⟩ := hQ23
  have N23 := Fr.app N18 Nq23
  have z24 := Kq23.1
  have K24 := K20.trans Kq23 (allS (Or.inr (by omega)) all0)
  have O24 := O20.keep Kq23 (allS (by omega) all0)
  have CH24 := CH20.trans (CHr.keep Kq23 (allS Sf19 all0) CH20.1)
  have F23 : own_Str Z T23.heap b19 t23 ([(nar .char c0), (nar .char c1)] : List Int32) := ⟨_, _, _, _, g23a, g23c, g23b, g23d, StrChars.Road.codOf rfl (fun c hc => (hp22 c hc).2), fun c hc => ⟨(hp22 c hc).1, own_up (hp22 c hc).2⟩, Nat.le_of_ble_eq_true rfl⟩
  have lt23 := F23.lt
  refine own_gs st23 ?_
  show own_Fin p e below (T23.setTop (mkF m 69 #[vi (2 : Int32), vi c0, vi c1, vi c2, vr b11] [(.ref b19)])) _
  have Ff := F23
  rw [own_nar hc0.1 (own_up hc0.2), own_nar hc1.1 (own_up hc1.2)] at Ff
  obtain ⟨fs, hr, hrun, hended, hRE⟩ := X23.leaveW hS0 (show h0.size ≤ T23.heap.size by omega) (v := (some (.ref b19))) (fun h => by rw [Bd.returns] at h; cases h)
  refine ⟨_, _, X23.areturnOut hx rfl Bd.returns rfl (hb hby d_m_2_69) hr, hrun, hended, _, _, rfl, ?_, ?_, hRE.1, hRE.2.1, hRE.2.2.1, hRE.2.2.2.mono (by decide) (by decide)⟩
  · show own_make2_Q Z c0 c1 c2 h0 n0 (some (.ref b19)) T23.heap _
    exact ⟨_, _, rfl, N23, K24, Ff, (by omega)⟩
  · have hfin := CH24.trans (CHv.at X23 hZ hEL CH24.1)
    rw [hh]
    show CHr Z own_EL s.vm h0 T23.vm T23.heap
    exact hfin
def own_make3_Q (Z : State) (c0 c1 c2 : Int32) (h0 : Heap) (n0 : Nat) (v : Option Value) (h : Heap) (L : List Loc) : Prop := ∃ a t : Nat, v = some (.ref a) ∧ Fr n0 L ∧ Keep h0 h [] ∧ own_Str Z h a t [c0, c1, c2] ∧ h0.size ≤ a
theorem ef_own_make3 (m : MethodId) (x0 : Int32) (x1 : Int32) (x2 : Int32) (x3 : Int32) : entryFrame m #[(.int x0), (.int x1), (.int x2), (.int x3)] 5 = mkF m 0 #[vi x0, vi x1, vi x2, vi x3, .unset] [] := by first | (simp [entryFrame, mkF, argsToLocals, Value.category]; done) | rfl
theorem d_m_2_70 : decode method_2_code 70 = .ok (.iconst 3, 1) := by decide +kernel
theorem d_m_2_71 : decode method_2_code 71 = .ok (.newarray .char, 2) := by decide +kernel
theorem d_m_2_73 : decode method_2_code 73 = .ok (.astore 4, 2) := by decide +kernel
theorem d_m_2_75 : decode method_2_code 75 = .ok (.aload 4, 2) := by decide +kernel
theorem d_m_2_77 : decode method_2_code 77 = .ok (.iconst 0, 1) := by decide +kernel
theorem d_m_2_78 : decode method_2_code 78 = .ok (.iload_n 1, 1) := by decide +kernel
theorem d_m_2_79 : decode method_2_code 79 = .ok (.castore, 1) := by decide +kernel
theorem d_m_2_80 : decode method_2_code 80 = .ok (.aload 4, 2) := by decide +kernel
theorem d_m_2_82 : decode method_2_code 82 = .ok (.iconst 1, 1) := by decide +kernel
theorem d_m_2_83 : decode method_2_code 83 = .ok (.iload_n 2, 1) := by decide +kernel
theorem d_m_2_84 : decode method_2_code 84 = .ok (.castore, 1) := by decide +kernel
theorem d_m_2_85 : decode method_2_code 85 = .ok (.aload 4, 2) := by decide +kernel
theorem d_m_2_87 : decode method_2_code 87 = .ok (.iconst 2, 1) := by decide +kernel
theorem d_m_2_88 : decode method_2_code 88 = .ok (.iload_n 3, 1) := by decide +kernel
theorem d_m_2_89 : decode method_2_code 89 = .ok (.castore, 1) := by decide +kernel
theorem d_m_2_90 : decode method_2_code 90 = .ok (.new 7, 3) := by decide +kernel
theorem d_m_2_93 : decode method_2_code 93 = .ok (.dup, 1) := by decide +kernel
theorem d_m_2_94 : decode method_2_code 94 = .ok (.aload 4, 2) := by decide +kernel
theorem d_m_2_96 : decode method_2_code 96 = .ok (.invokespecial 9, 3) := by decide +kernel
theorem d_m_2_99 : decode method_2_code 99 = .ok (.areturn, 1) := by decide +kernel
set_option maxRecDepth 65536 in
set_option maxHeartbeats 40000000 in
theorem own_make3 (l : Launch) (Z : State) (a0 : Array Value) (hW : own_W Z a0) (c0 c1 c2 : Int32) (h0 : Heap) (n0 : Nat) (Z0 : n0 ≤ h0.size) (O0 : Old Z n0 h0) (hc0 : ¬ c0 < 0 ∧ ¬ (255 : Int32) < c0) (hc1 : ¬ c1 < 0 ∧ ¬ (255 : Int32) < c1) (hc2 : ¬ c2 < 0 ∧ ¬ (255 : Int32) < c2) :
    MetFree l (⟨"com/example/mandatum/mandatum/service/ExchangedOfIdTokenPinLaw", "make", "(ICCC)Ljava/lang/String;"⟩ : MethodName) (head1 (Jvm.Cond.code (⟨"com/example/mandatum/mandatum/service/ExchangedOfIdTokenPinLaw", "make", "(ICCC)Ljava/lang/String;"⟩ : MethodName) method_2_code 5 (some (.object "java/lang/String")) :: []) ({ frames := 4, cells := 8, slots := 24, locals := 80 } : Room)) (fun a U => a = #[(.int (3 : Int32)), (.int c0), (.int c1), (.int c2)] ∧ Z.Warmed39 U.vm ∧ U.heap = h0 ∧ CHv Z own_EL U.vm h0 ∧ ∀ x ∈ ([] : List Addr), Safe Z own_EL U.vm h0 x) (fun _ _ _ _ _ => True) (fun _ U o U' => ∃ v L, o = .returned v ∧ own_make3_Q Z c0 c1 c2 h0 n0 v U'.heap L ∧ CHr Z own_EL U.vm U.heap U'.vm U'.heap ∧ ReturnedEndW U o U' L ({ frames := 4, cells := 8, slots := 24, locals := 80 } : Room).cells ({ frames := 4, cells := 8, slots := 24, locals := 80 } : Room).slots) := by
  refine MetFree.of_bodySF (plainFor_of_name pn_com_example_mandatum_mandatum_service_ExchangedOfIdTokenPinLaw) hisR ?_
  intro p e s m args below meth c s₁ Bd hml0 hP hK
  obtain ⟨rfl, hZ, hh, hCH, hSf⟩ := hP
  obtain ⟨hw, ⟨G1, O2, P5⟩, ea, Se, Ee, Fe⟩ := id hW
  have hx := Bd.exec
  have hby := Bd.bytes
  have hml : c.maxLocals = 5 := hml0
  have hown : s.vm.findClass "com/example/mandatum/mandatum/service/ExchangedOfIdTokenPinLaw" = some m.cls := findClass_of_methodNamed Bd.named
  have hnm := (name_of_methodNamed Bd.named Bd.method).1
  have X0 : Stand p l e ({ frames := 4, cells := 8, slots := 24, locals := 80 } : Room) (s.setVm s.vm) m #[(.int (3 : Int32)), (.int c0), (.int c1), (.int c2)] below meth c s₁ [] 0 0 := Stand.of_body Bd
  have e0 : s₁.heap = h0 := by rw [← hh, Bd.state]; rfl
  have N0 := Fr.nil n0
  have K0 := Keep.refl h0 []
  have hS0 : s.Since s.vm h0.size := (State.WarmedH.refl s).since _
  have CH0 : CHr Z own_EL s.vm h0 s.vm h0 := CHr.refl hCH
  have hEL := own_EW hw
  have hSA := own_SA hw
  show own_Fin p e below (s₁.setTop (entryFrame m #[(.int (3 : Int32)), (.int c0), (.int c1), (.int c2)] 5)) _
  refine own_gs (castTop (ef_own_make3 m (3 : Int32) c0 c1 c2) (Steps.refl _)) ?_
  show own_Fin p e below (s₁.setTop (mkF m 0 #[vi (3 : Int32), vi c0, vi c1, vi c2, uu] [])) _
  refine own_gs (cur' := s₁.setTop (mkF m 71 #[vi (3 : Int32), vi c0, vi c1, vi c2, uu] [(.int (3 : Int32))])) ?_ ?_
  · refine XS.iloadN X0.here hx rfl (hb hby d_m_2_0) rfl ?_
    show Steps p.tables e below (s₁.setTop (mkF m 1 #[vi (3 : Int32), vi c0, vi c1, vi c2, uu] [(.int (3 : Int32))])) _
    refine XS.ifYes X0.here hx rfl (pc0 := 1) (pc' := 15) rfl (hb hby d_m_2_1) rfl ((if0 _ _).trans (feq ((by decide) : ¬ ((3 : Int32) = (0 : Int32)))).2) (by decide) (by decide) ?_
    show Steps p.tables e below (s₁.setTop (mkF m 15 #[vi (3 : Int32), vi c0, vi c1, vi c2, uu] [])) _
    refine XS.iloadN X0.here hx rfl (hb hby d_m_2_15) rfl ?_
    show Steps p.tables e below (s₁.setTop (mkF m 16 #[vi (3 : Int32), vi c0, vi c1, vi c2, uu] [(.int (3 : Int32))])) _
    refine XS.iconst X0.here hx rfl (hb hby d_m_2_16) ?_
    show Steps p.tables e below (s₁.setTop (mkF m 17 #[vi (3 : Int32), vi c0, vi c1, vi c2, uu] [(.int (1 : Int32)), (.int (3 : Int32))])) _
    refine XS.icmpYes X0.here hx rfl (pc0 := 17) (pc' := 40) rfl (hb hby d_m_2_17) rfl (feq ((by decide) : ¬ ((3 : Int32) = (1 : Int32)))).2 (by decide) (by decide) ?_
    show Steps p.tables e below (s₁.setTop (mkF m 40 #[vi (3 : Int32), vi c0, vi c1, vi c2, uu] [])) _
    refine XS.iloadN X0.here hx rfl (hb hby d_m_2_40) rfl ?_
    show Steps p.tables e below (s₁.setTop (mkF m 41 #[vi (3 : Int32), vi c0, vi c1, vi c2, uu] [(.int (3 : Int32))])) _
    refine XS.iconst X0.here hx rfl (hb hby d_m_2_41) ?_
    show Steps p.tables e below (s₁.setTop (mkF m 42 #[vi (3 : Int32), vi c0, vi c1, vi c2, uu] [(.int (2 : Int32)), (.int (3 : Int32))])) _
    refine XS.icmpYes X0.here hx rfl (pc0 := 42) (pc' := 70) rfl (hb hby d_m_2_42) rfl (feq ((by decide) : ¬ ((3 : Int32) = (2 : Int32)))).2 (by decide) (by decide) ?_
    show Steps p.tables e below (s₁.setTop (mkF m 70 #[vi (3 : Int32), vi c0, vi c1, vi c2, uu] [])) _
    refine XS.iconst X0.here hx rfl (hb hby d_m_2_70) ?_
    exact Steps.refl _
  obtain ⟨T11, h11, k11, X11, e11, E11, A11, st11⟩ := newP X0 hx hZ (hw _ (List.mem_of_getElem? (i := 7) rfl)) e0 (g := (mkF m 71 #[vi (3 : Int32), vi c0, vi c1, vi c2, uu] [(.int (3 : Int32))])) rfl (hb hby d_m_2_71) rfl (by decide) (cap := 3) (by decide) (by decide) (by decide) (by decide)
  obtain ⟨b11, g11⟩ : ∃ z, z = h0.size := ⟨_, rfl⟩
  rw [← g11] at A11 st11
  have lt11 := own_lt A11.lt
  refine own_go st11 ?_
  show own_Fin p e below (T11.setTop (mkF m 73 #[vi (3 : Int32), vi c0, vi c1, vi c2, uu] [(.ref b11)])) _
  have z12 := E11.1
  have K12 := K0.ext E11
  have O12 := O0.ext E11
  have CH12 := CH0.trans (CHr.ext E11 CH0.1)
  have V11 : Arv Z h11 b11 k11 .char (3 : Int32) [(.int (0 : Int32)), (.int (0 : Int32)), (.int (0 : Int32))] (.int (0 : Int32)) := (Arv.new A11 (by decide)).pad (pad_rep [] (.int (0 : Int32)) 3)
  refine own_gs (cur' := T11.setTop (mkF m 79 #[vi (3 : Int32), vi c0, vi c1, vi c2, vr b11] [(.int c0), (.int (0 : Int32)), (.ref b11)])) ?_ ?_
  · refine XS.astore X11.here hx rfl (hb hby d_m_2_73) rfl rfl (l' := #[vi (3 : Int32), vi c0, vi c1, vi c2, vr b11]) rfl ?_
    show Steps p.tables e below (T11.setTop (mkF m 75 #[vi (3 : Int32), vi c0, vi c1, vi c2, vr b11] [])) _
    refine XS.aload X11.here hx rfl (hb hby d_m_2_75) rfl rfl ?_
    show Steps p.tables e below (T11.setTop (mkF m 77 #[vi (3 : Int32), vi c0, vi c1, vi c2, vr b11] [(.ref b11)])) _
    refine XS.iconst X11.here hx rfl (hb hby d_m_2_77) ?_
    show Steps p.tables e below (T11.setTop (mkF m 78 #[vi (3 : Int32), vi c0, vi c1, vi c2, vr b11] [(.int (0 : Int32)), (.ref b11)])) _
    refine XS.iloadN X11.here hx rfl (hb hby d_m_2_78) rfl ?_
    exact Steps.refl _
  obtain ⟨_, Ar14, -⟩ := id V11
  obtain ⟨cl13, Ar13, q13, S13, M13, Hs13, G13⟩ := id V11
  have hin13 : ¬ ((0 : Int32) < 0 ∨ cl13.slots.size ≤ ((0 : Int32)).toNatClampNeg) := inb_of S13 ⟨by decide, by decide⟩
  obtain ⟨T13, h13, X13, e13, W13, st13⟩ := stC X11 hx hZ e11 Ar13 (j := (0 : Int32)) hin13 (g := (mkF m 79 #[vi (3 : Int32), vi c0, vi c1, vi c2, vr b11] [(.int c0), (.int (0 : Int32)), (.ref b11)])) rfl rfl (hb hby d_m_2_79)
  have V13 := Arv.set Ar13 q13 S13 M13 Hs13 G13 (fits_nar_char _) W13 0 rfl (Nat.le_of_ble_eq_true rfl)
  refine own_go st13 ?_
  show own_Fin p e below (T13.setTop (mkF m 80 #[vi (3 : Int32), vi c0, vi c1, vi c2, vr b11] [])) _
  have z15 := W13.size
  have K15 := K12.wr W13 (Or.inr (by omega))
  have O15 := O12.wr W13 (by omega)
  have CH15 := CH12.trans (CHr.wr W13 (Safe.arr hZ.alike Ar14 (by decide)) CH12.1)
  have N15 := Fr.snoc X13 N0 (by omega)
  refine own_gs (cur' := T13.setTop (mkF m 84 #[vi (3 : Int32), vi c0, vi c1, vi c2, vr b11] [(.int c1), (.int (1 : Int32)), (.ref b11)])) ?_ ?_
  · refine XS.aload X13.here hx rfl (hb hby d_m_2_80) rfl rfl ?_
    show Steps p.tables e below (T13.setTop (mkF m 82 #[vi (3 : Int32), vi c0, vi c1, vi c2, vr b11] [(.ref b11)])) _
    refine XS.iconst X13.here hx rfl (hb hby d_m_2_82) ?_
    show Steps p.tables e below (T13.setTop (mkF m 83 #[vi (3 : Int32), vi c0, vi c1, vi c2, vr b11] [(.int (1 : Int32)), (.ref b11)])) _
    refine XS.iloadN X13.here hx rfl (hb hby d_m_2_83) rfl ?_
    exact Steps.refl _
  obtain ⟨_, Ar17, -⟩ := id V13
  obtain ⟨cl16, Ar16, q16, S16, M16, Hs16, G16⟩ := id V13
  have hin16 : ¬ ((1 : Int32) < 0 ∨ cl16.slots.size ≤ ((1 : Int32)).toNatClampNeg) := inb_of S16 ⟨by decide, by decide⟩
  obtain ⟨T16, h16, X16, e16, W16, st16⟩ := stC X13 hx hZ e13 Ar16 (j := (1 : Int32)) hin16 (g := (mkF m 84 #[vi (3 : Int32), vi c0, vi c1, vi c2, vr b11] [(.int c1), (.int (1 : Int32)), (.ref b11)])) rfl rfl (hb hby d_m_2_84)
  have V16 := Arv.set Ar16 q16 S16 M16 Hs16 G16 (fits_nar_char _) W16 1 rfl (Nat.le_of_ble_eq_true rfl)
  refine own_go st16 ?_
  show own_Fin p e below (T16.setTop (mkF m 85 #[vi (3 : Int32), vi c0, vi c1, vi c2, vr b11] [])) _
  have z18 := W16.size
  have K18 := K15.wr W16 (Or.inr (by omega))
  have O18 := O15.wr W16 (by omega)
  have CH18 := CH15.trans (CHr.wr W16 (Safe.arr hZ.alike Ar17 (by decide)) CH15.1)
  have N18 := Fr.snoc X16 N15 (by omega)
  refine own_gs (cur' := T16.setTop (mkF m 89 #[vi (3 : Int32), vi c0, vi c1, vi c2, vr b11] [(.int c2), (.int (2 : Int32)), (.ref b11)])) ?_ ?_
  · refine XS.aload X16.here hx rfl (hb hby d_m_2_85) rfl rfl ?_
    show Steps p.tables e below (T16.setTop (mkF m 87 #[vi (3 : Int32), vi c0, vi c1, vi c2, vr b11] [(.ref b11)])) _
    refine XS.iconst X16.here hx rfl (hb hby d_m_2_87) ?_
    show Steps p.tables e below (T16.setTop (mkF m 88 #[vi (3 : Int32), vi c0, vi c1, vi c2, vr b11] [(.int (2 : Int32)), (.ref b11)])) _
    refine XS.iloadN X16.here hx rfl (hb hby d_m_2_88) rfl ?_
    exact Steps.refl _
  obtain ⟨_, Ar20, -⟩ := id V16
  obtain ⟨cl19, Ar19, q19, S19, M19, Hs19, G19⟩ := id V16
  have hin19 : ¬ ((2 : Int32) < 0 ∨ cl19.slots.size ≤ ((2 : Int32)).toNatClampNeg) := inb_of S19 ⟨by decide, by decide⟩
  obtain ⟨T19, h19, X19, e19, W19, st19⟩ := stC X16 hx hZ e16 Ar19 (j := (2 : Int32)) hin19 (g := (mkF m 89 #[vi (3 : Int32), vi c0, vi c1, vi c2, vr b11] [(.int c2), (.int (2 : Int32)), (.ref b11)])) rfl rfl (hb hby d_m_2_89)
  have V19 := Arv.set Ar19 q19 S19 M19 Hs19 G19 (fits_nar_char _) W19 2 rfl (Nat.le_of_ble_eq_true rfl)
  refine own_go st19 ?_
  show own_Fin p e below (T19.setTop (mkF m 90 #[vi (3 : Int32), vi c0, vi c1, vi c2, vr b11] [])) _
  have z21 := W19.size
  have K21 := K18.wr W19 (Or.inr (by omega))
  have O21 := O18.wr W19 (by omega)
  have CH21 := CH18.trans (CHr.wr W19 (Safe.arr hZ.alike Ar20 (by decide)) CH18.1)
  have N21 := Fr.snoc X19 N18 (by omega)
  obtain ⟨T22, h22, X22, e22, E22, A22, D22, -, st22⟩ := newO X19 hx hZ hown (hw _ (List.mem_of_getElem? (i := 4) rfl)) (hw _ (List.mem_of_getElem? (i := 5) rfl)) (hw _ (List.mem_of_getElem? (i := 6) rfl)) e19 (g := (mkF m 90 #[vi (3 : Int32), vi c0, vi c1, vi c2, vr b11] [])) rfl (hb hby d_m_2_90) (by decide) (by decide)
  obtain ⟨b22, g22⟩ : ∃ z, z = h19.size := ⟨_, rfl⟩
  rw [← g22] at A22 D22 st22
  have lt22 := own_lt A22.lt
  refine own_go st22 ?_
  show own_Fin p e below (T22.setTop (mkF m 93 #[vi (3 : Int32), vi c0, vi c1, vi c2, vr b11] [(.ref b22)])) _
  have z23 := E22.1
  have K23 := K21.ext E22
  have O23 := O21.ext E22
  have CH23 := CH21.trans (CHr.ext E22 CH21.1)
  have F22_value : Fld Z h22 b22 "java/lang/String" "value" "[B" .null := D22 (Or.inr (hw _ (List.mem_of_getElem? (i := 20) rfl))) (ty := (.array .byte)) (by decide)
  have F22_coder : Fld Z h22 b22 "java/lang/String" "coder" "B" (.int (0 : Int32)) := D22 (Or.inr (hw _ (List.mem_of_getElem? (i := 21) rfl))) (ty := .byte) (by decide)
  have Sf22 := Safe.ext E22 CH21.1 (Safe.new (by omega : h19.size ≤ b22))
  have f24 := (V19.ext E22)
  have hws25 : ∀ d ∈ StrChars.Road.words, d.before a0 Z = true := fun d hd => hw d ((by decide +kernel : ∀ d ∈ StrChars.Road.words, d ∈ tables_1) d hd)
  have hp25 : ∀ c ∈ ([(nar .char c0), (nar .char c1), (nar .char c2)] : List Int32), ¬ c < 0 ∧ ¬ (255 : Int32) < c := by
    intro c hc
    simp only [List.mem_cons, List.not_mem_nil, or_false] at hc
    rcases hc with rfl | rfl | rfl
    · rw [own_nar hc0.1 (own_up hc0.2)]; exact hc0
    · rw [own_nar hc1.1 (own_up hc1.2)]; exact hc1
    · rw [own_nar hc2.1 (own_up hc2.2)]; exact hc2
  refine own_gs (cur' := T22.setTop (mkF m 96 #[vi (3 : Int32), vi c0, vi c1, vi c2, vr b11] [(.ref b11), (.ref b22), (.ref b22)])) ?_ ?_
  · refine XS.dup X22.here hx rfl (hb hby d_m_2_93) rfl rfl ?_
    show Steps p.tables e below (T22.setTop (mkF m 94 #[vi (3 : Int32), vi c0, vi c1, vi c2, vr b11] [(.ref b22), (.ref b22)])) _
    refine XS.aload X22.here hx rfl (hb hby d_m_2_94) rfl rfl ?_
    exact Steps.refl _
  obtain ⟨_, _, ⟨T26, L26, k26, n26⟩, -, X26, ⟨Lc26, hQ26, l26, y26, z26⟩, st26⟩ := X22.specialBack hx (y := (⟨"java/lang/String", "<init>", "([C)V"⟩ : MethodName)) rfl hown (mvT hZ (hw _ (List.mem_of_getElem? (i := 8) rfl))) (mvT hZ (hw _ (List.mem_of_getElem? (i := 9) rfl))) (mvT hZ (hw _ (List.mem_of_getElem? (i := 10) rfl))) (by decide) (StrChars.Road.backV (W := 1) hZ hws25 (kI := 4) (hw _ (List.mem_of_getElem? (i := 5) rfl)) (cs := ([(nar .char c0), (nar .char c1), (nar .char c2)] : List Int32)) (bs := ([(nar .char c0), (nar .char c1), (nar .char c2)] : List Int32).map (fun c => c.toInt8.toInt32)) (n := 3) (n0 := n0) (by omega) (by omega) A22 F22_value F22_coder f24 (O2.ext O23.2) P5 rfl rfl (by decide) (by decide) hp25 rfl (by decide) (by decide)) (g := (mkF m 96 #[vi (3 : Int32), vi c0, vi c1, vi c2, vr b11] [(.ref b11), (.ref b22), (.ref b22)])) rfl (by rw [hml]; rfl) (Steps.refl _) (a := b22) (argsL := [(.ref b11)]) (rest := [(.ref b22)]) (lenOf pd_1 rfl) rfl (by show 2 * 0 + _ ≤ _; exact Nat.le_of_eq rfl) (hb hby d_m_2_96) (fun _ _ => ⟨rfl, e22, (by decide : 2 + 1 ≤ 8), (by decide : 7 + 3 ≤ 24)⟩)
  dsimp only [Pt.U, Pt.locs, Pt.cells, Pt.slots] at X26 l26 y26 z26 st26 hQ26
  subst l26 y26 z26
  obtain ⟨rfl, Nq26, Kq26, g26a, g26b, t26, k26, u26, v26, w26, g26c, g26d⟩ := hQ26
  have N26 := Fr.app N21 Nq26
  have z27 := Kq26.1
  have K27 := K23.trans Kq26 (allS (Or.inr (by omega)) all0)
  have O27 := O23.keep Kq26 (allS (by omega) all0)
  have CH27 := CH23.trans (CHr.keep Kq26 (allS Sf22 all0) CH23.1)
  have F26 : own_Str Z T26.heap b22 t26 ([(nar .char c0), (nar .char c1), (nar .char c2)] : List Int32) := ⟨_, _, _, _, g26a, g26c, g26b, g26d, StrChars.Road.codOf rfl (fun c hc => (hp25 c hc).2), fun c hc => ⟨(hp25 c hc).1, own_up (hp25 c hc).2⟩, Nat.le_of_ble_eq_true rfl⟩
  have lt26 := F26.lt
  refine own_gs st26 ?_
  show own_Fin p e below (T26.setTop (mkF m 99 #[vi (3 : Int32), vi c0, vi c1, vi c2, vr b11] [(.ref b22)])) _
  have Ff := F26
  rw [own_nar hc0.1 (own_up hc0.2), own_nar hc1.1 (own_up hc1.2), own_nar hc2.1 (own_up hc2.2)] at Ff
  obtain ⟨fs, hr, hrun, hended, hRE⟩ := X26.leaveW hS0 (show h0.size ≤ T26.heap.size by omega) (v := (some (.ref b22))) (fun h => by rw [Bd.returns] at h; cases h)
  refine ⟨_, _, X26.areturnOut hx rfl Bd.returns rfl (hb hby d_m_2_99) hr, hrun, hended, _, _, rfl, ?_, ?_, hRE.1, hRE.2.1, hRE.2.2.1, hRE.2.2.2.mono (by decide) (by decide)⟩
  · show own_make3_Q Z c0 c1 c2 h0 n0 (some (.ref b22)) T26.heap _
    exact ⟨_, _, rfl, N26, K27, Ff, (by omega)⟩
  · have hfin := CH27.trans (CHv.at X26 hZ hEL CH27.1)
    rw [hh]
    show CHr Z own_EL s.vm h0 T26.vm T26.heap
    exact hfin
def own_rnn_Q (Z : State) (a1 a2 : Nat) (h0 : Heap) (n0 : Nat) (v : Option Value) (h : Heap) (L : List Loc) : Prop := v = some (.ref a1) ∧ Fr n0 L ∧ h = h0
theorem pn_java_util_Objects : plainName "java/util/Objects" = true := by first | (simp [plainName, overriddenIn]; done) | decide +kernel
theorem ef_own_rnn (m : MethodId) (x0 : Nat) (x1 : Nat) : entryFrame m #[(.ref x0), (.ref x1)] 2 = mkF m 0 #[vr x0, vr x1] [] := by first | (simp [entryFrame, mkF, argsToLocals, Value.category]; done) | rfl
theorem d_jdk_31_m_11_0 : decode jdk_31_method_11_code 0 = .ok (.aload_n 0, 1) := by decide +kernel
theorem d_jdk_31_m_11_1 : decode jdk_31_method_11_code 1 = .ok (.ifnonnull 12, 3) := by decide +kernel
theorem d_jdk_31_m_11_13 : decode jdk_31_method_11_code 13 = .ok (.aload_n 0, 1) := by decide +kernel
theorem d_jdk_31_m_11_14 : decode jdk_31_method_11_code 14 = .ok (.areturn, 1) := by decide +kernel
set_option maxRecDepth 65536 in
set_option maxHeartbeats 40000000 in
theorem own_rnn (l : Launch) (Z : State) (a0 : Array Value) (hW : own_W Z a0) (a1 a2 : Nat) (h0 : Heap) (n0 : Nat) (Z0 : n0 ≤ h0.size) (O0 : Old Z n0 h0)  :
    MetFree l (⟨"java/util/Objects", "requireNonNull", "(Ljava/lang/Object;Ljava/lang/String;)Ljava/lang/Object;"⟩ : MethodName) (head1 (Jvm.Cond.code (⟨"java/util/Objects", "requireNonNull", "(Ljava/lang/Object;Ljava/lang/String;)Ljava/lang/Object;"⟩ : MethodName) jdk_31_method_11_code 2 (some (.object "java/lang/Object")) :: []) ({ frames := 0, cells := 0, slots := 0, locals := 0 } : Room)) (fun a U => a = #[(.ref a1), (.ref a2)] ∧ Z.Warmed39 U.vm ∧ U.heap = h0) (fun _ _ _ _ _ => True) (fun _ U o U' => ∃ v L, o = .returned v ∧ own_rnn_Q Z a1 a2 h0 n0 v U'.heap L ∧ FrameEnd U o U' L ({ frames := 0, cells := 0, slots := 0, locals := 0 } : Room).cells ({ frames := 0, cells := 0, slots := 0, locals := 0 } : Room).slots) := by
  refine MetFree.of_bodySF (plainFor_of_name pn_java_util_Objects) hisR ?_
  intro p e s m args below meth c s₁ Bd hml0 hP hK
  obtain ⟨rfl, hZ, hh⟩ := hP
  obtain ⟨hw, ⟨G1, O2, P5⟩, ea, Se, Ee, Fe⟩ := id hW
  have hx := Bd.exec
  have hby := Bd.bytes
  have hml : c.maxLocals = 2 := hml0
  have hown : s.vm.findClass "java/util/Objects" = some m.cls := findClass_of_methodNamed Bd.named
  have hnm := (name_of_methodNamed Bd.named Bd.method).1
  have X0 : Stand p l e ({ frames := 0, cells := 0, slots := 0, locals := 0 } : Room) s m #[(.ref a1), (.ref a2)] below meth c s₁ [] 0 0 := Stand.of_body Bd
  have e0 : s₁.heap = h0 := by rw [← hh, Bd.state]; rfl
  have N0 := Fr.nil n0
  have K0 := Keep.refl h0 []
  show own_Fin p e below (s₁.setTop (entryFrame m #[(.ref a1), (.ref a2)] 2)) _
  refine own_gs (castTop (ef_own_rnn m a1 a2) (Steps.refl _)) ?_
  show own_Fin p e below (s₁.setTop (mkF m 0 #[vr a1, vr a2] [])) _
  refine own_gs (cur' := s₁.setTop (mkF m 14 #[vr a1, vr a2] [(.ref a1)])) ?_ ?_
  · refine XS.aloadN X0.here hx rfl (hb hby d_jdk_31_m_11_0) rfl rfl ?_
    show Steps p.tables e below (s₁.setTop (mkF m 1 #[vr a1, vr a2] [(.ref a1)])) _
    refine XS.ifnonnullYes X0.here hx rfl (pc0 := 1) (pc' := 13) rfl (hb hby d_jdk_31_m_11_1) rfl (by decide) (by decide) ?_
    show Steps p.tables e below (s₁.setTop (mkF m 13 #[vr a1, vr a2] [])) _
    refine XS.aloadN X0.here hx rfl (hb hby d_jdk_31_m_11_13) rfl rfl ?_
    exact Steps.refl _
  obtain ⟨fs, hr, hrun, hended, hW1, hsame⟩ := X0.leave (v := (some (.ref a1))) (fun h => by rw [Bd.returns] at h; cases h)
  refine ⟨_, _, X0.areturnOut hx rfl Bd.returns rfl (hb hby d_jdk_31_m_11_14) hr, hrun, hended, _, _, rfl, ?_, ⟨_, rfl⟩, hW1, hsame.mono (by decide) (by decide)⟩
  show own_rnn_Q Z a1 a2 h0 n0 (some (.ref a1)) s₁.heap _
  rw [e0]
  exact ⟨rfl, N0, rfl⟩
def own_einit_Q (Z : State) (b1 a1 : Nat) (u1 u2 : Value) (h0 : Heap) (n0 : Nat) (v : Option Value) (h : Heap) (L : List Loc) : Prop := v = none ∧ Fr n0 L ∧ Keep h0 h [b1] ∧ Fld Z h b1 "com/example/mandatum/mandatum/service/Exchanged" "accessToken" "Lcom/example/mandatum/mandatum/model/AccessToken;" .null ∧ Fld Z h b1 "com/example/mandatum/mandatum/service/Exchanged" "idToken" "Ljava/lang/String;" (.ref a1)
theorem pn_com_example_mandatum_mandatum_service_Exchanged : plainName "com/example/mandatum/mandatum/service/Exchanged" = true := by first | (simp [plainName, overriddenIn]; done) | decide +kernel
theorem ef_own_einit (m : MethodId) (x0 : Nat) (x2 : Nat) : entryFrame m #[(.ref x0), .null, (.ref x2)] 3 = mkF m 0 #[vr x0, vn, vr x2] [] := by first | (simp [entryFrame, mkF, argsToLocals, Value.category]; done) | rfl
theorem d_prog_44_m_1_0 : decode prog_44_method_1_code 0 = .ok (.aload_n 0, 1) := by decide +kernel
theorem d_prog_44_m_1_1 : decode prog_44_method_1_code 1 = .ok (.invokespecial 1, 3) := by decide +kernel
theorem d_prog_44_m_1_4 : decode prog_44_method_1_code 4 = .ok (.aload_n 0, 1) := by decide +kernel
theorem d_prog_44_m_1_5 : decode prog_44_method_1_code 5 = .ok (.aload_n 1, 1) := by decide +kernel
theorem d_prog_44_m_1_6 : decode prog_44_method_1_code 6 = .ok (.putfield 7, 3) := by decide +kernel
theorem d_prog_44_m_1_9 : decode prog_44_method_1_code 9 = .ok (.aload_n 0, 1) := by decide +kernel
theorem d_prog_44_m_1_10 : decode prog_44_method_1_code 10 = .ok (.aload_n 2, 1) := by decide +kernel
theorem d_prog_44_m_1_11 : decode prog_44_method_1_code 11 = .ok (.putfield 13, 3) := by decide +kernel
theorem d_prog_44_m_1_14 : decode prog_44_method_1_code 14 = .ok (.return_, 1) := by decide +kernel
set_option maxRecDepth 65536 in
set_option maxHeartbeats 40000000 in
theorem own_einit (l : Launch) (Z : State) (a0 : Array Value) (hW : own_W Z a0) (b1 a1 : Nat) (u1 u2 : Value) (h0 : Heap) (n0 : Nat) (Z0 : n0 ≤ h0.size) (O0 : Old Z n0 h0) (E1 : Exa Z h0 b1 "com/example/mandatum/mandatum/service/Exchanged") (F_accessToken : Fld Z h0 b1 "com/example/mandatum/mandatum/service/Exchanged" "accessToken" "Lcom/example/mandatum/mandatum/model/AccessToken;" u1) (F_idToken : Fld Z h0 b1 "com/example/mandatum/mandatum/service/Exchanged" "idToken" "Ljava/lang/String;" u2) (g1 : n0 ≤ b1) :
    MetFree l (⟨"com/example/mandatum/mandatum/service/Exchanged", "<init>", "(Lcom/example/mandatum/mandatum/model/AccessToken;Ljava/lang/String;)V"⟩ : MethodName) (head1 (Jvm.Cond.code (⟨"com/example/mandatum/mandatum/service/Exchanged", "<init>", "(Lcom/example/mandatum/mandatum/model/AccessToken;Ljava/lang/String;)V"⟩ : MethodName) prog_44_method_1_code 3 none :: []) ({ frames := 1, cells := 0, slots := 0, locals := 12 } : Room)) (fun a U => a = #[(.ref b1), .null, (.ref a1)] ∧ Z.Warmed39 U.vm ∧ U.heap = h0) (fun _ _ _ _ _ => True) (fun _ U o U' => ∃ v L, o = .returned v ∧ own_einit_Q Z b1 a1 u1 u2 h0 n0 v U'.heap L ∧ FrameEnd U o U' L ({ frames := 1, cells := 0, slots := 0, locals := 12 } : Room).cells ({ frames := 1, cells := 0, slots := 0, locals := 12 } : Room).slots) := by
  refine MetFree.of_bodySF (plainFor_of_name pn_com_example_mandatum_mandatum_service_Exchanged) hisR ?_
  intro p e s m args below meth c s₁ Bd hml0 hP hK
  obtain ⟨rfl, hZ, hh⟩ := hP
  obtain ⟨hw, ⟨G1, O2, P5⟩, ea, Se, Ee, Fe⟩ := id hW
  have hx := Bd.exec
  have hby := Bd.bytes
  have hml : c.maxLocals = 3 := hml0
  have hown : s.vm.findClass "com/example/mandatum/mandatum/service/Exchanged" = some m.cls := findClass_of_methodNamed Bd.named
  have hnm := (name_of_methodNamed Bd.named Bd.method).1
  have X0 : Stand p l e ({ frames := 1, cells := 0, slots := 0, locals := 12 } : Room) s m #[(.ref b1), .null, (.ref a1)] below meth c s₁ [] 0 0 := Stand.of_body Bd
  have e0 : s₁.heap = h0 := by rw [← hh, Bd.state]; rfl
  have N0 := Fr.nil n0
  have K0 := Keep.refl h0 [b1]
  have lt1 := own_lt E1.lt
  show own_Fin p e below (s₁.setTop (entryFrame m #[(.ref b1), .null, (.ref a1)] 3)) _
  refine own_gs (castTop (ef_own_einit m b1 a1) (Steps.refl _)) ?_
  show own_Fin p e below (s₁.setTop (mkF m 0 #[vr b1, vn, vr a1] [])) _
  refine own_gs (cur' := s₁.setTop (mkF m 1 #[vr b1, vn, vr a1] [(.ref b1)])) ?_ ?_
  · refine XS.aloadN X0.here hx rfl (hb hby d_prog_44_m_1_0) rfl rfl ?_
    exact Steps.refl _
  obtain ⟨T11, X11, e11, st11⟩ := initO X0 hx hZ hown (hw _ (List.mem_of_getElem? (i := 41) rfl)) (hw _ (List.mem_of_getElem? (i := 16) rfl)) (hw _ (List.mem_of_getElem? (i := 17) rfl)) e0 (g := (mkF m 1 #[vr b1, vn, vr a1] [(.ref b1)])) rfl (by rw [hml]; rfl) rfl (hb hby d_prog_44_m_1_1) (by decide) (W := 0) (by show 2 * 0 + _ ≤ _; exact Nat.le_of_eq rfl) (by decide)
  refine own_go st11 ?_
  show own_Fin p e below (T11.setTop (mkF m 4 #[vr b1, vn, vr a1] [])) _
  refine own_gs (cur' := T11.setTop (mkF m 6 #[vr b1, vn, vr a1] [.null, (.ref b1)])) ?_ ?_
  · refine XS.aloadN X11.here hx rfl (hb hby d_prog_44_m_1_4) rfl rfl ?_
    show Steps p.tables e below (T11.setTop (mkF m 5 #[vr b1, vn, vr a1] [(.ref b1)])) _
    refine XS.aloadN X11.here hx rfl (hb hby d_prog_44_m_1_5) rfl rfl ?_
    exact Steps.refl _
  obtain ⟨T12, h12, X12, e12, W12, st12⟩ := putF X11 hx hZ hown (host := "") (Or.inl (hw _ (List.mem_of_getElem? (i := 42) rfl))) Via.refl e11 F_accessToken E1 (Or.inr ⟨(hw _ (List.mem_of_getElem? (i := 43) rfl)), rfl, hnm⟩) (hw _ (List.mem_of_getElem? (i := 31) rfl)) (ty := (.object "com/example/mandatum/mandatum/model/AccessToken")) (by decide) rfl rfl (g := (mkF m 6 #[vr b1, vn, vr a1] [.null, (.ref b1)])) rfl rfl (hb hby d_prog_44_m_1_6)
  have F12 := F_accessToken.same W12
  refine own_go st12 ?_
  show own_Fin p e below (T12.setTop (mkF m 9 #[vr b1, vn, vr a1] [])) _
  have z13 := W12.size
  have K13 := K0.wr W12 (Or.inl (List.mem_of_getElem? (i := 0) rfl))
  have O13 := O0.wr W12 (by omega)
  have N13 := Fr.snoc X12 N0 (by omega)
  refine own_gs (cur' := T12.setTop (mkF m 11 #[vr b1, vn, vr a1] [(.ref a1), (.ref b1)])) ?_ ?_
  · refine XS.aloadN X12.here hx rfl (hb hby d_prog_44_m_1_9) rfl rfl ?_
    show Steps p.tables e below (T12.setTop (mkF m 10 #[vr b1, vn, vr a1] [(.ref b1)])) _
    refine XS.aloadN X12.here hx rfl (hb hby d_prog_44_m_1_10) rfl rfl ?_
    exact Steps.refl _
  have f15 := (F_idToken.other W12 (Or.inr (slot_ne (Or.inr (hw _ (List.mem_of_getElem? (i := 45) rfl))) (Or.inr (hw _ (List.mem_of_getElem? (i := 43) rfl))) (by decide) (t := (.object "java/lang/String")) (t' := (.object "com/example/mandatum/mandatum/model/AccessToken")) (by decide) (by decide))))
  have f16 := (E1.wr W12)
  obtain ⟨T14, h14, X14, e14, W14, st14⟩ := putF X12 hx hZ hown (host := "") (Or.inl (hw _ (List.mem_of_getElem? (i := 44) rfl))) Via.refl e12 f15 f16 (Or.inr ⟨(hw _ (List.mem_of_getElem? (i := 45) rfl)), rfl, hnm⟩) (hw _ (List.mem_of_getElem? (i := 31) rfl)) (ty := (.object "java/lang/String")) (by decide) rfl rfl (g := (mkF m 11 #[vr b1, vn, vr a1] [(.ref a1), (.ref b1)])) rfl rfl (hb hby d_prog_44_m_1_11)
  have F14 := f15.same W14
  refine own_go st14 ?_
  show own_Fin p e below (T14.setTop (mkF m 14 #[vr b1, vn, vr a1] [])) _
  have z17 := W14.size
  have K17 := K13.wr W14 (Or.inl (List.mem_of_getElem? (i := 0) rfl))
  have O17 := O13.wr W14 (by omega)
  have N17 := Fr.snoc X14 N13 (by omega)
  have f18 := (F12.other W14 (Or.inr (slot_ne (Or.inr (hw _ (List.mem_of_getElem? (i := 43) rfl))) (Or.inr (hw _ (List.mem_of_getElem? (i := 45) rfl))) (by decide) (t := (.object "com/example/mandatum/mandatum/model/AccessToken")) (t' := (.object "java/lang/String")) (by decide) (by decide))))
  obtain ⟨fs, hr, hrun, hended, hW1, hsame⟩ := X14.leave (v := none) (fun _ => rfl)
  refine ⟨_, _, X14.returnOut hx Bd.returns (hb hby d_prog_44_m_1_14) hr, hrun, hended, _, _, rfl, ?_, ⟨_, rfl⟩, hW1, hsame.mono (by decide) (by decide)⟩
  show own_einit_Q Z b1 a1 u1 u2 h0 n0 none T14.heap _
  rw [e14]
  exact ⟨rfl, N17, K17, f18, F14⟩
def own_ofid_Q (Z : State) (a1 : Nat) (h0 : Heap) (n0 : Nat) (v : Option Value) (h : Heap) (L : List Loc) : Prop := ∃ b : Nat, v = some (.ref b) ∧ Fr n0 L ∧ Keep h0 h [] ∧ Exa Z h b "com/example/mandatum/mandatum/service/Exchanged" ∧ Fld Z h b "com/example/mandatum/mandatum/service/Exchanged" "accessToken" "Lcom/example/mandatum/mandatum/model/AccessToken;" .null ∧ Fld Z h b "com/example/mandatum/mandatum/service/Exchanged" "idToken" "Ljava/lang/String;" (.ref a1) ∧ h0.size ≤ b
theorem ef_own_ofid (m : MethodId) (x0 : Nat) : entryFrame m #[(.ref x0)] 1 = mkF m 0 #[vr x0] [] := by first | (simp [entryFrame, mkF, argsToLocals, Value.category]; done) | rfl
theorem d_prog_44_m_3_0 : decode prog_44_method_3_code 0 = .ok (.new 8, 3) := by decide +kernel
theorem d_prog_44_m_3_3 : decode prog_44_method_3_code 3 = .ok (.dup, 1) := by decide +kernel
theorem d_prog_44_m_3_4 : decode prog_44_method_3_code 4 = .ok (.aconst_null, 1) := by decide +kernel
theorem d_prog_44_m_3_5 : decode prog_44_method_3_code 5 = .ok (.aload_n 0, 1) := by decide +kernel
theorem d_prog_44_m_3_6 : decode prog_44_method_3_code 6 = .ok (.ldc 17, 2) := by decide +kernel
theorem d_prog_44_m_3_8 : decode prog_44_method_3_code 8 = .ok (.invokestatic 19, 3) := by decide +kernel
theorem pd_2 : parseMethodDescriptor "(Ljava/lang/Object;Ljava/lang/String;)Ljava/lang/Object;" = some ⟨[(.object "java/lang/Object"), (.object "java/lang/String")], some (.object "java/lang/Object")⟩ := by decide +kernel
theorem d_prog_44_m_3_11 : decode prog_44_method_3_code 11 = .ok (.checkcast 30, 3) := by decide +kernel
theorem d_prog_44_m_3_14 : decode prog_44_method_3_code 14 = .ok (.invokespecial 27, 3) := by decide +kernel
theorem pd_3 : parseMethodDescriptor "(Lcom/example/mandatum/mandatum/model/AccessToken;Ljava/lang/String;)V" = some ⟨[(.object "com/example/mandatum/mandatum/model/AccessToken"), (.object "java/lang/String")], none⟩ := by decide +kernel
theorem d_prog_44_m_3_17 : decode prog_44_method_3_code 17 = .ok (.areturn, 1) := by decide +kernel
set_option maxRecDepth 65536 in
set_option maxHeartbeats 40000000 in
theorem own_ofid (l : Launch) (Z : State) (a0 : Array Value) (hW : own_W Z a0) (a1 : Nat) (h0 : Heap) (n0 : Nat) (Z0 : n0 ≤ h0.size) (O0 : Old Z n0 h0) (E1 : Exa Z h0 a1 "java/lang/String") :
    MetFree l (⟨"com/example/mandatum/mandatum/service/Exchanged", "ofIdToken", "(Ljava/lang/String;)Lcom/example/mandatum/mandatum/service/Exchanged;"⟩ : MethodName) (head1 (Jvm.Cond.code (⟨"com/example/mandatum/mandatum/service/Exchanged", "ofIdToken", "(Ljava/lang/String;)Lcom/example/mandatum/mandatum/service/Exchanged;"⟩ : MethodName) prog_44_method_3_code 1 (some (.object "com/example/mandatum/mandatum/service/Exchanged")) :: []) ({ frames := 2, cells := 3, slots := 58, locals := 30 } : Room)) (fun a U => a = #[(.ref a1)] ∧ Z.Warmed39 U.vm ∧ U.heap = h0 ∧ CHv Z own_EL U.vm h0 ∧ ∀ x ∈ ([] : List Addr), Safe Z own_EL U.vm h0 x) (fun _ _ _ _ _ => True) (fun _ U o U' => ∃ v L, o = .returned v ∧ own_ofid_Q Z a1 h0 n0 v U'.heap L ∧ CHr Z own_EL U.vm U.heap U'.vm U'.heap ∧ ReturnedEndW U o U' L ({ frames := 2, cells := 3, slots := 58, locals := 30 } : Room).cells ({ frames := 2, cells := 3, slots := 58, locals := 30 } : Room).slots) := by
  refine MetFree.of_bodySF (plainFor_of_name pn_com_example_mandatum_mandatum_service_Exchanged) hisR ?_
  intro p e s m args below meth c s₁ Bd hml0 hP hK
  obtain ⟨rfl, hZ, hh, hCH, hSf⟩ := hP
  obtain ⟨hw, ⟨G1, O2, P5⟩, ea, Se, Ee, Fe⟩ := id hW
  have hx := Bd.exec
  have hby := Bd.bytes
  have hml : c.maxLocals = 1 := hml0
  have hown : s.vm.findClass "com/example/mandatum/mandatum/service/Exchanged" = some m.cls := findClass_of_methodNamed Bd.named
  have hnm := (name_of_methodNamed Bd.named Bd.method).1
  have X0 : Stand p l e ({ frames := 2, cells := 3, slots := 58, locals := 30 } : Room) (s.setVm s.vm) m #[(.ref a1)] below meth c s₁ [] 0 0 := Stand.of_body Bd
  have e0 : s₁.heap = h0 := by rw [← hh, Bd.state]; rfl
  have N0 := Fr.nil n0
  have K0 := Keep.refl h0 []
  have hS0 : s.Since s.vm h0.size := (State.WarmedH.refl s).since _
  have CH0 : CHr Z own_EL s.vm h0 s.vm h0 := CHr.refl hCH
  have hEL := own_EW hw
  have hSA := own_SA hw
  have lt1 := own_lt E1.lt
  show own_Fin p e below (s₁.setTop (entryFrame m #[(.ref a1)] 1)) _
  refine own_gs (castTop (ef_own_ofid m a1) (Steps.refl _)) ?_
  show own_Fin p e below (s₁.setTop (mkF m 0 #[vr a1] [])) _
  obtain ⟨T11, h11, X11, e11, E11, A11, D11, -, st11⟩ := newO X0 hx hZ hown (hw _ (List.mem_of_getElem? (i := 30) rfl)) (hw _ (List.mem_of_getElem? (i := 31) rfl)) (hw _ (List.mem_of_getElem? (i := 28) rfl)) e0 (g := (mkF m 0 #[vr a1] [])) rfl (hb hby d_prog_44_m_3_0) (by decide) (by decide)
  obtain ⟨b11, g11⟩ : ∃ z, z = h0.size := ⟨_, rfl⟩
  rw [← g11] at A11 D11 st11
  have lt11 := own_lt A11.lt
  refine own_go st11 ?_
  show own_Fin p e below (T11.setTop (mkF m 3 #[vr a1] [(.ref b11)])) _
  have z12 := E11.1
  have K12 := K0.ext E11
  have O12 := O0.ext E11
  have CH12 := CH0.trans (CHr.ext E11 CH0.1)
  have F11_accessToken : Fld Z h11 b11 "com/example/mandatum/mandatum/service/Exchanged" "accessToken" "Lcom/example/mandatum/mandatum/model/AccessToken;" .null := D11 (Or.inr (hw _ (List.mem_of_getElem? (i := 43) rfl))) (ty := (.object "com/example/mandatum/mandatum/model/AccessToken")) (by decide)
  have F11_idToken : Fld Z h11 b11 "com/example/mandatum/mandatum/service/Exchanged" "idToken" "Ljava/lang/String;" .null := D11 (Or.inr (hw _ (List.mem_of_getElem? (i := 45) rfl))) (ty := (.object "java/lang/String")) (by decide)
  refine own_gs (cur' := T11.setTop (mkF m 6 #[vr a1] [(.ref a1), .null, (.ref b11), (.ref b11)])) ?_ ?_
  · refine XS.dup X11.here hx rfl (hb hby d_prog_44_m_3_3) rfl rfl ?_
    show Steps p.tables e below (T11.setTop (mkF m 4 #[vr a1] [(.ref b11), (.ref b11)])) _
    refine XS.aconstNull X11.here hx rfl (hb hby d_prog_44_m_3_4) ?_
    show Steps p.tables e below (T11.setTop (mkF m 5 #[vr a1] [.null, (.ref b11), (.ref b11)])) _
    refine XS.aloadN X11.here hx rfl (hb hby d_prog_44_m_3_5) rfl rfl ?_
    exact Steps.refl _
  obtain ⟨sa13, T13, h13, k13, sb13, c13, X13, e13, E13, hS13, hk13, hZ13, hown13, A13, Fc13, Fv13, V13, lta13, ltt13, hC13, Li13, ne13, st13⟩ := ldcCH X11 hx hZ hown (hw _ (List.mem_of_getElem? (i := 32) rfl)) hSA e11 hS0 (show h0.size ≤ h11.size by omega) hEL (own_mem_0) CH12.1 (vs := [.int (116 : Int32), .int (111 : Int32), .int (107 : Int32), .int (101 : Int32), .int (110 : Int32), .int (32 : Int32), .int (105 : Int32), .int (115 : Int32), .int (32 : Int32), .int (110 : Int32), .int (117 : Int32), .int (108 : Int32), .int (108 : Int32)]) (z := (13 : Int32)) own_lit_0 (by decide) rfl (g := (mkF m 6 #[vr a1] [(.ref a1), .null, (.ref b11), (.ref b11)])) rfl (hb hby d_prog_44_m_3_6) (n := 52) (by decide) (by decide) (by decide) (by decide)
  replace lta13 := own_lt lta13
  replace ltt13 := own_lt ltt13
  refine own_go st13 ?_
  show own_Fin p e below (T13.setTop (mkF m 8 #[vr a1] [(.ref sa13), (.ref a1), .null, (.ref b11), (.ref b11)])) _
  have z14 := E13.1
  have K14 := K12.ext E13
  have O14 := O12.ext E13
  have CH14 := CH12.trans hC13
  obtain ⟨_, _, ⟨T15, L15, k15, n15⟩, -, X15, ⟨Lc15, hQ15, l15, y15, z15⟩, st15⟩ := Jvm.LawKit.callS X13 hx (y := (⟨"java/util/Objects", "requireNonNull", "(Ljava/lang/Object;Ljava/lang/String;)Ljava/lang/Object;"⟩ : MethodName)) hown13 (mvT hZ13 (hw _ (List.mem_of_getElem? (i := 33) rfl))) (mvT hZ13 (hw _ (List.mem_of_getElem? (i := 34) rfl))) (mvT hZ13 (hw _ (List.mem_of_getElem? (i := 35) rfl))) (mvT hZ13 (hw _ (List.mem_of_getElem? (i := 36) rfl))) (by decide) (backOf (W := 3) (own_rnn l Z a0 hW a1 sa13 h13 n0 (by omega) O14) hZ13 (hw _ (List.mem_of_getElem? (i := 36) rfl)) (hw _ (List.mem_of_getElem? (i := 35) rfl)) (by decide) (by decide)) (g := (mkF m 8 #[vr a1] [(.ref sa13), (.ref a1), .null, (.ref b11), (.ref b11)])) rfl (by rw [hml]; rfl) (argsL := [(.ref a1), (.ref sa13)]) (rest := [.null, (.ref b11), (.ref b11)]) (lenOf pd_2 rfl) rfl (by show 2 * 0 + _ ≤ _; exact Nat.le_of_eq rfl) (hb hby d_prog_44_m_3_8) (fun _ _ => ⟨rfl, e13, (by decide : 3 + 0 ≤ 3), (by decide : 58 + 0 ≤ 58)⟩)
  dsimp only [Pt.U, Pt.locs, Pt.cells, Pt.slots] at X15 l15 y15 z15 st15 hQ15
  subst l15 y15 z15
  obtain ⟨rfl, Nq15, eh15⟩ := hQ15
  have N15 := Fr.app N0 Nq15
  refine own_go st15 ?_
  show own_Fin p e below (T15.setTop (mkF m 11 #[vr a1] [(.ref a1), .null, (.ref b11), (.ref b11)])) _
  have f17 := ((E1.ext E11).ext E13)
  obtain ⟨T16, X16, e16, st16⟩ := castY X15 hx hZ13 hown13 (hw _ (List.mem_of_getElem? (i := 37) rfl)) eh15 (Ins.self f17) (g := (mkF m 11 #[vr a1] [(.ref a1), .null, (.ref b11), (.ref b11)])) rfl rfl (hb hby d_prog_44_m_3_11)
  refine own_go st16 ?_
  show own_Fin p e below (T16.setTop (mkF m 14 #[vr a1] [(.ref a1), .null, (.ref b11), (.ref b11)])) _
  have f18 := (A11.ext E13)
  have f19 := (F11_accessToken.ext E13)
  have f20 := (F11_idToken.ext E13)
  obtain ⟨_, _, ⟨T21, L21, k21, n21⟩, -, X21, ⟨Lc21, hQ21, l21, y21, z21⟩, st21⟩ := X16.specialBack hx (y := (⟨"com/example/mandatum/mandatum/service/Exchanged", "<init>", "(Lcom/example/mandatum/mandatum/model/AccessToken;Ljava/lang/String;)V"⟩ : MethodName)) rfl hown13 (mvT hZ13 (hw _ (List.mem_of_getElem? (i := 38) rfl))) (mvT hZ13 (hw _ (List.mem_of_getElem? (i := 39) rfl))) (mvT hZ13 (hw _ (List.mem_of_getElem? (i := 40) rfl))) (by decide) (backOf (W := 1) (own_einit l Z a0 hW b11 a1 .null .null h13 n0 (by omega) O14 f18 f19 f20 (by omega)) hZ13 (hw _ (List.mem_of_getElem? (i := 40) rfl)) (hw _ (List.mem_of_getElem? (i := 28) rfl)) (by decide) (by decide)) (g := (mkF m 14 #[vr a1] [(.ref a1), .null, (.ref b11), (.ref b11)])) rfl (by rw [hml]; rfl) (Steps.refl _) (a := b11) (argsL := [.null, (.ref a1)]) (rest := [(.ref b11)]) (lenOf pd_3 rfl) rfl (by show 2 * 0 + _ ≤ _; exact Nat.le_of_eq rfl) (hb hby d_prog_44_m_3_14) (fun _ _ => ⟨rfl, e16, (by decide : 3 + 0 ≤ 3), (by decide : 58 + 0 ≤ 58)⟩)
  dsimp only [Pt.U, Pt.locs, Pt.cells, Pt.slots] at X21 l21 y21 z21 st21 hQ21
  subst l21 y21 z21
  obtain ⟨rfl, Nq21, Kq21, Fa21, Fi21⟩ := hQ21
  have N21 := Fr.app N15 Nq21
  have z22 := Kq21.1
  have K22 := K14.trans Kq21 (allS (Or.inr (by omega)) all0)
  have O22 := O14.keep Kq21 (allS (by omega) all0)
  have CH22 := CH14.trans (CHr.keep Kq21 (allS (Safe.exa hZ13.alike f18 (by decide) (by decide)) all0) CH14.1)
  refine own_gs st21 ?_
  show own_Fin p e below (T21.setTop (mkF m 17 #[vr a1] [(.ref b11)])) _
  have f23 := (f18.keep Kq21)
  obtain ⟨fs, hr, hrun, hended, hRE⟩ := X21.leaveW hS13 (show k13 ≤ T21.heap.size by omega) (v := (some (.ref b11))) (fun h => by rw [Bd.returns] at h; cases h)
  refine ⟨_, _, X21.areturnOut hx rfl Bd.returns rfl (hb hby d_prog_44_m_3_17) hr, hrun, hended, _, _, rfl, ?_, ?_, hRE.1, hRE.2.1, hRE.2.2.1, hRE.2.2.2.mono (by decide) (by decide)⟩
  · show own_ofid_Q Z a1 h0 n0 (some (.ref b11)) T21.heap _
    exact ⟨_, rfl, N21, K22, f23, Fa21, Fi21, (by omega)⟩
  · have hfin := CH22.trans (CHv.at X21 hZ13 hEL CH22.1)
    rw [hh]
    show CHr Z own_EL s.vm h0 T21.vm T21.heap
    exact hfin
def own_ofn0_Q (Z : State) (ea1 : Nat) (h0 : Heap) (n0 : Nat) (v : Option Value) (h : Heap) (L : List Loc) : Prop := v = some (.ref ea1) ∧ Fr n0 L ∧ h = h0
theorem pn_java_util_Optional : plainName "java/util/Optional" = true := by first | (simp [plainName, overriddenIn]; done) | decide +kernel
theorem ef_own_ofn0 (m : MethodId)  : entryFrame m #[.null] 1 = mkF m 0 #[vn] [] := by first | (simp [entryFrame, mkF, argsToLocals, Value.category]; done) | rfl
theorem d_jdk_32_m_4_0 : decode jdk_32_method_4_code 0 = .ok (.aload_n 0, 1) := by decide +kernel
theorem d_jdk_32_m_4_1 : decode jdk_32_method_4_code 1 = .ok (.ifnonnull 9, 3) := by decide +kernel
theorem d_jdk_32_m_4_4 : decode jdk_32_method_4_code 4 = .ok (.getstatic 1, 3) := by decide +kernel
theorem d_jdk_32_m_4_7 : decode jdk_32_method_4_code 7 = .ok (.goto 11, 3) := by decide +kernel
theorem d_jdk_32_m_4_18 : decode jdk_32_method_4_code 18 = .ok (.areturn, 1) := by decide +kernel
set_option maxRecDepth 65536 in
set_option maxHeartbeats 40000000 in
theorem own_ofn0 (l : Launch) (Z : State) (a0 : Array Value) (hW : own_W Z a0) (ea1 : Nat) (h0 : Heap) (n0 : Nat) (Z0 : n0 ≤ h0.size) (O0 : Old Z n0 h0) (Se1 : Sta Z Z.heap "java/util/Optional" "EMPTY" "Ljava/util/Optional;" (.ref ea1)) :
    MetFree l (⟨"java/util/Optional", "ofNullable", "(Ljava/lang/Object;)Ljava/util/Optional;"⟩ : MethodName) (head1 (Jvm.Cond.code (⟨"java/util/Optional", "ofNullable", "(Ljava/lang/Object;)Ljava/util/Optional;"⟩ : MethodName) jdk_32_method_4_code 1 (some (.object "java/util/Optional")) :: []) ({ frames := 0, cells := 0, slots := 0, locals := 0 } : Room)) (fun a U => a = #[.null] ∧ Z.Warmed39 U.vm ∧ U.heap = h0) (fun _ _ _ _ _ => True) (fun _ U o U' => ∃ v L, o = .returned v ∧ own_ofn0_Q Z ea1 h0 n0 v U'.heap L ∧ FrameEnd U o U' L ({ frames := 0, cells := 0, slots := 0, locals := 0 } : Room).cells ({ frames := 0, cells := 0, slots := 0, locals := 0 } : Room).slots) := by
  refine MetFree.of_bodySF (plainFor_of_name pn_java_util_Optional) hisR ?_
  intro p e s m args below meth c s₁ Bd hml0 hP hK
  obtain ⟨rfl, hZ, hh⟩ := hP
  obtain ⟨hw, ⟨G1, O2, P5⟩, ea, Se, Ee, Fe⟩ := id hW
  have hx := Bd.exec
  have hby := Bd.bytes
  have hml : c.maxLocals = 1 := hml0
  have hown : s.vm.findClass "java/util/Optional" = some m.cls := findClass_of_methodNamed Bd.named
  have hnm := (name_of_methodNamed Bd.named Bd.method).1
  have X0 : Stand p l e ({ frames := 0, cells := 0, slots := 0, locals := 0 } : Room) s m #[.null] below meth c s₁ [] 0 0 := Stand.of_body Bd
  have e0 : s₁.heap = h0 := by rw [← hh, Bd.state]; rfl
  have N0 := Fr.nil n0
  have K0 := Keep.refl h0 []
  show own_Fin p e below (s₁.setTop (entryFrame m #[.null] 1)) _
  refine own_gs (castTop (ef_own_ofn0 m ) (Steps.refl _)) ?_
  show own_Fin p e below (s₁.setTop (mkF m 0 #[vn] [])) _
  refine own_gs (cur' := s₁.setTop (mkF m 4 #[vn] [])) ?_ ?_
  · refine XS.aloadN X0.here hx rfl (hb hby d_jdk_32_m_4_0) rfl rfl ?_
    show Steps p.tables e below (s₁.setTop (mkF m 1 #[vn] [.null])) _
    refine XS.ifnonnullNo X0.here hx rfl (hb hby d_jdk_32_m_4_1) rfl ?_
    exact Steps.refl _
  obtain ⟨T11, X11, e11, st11⟩ := getS2 X0 hx hZ hown (host := "") (Or.inl (hw _ (List.mem_of_getElem? (i := 55) rfl))) Via.refl e0 (Se1.ext O0.2) (g := (mkF m 4 #[vn] [])) rfl (hb hby d_jdk_32_m_4_4)
  refine own_go st11 ?_
  show own_Fin p e below (T11.setTop (mkF m 7 #[vn] [(.ref ea1)])) _
  refine own_gs (cur' := T11.setTop (mkF m 18 #[vn] [(.ref ea1)])) ?_ ?_
  · refine XS.goto X11.here hx rfl (pc0 := 7) (pc' := 18) rfl (hb hby d_jdk_32_m_4_7) (by decide) (by decide) ?_
    exact Steps.refl _
  obtain ⟨fs, hr, hrun, hended, hW1, hsame⟩ := X11.leave (v := (some (.ref ea1))) (fun h => by rw [Bd.returns] at h; cases h)
  refine ⟨_, _, X11.areturnOut hx rfl Bd.returns rfl (hb hby d_jdk_32_m_4_18) hr, hrun, hended, _, _, rfl, ?_, ⟨_, rfl⟩, hW1, hsame.mono (by decide) (by decide)⟩
  show own_ofn0_Q Z ea1 h0 n0 (some (.ref ea1)) T11.heap _
  rw [e11]
  exact ⟨rfl, N0, rfl⟩
def own_oinit_Q (Z : State) (o1 a1 : Nat) (u1 : Value) (h0 : Heap) (n0 : Nat) (v : Option Value) (h : Heap) (L : List Loc) : Prop := v = none ∧ Fr n0 L ∧ Keep h0 h [o1] ∧ Fld Z h o1 "java/util/Optional" "value" "Ljava/lang/Object;" (.ref a1)
theorem ef_own_oinit (m : MethodId) (x0 : Nat) (x1 : Nat) : entryFrame m #[(.ref x0), (.ref x1)] 2 = mkF m 0 #[vr x0, vr x1] [] := by first | (simp [entryFrame, mkF, argsToLocals, Value.category]; done) | rfl
theorem d_jdk_32_m_2_0 : decode jdk_32_method_2_code 0 = .ok (.aload_n 0, 1) := by decide +kernel
theorem d_jdk_32_m_2_1 : decode jdk_32_method_2_code 1 = .ok (.invokespecial 7, 3) := by decide +kernel
theorem d_jdk_32_m_2_4 : decode jdk_32_method_2_code 4 = .ok (.aload_n 0, 1) := by decide +kernel
theorem d_jdk_32_m_2_5 : decode jdk_32_method_2_code 5 = .ok (.aload_n 1, 1) := by decide +kernel
theorem d_jdk_32_m_2_6 : decode jdk_32_method_2_code 6 = .ok (.putfield 13, 3) := by decide +kernel
theorem d_jdk_32_m_2_9 : decode jdk_32_method_2_code 9 = .ok (.return_, 1) := by decide +kernel
set_option maxRecDepth 65536 in
set_option maxHeartbeats 40000000 in
theorem own_oinit (l : Launch) (Z : State) (a0 : Array Value) (hW : own_W Z a0) (o1 a1 : Nat) (u1 : Value) (h0 : Heap) (n0 : Nat) (Z0 : n0 ≤ h0.size) (O0 : Old Z n0 h0) (E1 : Exa Z h0 o1 "java/util/Optional") (F1 : Fld Z h0 o1 "java/util/Optional" "value" "Ljava/lang/Object;" u1) (g1 : n0 ≤ o1) :
    MetFree l (⟨"java/util/Optional", "<init>", "(Ljava/lang/Object;)V"⟩ : MethodName) (head1 (Jvm.Cond.code (⟨"java/util/Optional", "<init>", "(Ljava/lang/Object;)V"⟩ : MethodName) jdk_32_method_2_code 2 none :: []) ({ frames := 1, cells := 0, slots := 0, locals := 12 } : Room)) (fun a U => a = #[(.ref o1), (.ref a1)] ∧ Z.Warmed39 U.vm ∧ U.heap = h0) (fun _ _ _ _ _ => True) (fun _ U o U' => ∃ v L, o = .returned v ∧ own_oinit_Q Z o1 a1 u1 h0 n0 v U'.heap L ∧ FrameEnd U o U' L ({ frames := 1, cells := 0, slots := 0, locals := 12 } : Room).cells ({ frames := 1, cells := 0, slots := 0, locals := 12 } : Room).slots) := by
  refine MetFree.of_bodySF (plainFor_of_name pn_java_util_Optional) hisR ?_
  intro p e s m args below meth c s₁ Bd hml0 hP hK
  obtain ⟨rfl, hZ, hh⟩ := hP
  obtain ⟨hw, ⟨G1, O2, P5⟩, ea, Se, Ee, Fe⟩ := id hW
  have hx := Bd.exec
  have hby := Bd.bytes
  have hml : c.maxLocals = 2 := hml0
  have hown : s.vm.findClass "java/util/Optional" = some m.cls := findClass_of_methodNamed Bd.named
  have hnm := (name_of_methodNamed Bd.named Bd.method).1
  have X0 : Stand p l e ({ frames := 1, cells := 0, slots := 0, locals := 12 } : Room) s m #[(.ref o1), (.ref a1)] below meth c s₁ [] 0 0 := Stand.of_body Bd
  have e0 : s₁.heap = h0 := by rw [← hh, Bd.state]; rfl
  have N0 := Fr.nil n0
  have K0 := Keep.refl h0 [o1]
  have lt1 := own_lt E1.lt
  show own_Fin p e below (s₁.setTop (entryFrame m #[(.ref o1), (.ref a1)] 2)) _
  refine own_gs (castTop (ef_own_oinit m o1 a1) (Steps.refl _)) ?_
  show own_Fin p e below (s₁.setTop (mkF m 0 #[vr o1, vr a1] [])) _
  refine own_gs (cur' := s₁.setTop (mkF m 1 #[vr o1, vr a1] [(.ref o1)])) ?_ ?_
  · refine XS.aloadN X0.here hx rfl (hb hby d_jdk_32_m_2_0) rfl rfl ?_
    exact Steps.refl _
  obtain ⟨T11, X11, e11, st11⟩ := initO X0 hx hZ hown (hw _ (List.mem_of_getElem? (i := 74) rfl)) (hw _ (List.mem_of_getElem? (i := 16) rfl)) (hw _ (List.mem_of_getElem? (i := 17) rfl)) e0 (g := (mkF m 1 #[vr o1, vr a1] [(.ref o1)])) rfl (by rw [hml]; rfl) rfl (hb hby d_jdk_32_m_2_1) (by decide) (W := 0) (by show 2 * 0 + _ ≤ _; exact Nat.le_of_eq rfl) (by decide)
  refine own_go st11 ?_
  show own_Fin p e below (T11.setTop (mkF m 4 #[vr o1, vr a1] [])) _
  refine own_gs (cur' := T11.setTop (mkF m 6 #[vr o1, vr a1] [(.ref a1), (.ref o1)])) ?_ ?_
  · refine XS.aloadN X11.here hx rfl (hb hby d_jdk_32_m_2_4) rfl rfl ?_
    show Steps p.tables e below (T11.setTop (mkF m 5 #[vr o1, vr a1] [(.ref o1)])) _
    refine XS.aloadN X11.here hx rfl (hb hby d_jdk_32_m_2_5) rfl rfl ?_
    exact Steps.refl _
  obtain ⟨T12, h12, X12, e12, W12, st12⟩ := putF X11 hx hZ hown (host := "") (Or.inl (hw _ (List.mem_of_getElem? (i := 61) rfl))) Via.refl e11 F1 E1 (Or.inr ⟨(hw _ (List.mem_of_getElem? (i := 62) rfl)), rfl, hnm⟩) (hw _ (List.mem_of_getElem? (i := 69) rfl)) (ty := (.object "java/lang/Object")) (by decide) rfl rfl (g := (mkF m 6 #[vr o1, vr a1] [(.ref a1), (.ref o1)])) rfl rfl (hb hby d_jdk_32_m_2_6)
  have F12 := F1.same W12
  refine own_go st12 ?_
  show own_Fin p e below (T12.setTop (mkF m 9 #[vr o1, vr a1] [])) _
  have z13 := W12.size
  have K13 := K0.wr W12 (Or.inl (List.mem_of_getElem? (i := 0) rfl))
  have O13 := O0.wr W12 (by omega)
  have N13 := Fr.snoc X12 N0 (by omega)
  obtain ⟨fs, hr, hrun, hended, hW1, hsame⟩ := X12.leave (v := none) (fun _ => rfl)
  refine ⟨_, _, X12.returnOut hx Bd.returns (hb hby d_jdk_32_m_2_9) hr, hrun, hended, _, _, rfl, ?_, ⟨_, rfl⟩, hW1, hsame.mono (by decide) (by decide)⟩
  show own_oinit_Q Z o1 a1 u1 h0 n0 none T12.heap _
  rw [e12]
  exact ⟨rfl, N13, K13, F12⟩
def own_ofn_Q (Z : State) (a1 : Nat) (h0 : Heap) (n0 : Nat) (v : Option Value) (h : Heap) (L : List Loc) : Prop := ∃ o : Nat, v = some (.ref o) ∧ Fr n0 L ∧ Keep h0 h [] ∧ Exa Z h o "java/util/Optional" ∧ Fld Z h o "java/util/Optional" "value" "Ljava/lang/Object;" (.ref a1) ∧ h0.size ≤ o
theorem ef_own_ofn (m : MethodId) (x0 : Nat) : entryFrame m #[(.ref x0)] 1 = mkF m 0 #[vr x0] [] := by first | (simp [entryFrame, mkF, argsToLocals, Value.category]; done) | rfl
theorem d_jdk_32_m_4_10 : decode jdk_32_method_4_code 10 = .ok (.new 2, 3) := by decide +kernel
theorem d_jdk_32_m_4_13 : decode jdk_32_method_4_code 13 = .ok (.dup, 1) := by decide +kernel
theorem d_jdk_32_m_4_14 : decode jdk_32_method_4_code 14 = .ok (.aload_n 0, 1) := by decide +kernel
theorem d_jdk_32_m_4_15 : decode jdk_32_method_4_code 15 = .ok (.invokespecial 23, 3) := by decide +kernel
theorem pd_4 : parseMethodDescriptor "(Ljava/lang/Object;)V" = some ⟨[(.object "java/lang/Object")], none⟩ := by decide +kernel
set_option maxRecDepth 65536 in
set_option maxHeartbeats 40000000 in
theorem own_ofn (l : Launch) (Z : State) (a0 : Array Value) (hW : own_W Z a0) (a1 : Nat) (h0 : Heap) (n0 : Nat) (Z0 : n0 ≤ h0.size) (O0 : Old Z n0 h0)  :
    MetFree l (⟨"java/util/Optional", "ofNullable", "(Ljava/lang/Object;)Ljava/util/Optional;"⟩ : MethodName) (head1 (Jvm.Cond.code (⟨"java/util/Optional", "ofNullable", "(Ljava/lang/Object;)Ljava/util/Optional;"⟩ : MethodName) jdk_32_method_4_code 1 (some (.object "java/util/Optional")) :: []) ({ frames := 2, cells := 1, slots := 1, locals := 30 } : Room)) (fun a U => a = #[(.ref a1)] ∧ Z.Warmed39 U.vm ∧ U.heap = h0) (fun _ _ _ _ _ => True) (fun _ U o U' => ∃ v L, o = .returned v ∧ own_ofn_Q Z a1 h0 n0 v U'.heap L ∧ FrameEnd U o U' L ({ frames := 2, cells := 1, slots := 1, locals := 30 } : Room).cells ({ frames := 2, cells := 1, slots := 1, locals := 30 } : Room).slots) := by
  refine MetFree.of_bodySF (plainFor_of_name pn_java_util_Optional) hisR ?_
  intro p e s m args below meth c s₁ Bd hml0 hP hK
  obtain ⟨rfl, hZ, hh⟩ := hP
  obtain ⟨hw, ⟨G1, O2, P5⟩, ea, Se, Ee, Fe⟩ := id hW
  have hx := Bd.exec
  have hby := Bd.bytes
  have hml : c.maxLocals = 1 := hml0
  have hown : s.vm.findClass "java/util/Optional" = some m.cls := findClass_of_methodNamed Bd.named
  have hnm := (name_of_methodNamed Bd.named Bd.method).1
  have X0 : Stand p l e ({ frames := 2, cells := 1, slots := 1, locals := 30 } : Room) s m #[(.ref a1)] below meth c s₁ [] 0 0 := Stand.of_body Bd
  have e0 : s₁.heap = h0 := by rw [← hh, Bd.state]; rfl
  have N0 := Fr.nil n0
  have K0 := Keep.refl h0 []
  show own_Fin p e below (s₁.setTop (entryFrame m #[(.ref a1)] 1)) _
  refine own_gs (castTop (ef_own_ofn m a1) (Steps.refl _)) ?_
  show own_Fin p e below (s₁.setTop (mkF m 0 #[vr a1] [])) _
  refine own_gs (cur' := s₁.setTop (mkF m 10 #[vr a1] [])) ?_ ?_
  · refine XS.aloadN X0.here hx rfl (hb hby d_jdk_32_m_4_0) rfl rfl ?_
    show Steps p.tables e below (s₁.setTop (mkF m 1 #[vr a1] [(.ref a1)])) _
    refine XS.ifnonnullYes X0.here hx rfl (pc0 := 1) (pc' := 10) rfl (hb hby d_jdk_32_m_4_1) rfl (by decide) (by decide) ?_
    exact Steps.refl _
  obtain ⟨T11, h11, X11, e11, E11, A11, D11, -, st11⟩ := newO X0 hx hZ hown (hw _ (List.mem_of_getElem? (i := 68) rfl)) (hw _ (List.mem_of_getElem? (i := 69) rfl)) (hw _ (List.mem_of_getElem? (i := 53) rfl)) e0 (g := (mkF m 10 #[vr a1] [])) rfl (hb hby d_jdk_32_m_4_10) (by decide) (by decide)
  obtain ⟨b11, g11⟩ : ∃ z, z = h0.size := ⟨_, rfl⟩
  rw [← g11] at A11 D11 st11
  have lt11 := own_lt A11.lt
  refine own_go st11 ?_
  show own_Fin p e below (T11.setTop (mkF m 13 #[vr a1] [(.ref b11)])) _
  have z12 := E11.1
  have K12 := K0.ext E11
  have O12 := O0.ext E11
  have F11_value : Fld Z h11 b11 "java/util/Optional" "value" "Ljava/lang/Object;" .null := D11 (Or.inr (hw _ (List.mem_of_getElem? (i := 62) rfl))) (ty := (.object "java/lang/Object")) (by decide)
  refine own_gs (cur' := T11.setTop (mkF m 15 #[vr a1] [(.ref a1), (.ref b11), (.ref b11)])) ?_ ?_
  · refine XS.dup X11.here hx rfl (hb hby d_jdk_32_m_4_13) rfl rfl ?_
    show Steps p.tables e below (T11.setTop (mkF m 14 #[vr a1] [(.ref b11), (.ref b11)])) _
    refine XS.aloadN X11.here hx rfl (hb hby d_jdk_32_m_4_14) rfl rfl ?_
    exact Steps.refl _
  obtain ⟨_, _, ⟨T13, L13, k13, n13⟩, -, X13, ⟨Lc13, hQ13, l13, y13, z13⟩, st13⟩ := X11.specialBack hx (y := (⟨"java/util/Optional", "<init>", "(Ljava/lang/Object;)V"⟩ : MethodName)) rfl hown (mvT hZ (hw _ (List.mem_of_getElem? (i := 70) rfl))) (mvT hZ (hw _ (List.mem_of_getElem? (i := 71) rfl))) (mvT hZ (hw _ (List.mem_of_getElem? (i := 73) rfl))) (by decide) (backOf (W := 1) (own_oinit l Z a0 hW b11 a1 .null h11 n0 (by omega) O12 A11 F11_value (by omega)) hZ (hw _ (List.mem_of_getElem? (i := 73) rfl)) (hw _ (List.mem_of_getElem? (i := 53) rfl)) (by decide) (by decide)) (g := (mkF m 15 #[vr a1] [(.ref a1), (.ref b11), (.ref b11)])) rfl (by rw [hml]; rfl) (Steps.refl _) (a := b11) (argsL := [(.ref a1)]) (rest := [(.ref b11)]) (lenOf pd_4 rfl) rfl (by show 2 * 0 + _ ≤ _; exact Nat.le_of_eq rfl) (hb hby d_jdk_32_m_4_15) (fun _ _ => ⟨rfl, e11, (by decide : 1 + 0 ≤ 1), (by decide : 1 + 0 ≤ 1)⟩)
  dsimp only [Pt.U, Pt.locs, Pt.cells, Pt.slots] at X13 l13 y13 z13 st13 hQ13
  subst l13 y13 z13
  obtain ⟨rfl, Nq13, Kq13, Fo13⟩ := hQ13
  have N13 := Fr.app N0 Nq13
  have z14 := Kq13.1
  have K14 := K12.trans Kq13 (allS (Or.inr (by omega)) all0)
  have O14 := O12.keep Kq13 (allS (by omega) all0)
  refine own_gs st13 ?_
  show own_Fin p e below (T13.setTop (mkF m 18 #[vr a1] [(.ref b11)])) _
  have f15 := (A11.keep Kq13)
  obtain ⟨fs, hr, hrun, hended, hW1, hsame⟩ := X13.leave (v := (some (.ref b11))) (fun h => by rw [Bd.returns] at h; cases h)
  refine ⟨_, _, X13.areturnOut hx rfl Bd.returns rfl (hb hby d_jdk_32_m_4_18) hr, hrun, hended, _, _, rfl, ?_, ⟨_, rfl⟩, hW1, hsame.mono (by decide) (by decide)⟩
  show own_ofn_Q Z a1 h0 n0 (some (.ref b11)) T13.heap _
  exact ⟨_, rfl, N13, K14, f15, Fo13, (by omega)⟩
def own_ise_Q (Z : State) (o1 a1 : Nat) (h0 : Heap) (n0 : Nat) (v : Option Value) (h : Heap) (L : List Loc) : Prop := v = some (.int (1 : Int32)) ∧ Fr n0 L ∧ h = h0
theorem ef_own_ise (m : MethodId) (x0 : Nat) : entryFrame m #[(.ref x0)] 1 = mkF m 0 #[vr x0] [] := by first | (simp [entryFrame, mkF, argsToLocals, Value.category]; done) | rfl
theorem d_jdk_32_m_7_0 : decode jdk_32_method_7_code 0 = .ok (.aload_n 0, 1) := by decide +kernel
theorem d_jdk_32_m_7_1 : decode jdk_32_method_7_code 1 = .ok (.getfield 13, 3) := by decide +kernel
theorem d_jdk_32_m_7_4 : decode jdk_32_method_7_code 4 = .ok (.ifnonnull 7, 3) := by decide +kernel
theorem d_jdk_32_m_7_7 : decode jdk_32_method_7_code 7 = .ok (.iconst 1, 1) := by decide +kernel
theorem d_jdk_32_m_7_8 : decode jdk_32_method_7_code 8 = .ok (.goto 4, 3) := by decide +kernel
theorem d_jdk_32_m_7_12 : decode jdk_32_method_7_code 12 = .ok (.ireturn, 1) := by decide +kernel
set_option maxRecDepth 65536 in
set_option maxHeartbeats 40000000 in
theorem own_ise (l : Launch) (Z : State) (a0 : Array Value) (hW : own_W Z a0) (o1 a1 : Nat) (h0 : Heap) (n0 : Nat) (Z0 : n0 ≤ h0.size) (O0 : Old Z n0 h0) (F1 : Fld Z h0 o1 "java/util/Optional" "value" "Ljava/lang/Object;" .null) :
    MetFree l (⟨"java/util/Optional", "isEmpty", "()Z"⟩ : MethodName) (head1 (Jvm.Cond.code (⟨"java/util/Optional", "isEmpty", "()Z"⟩ : MethodName) jdk_32_method_7_code 1 (some .boolean) :: []) ({ frames := 0, cells := 0, slots := 0, locals := 0 } : Room)) (fun a U => a = #[(.ref o1)] ∧ Z.Warmed39 U.vm ∧ U.heap = h0) (fun _ _ _ _ _ => True) (fun _ U o U' => ∃ v L, o = .returned v ∧ own_ise_Q Z o1 a1 h0 n0 v U'.heap L ∧ FrameEnd U o U' L ({ frames := 0, cells := 0, slots := 0, locals := 0 } : Room).cells ({ frames := 0, cells := 0, slots := 0, locals := 0 } : Room).slots) := by
  refine MetFree.of_bodySF (plainFor_of_name pn_java_util_Optional) hisR ?_
  intro p e s m args below meth c s₁ Bd hml0 hP hK
  obtain ⟨rfl, hZ, hh⟩ := hP
  obtain ⟨hw, ⟨G1, O2, P5⟩, ea, Se, Ee, Fe⟩ := id hW
  have hx := Bd.exec
  have hby := Bd.bytes
  have hml : c.maxLocals = 1 := hml0
  have hown : s.vm.findClass "java/util/Optional" = some m.cls := findClass_of_methodNamed Bd.named
  have hnm := (name_of_methodNamed Bd.named Bd.method).1
  have X0 : Stand p l e ({ frames := 0, cells := 0, slots := 0, locals := 0 } : Room) s m #[(.ref o1)] below meth c s₁ [] 0 0 := Stand.of_body Bd
  have e0 : s₁.heap = h0 := by rw [← hh, Bd.state]; rfl
  have N0 := Fr.nil n0
  have K0 := Keep.refl h0 []
  show own_Fin p e below (s₁.setTop (entryFrame m #[(.ref o1)] 1)) _
  refine own_gs (castTop (ef_own_ise m o1) (Steps.refl _)) ?_
  show own_Fin p e below (s₁.setTop (mkF m 0 #[vr o1] [])) _
  refine own_gs (cur' := s₁.setTop (mkF m 1 #[vr o1] [(.ref o1)])) ?_ ?_
  · refine XS.aloadN X0.here hx rfl (hb hby d_jdk_32_m_7_0) rfl rfl ?_
    exact Steps.refl _
  obtain ⟨T11, X11, e11, st11⟩ := getF X0 hx hZ hown (host := "") (Or.inl (hw _ (List.mem_of_getElem? (i := 61) rfl))) Via.refl e0 F1 (g := (mkF m 1 #[vr o1] [(.ref o1)])) rfl rfl (hb hby d_jdk_32_m_7_1)
  refine own_go st11 ?_
  show own_Fin p e below (T11.setTop (mkF m 4 #[vr o1] [.null])) _
  refine own_gs (cur' := T11.setTop (mkF m 12 #[vr o1] [(.int (1 : Int32))])) ?_ ?_
  · refine XS.ifnonnullNo X11.here hx rfl (hb hby d_jdk_32_m_7_4) rfl ?_
    show Steps p.tables e below (T11.setTop (mkF m 7 #[vr o1] [])) _
    refine XS.iconst X11.here hx rfl (hb hby d_jdk_32_m_7_7) ?_
    show Steps p.tables e below (T11.setTop (mkF m 8 #[vr o1] [(.int (1 : Int32))])) _
    refine XS.goto X11.here hx rfl (pc0 := 8) (pc' := 12) rfl (hb hby d_jdk_32_m_7_8) (by decide) (by decide) ?_
    exact Steps.refl _
  obtain ⟨fs, hr, hrun, hended, hW1, hsame⟩ := X11.leave (v := (some (.int (1 : Int32)))) (fun h => by rw [Bd.returns] at h; cases h)
  refine ⟨_, _, retN X11 hx (t := .boolean) Bd.returns (by simp) (hb hby d_jdk_32_m_7_12) hr, hrun, hended, _, _, rfl, ?_, ⟨_, rfl⟩, hW1, hsame.mono (by decide) (by decide)⟩
  show own_ise_Q Z o1 a1 h0 n0 (some (.int (1 : Int32))) T11.heap _
  rw [e11]
  exact ⟨rfl, N0, rfl⟩
def own_isp_Q (Z : State) (o1 a1 : Nat) (h0 : Heap) (n0 : Nat) (v : Option Value) (h : Heap) (L : List Loc) : Prop := v = some (.int (1 : Int32)) ∧ Fr n0 L ∧ h = h0
theorem ef_own_isp (m : MethodId) (x0 : Nat) : entryFrame m #[(.ref x0)] 1 = mkF m 0 #[vr x0] [] := by first | (simp [entryFrame, mkF, argsToLocals, Value.category]; done) | rfl
theorem d_jdk_32_m_6_0 : decode jdk_32_method_6_code 0 = .ok (.aload_n 0, 1) := by decide +kernel
theorem d_jdk_32_m_6_1 : decode jdk_32_method_6_code 1 = .ok (.getfield 13, 3) := by decide +kernel
theorem d_jdk_32_m_6_4 : decode jdk_32_method_6_code 4 = .ok (.ifnull 7, 3) := by decide +kernel
theorem d_jdk_32_m_6_7 : decode jdk_32_method_6_code 7 = .ok (.iconst 1, 1) := by decide +kernel
theorem d_jdk_32_m_6_8 : decode jdk_32_method_6_code 8 = .ok (.goto 4, 3) := by decide +kernel
theorem d_jdk_32_m_6_12 : decode jdk_32_method_6_code 12 = .ok (.ireturn, 1) := by decide +kernel
set_option maxRecDepth 65536 in
set_option maxHeartbeats 40000000 in
theorem own_isp (l : Launch) (Z : State) (a0 : Array Value) (hW : own_W Z a0) (o1 a1 : Nat) (h0 : Heap) (n0 : Nat) (Z0 : n0 ≤ h0.size) (O0 : Old Z n0 h0) (F1 : Fld Z h0 o1 "java/util/Optional" "value" "Ljava/lang/Object;" (.ref a1)) :
    MetFree l (⟨"java/util/Optional", "isPresent", "()Z"⟩ : MethodName) (head1 (Jvm.Cond.code (⟨"java/util/Optional", "isPresent", "()Z"⟩ : MethodName) jdk_32_method_6_code 1 (some .boolean) :: []) ({ frames := 0, cells := 0, slots := 0, locals := 0 } : Room)) (fun a U => a = #[(.ref o1)] ∧ Z.Warmed39 U.vm ∧ U.heap = h0) (fun _ _ _ _ _ => True) (fun _ U o U' => ∃ v L, o = .returned v ∧ own_isp_Q Z o1 a1 h0 n0 v U'.heap L ∧ FrameEnd U o U' L ({ frames := 0, cells := 0, slots := 0, locals := 0 } : Room).cells ({ frames := 0, cells := 0, slots := 0, locals := 0 } : Room).slots) := by
  refine MetFree.of_bodySF (plainFor_of_name pn_java_util_Optional) hisR ?_
  intro p e s m args below meth c s₁ Bd hml0 hP hK
  obtain ⟨rfl, hZ, hh⟩ := hP
  obtain ⟨hw, ⟨G1, O2, P5⟩, ea, Se, Ee, Fe⟩ := id hW
  have hx := Bd.exec
  have hby := Bd.bytes
  have hml : c.maxLocals = 1 := hml0
  have hown : s.vm.findClass "java/util/Optional" = some m.cls := findClass_of_methodNamed Bd.named
  have hnm := (name_of_methodNamed Bd.named Bd.method).1
  have X0 : Stand p l e ({ frames := 0, cells := 0, slots := 0, locals := 0 } : Room) s m #[(.ref o1)] below meth c s₁ [] 0 0 := Stand.of_body Bd
  have e0 : s₁.heap = h0 := by rw [← hh, Bd.state]; rfl
  have N0 := Fr.nil n0
  have K0 := Keep.refl h0 []
  show own_Fin p e below (s₁.setTop (entryFrame m #[(.ref o1)] 1)) _
  refine own_gs (castTop (ef_own_isp m o1) (Steps.refl _)) ?_
  show own_Fin p e below (s₁.setTop (mkF m 0 #[vr o1] [])) _
  refine own_gs (cur' := s₁.setTop (mkF m 1 #[vr o1] [(.ref o1)])) ?_ ?_
  · refine XS.aloadN X0.here hx rfl (hb hby d_jdk_32_m_6_0) rfl rfl ?_
    exact Steps.refl _
  obtain ⟨T11, X11, e11, st11⟩ := getF X0 hx hZ hown (host := "") (Or.inl (hw _ (List.mem_of_getElem? (i := 61) rfl))) Via.refl e0 F1 (g := (mkF m 1 #[vr o1] [(.ref o1)])) rfl rfl (hb hby d_jdk_32_m_6_1)
  refine own_go st11 ?_
  show own_Fin p e below (T11.setTop (mkF m 4 #[vr o1] [(.ref a1)])) _
  refine own_gs (cur' := T11.setTop (mkF m 12 #[vr o1] [(.int (1 : Int32))])) ?_ ?_
  · refine XS.ifnullNo X11.here hx rfl (hb hby d_jdk_32_m_6_4) rfl ?_
    show Steps p.tables e below (T11.setTop (mkF m 7 #[vr o1] [])) _
    refine XS.iconst X11.here hx rfl (hb hby d_jdk_32_m_6_7) ?_
    show Steps p.tables e below (T11.setTop (mkF m 8 #[vr o1] [(.int (1 : Int32))])) _
    refine XS.goto X11.here hx rfl (pc0 := 8) (pc' := 12) rfl (hb hby d_jdk_32_m_6_8) (by decide) (by decide) ?_
    exact Steps.refl _
  obtain ⟨fs, hr, hrun, hended, hW1, hsame⟩ := X11.leave (v := (some (.int (1 : Int32)))) (fun h => by rw [Bd.returns] at h; cases h)
  refine ⟨_, _, retN X11 hx (t := .boolean) Bd.returns (by simp) (hb hby d_jdk_32_m_6_12) hr, hrun, hended, _, _, rfl, ?_, ⟨_, rfl⟩, hW1, hsame.mono (by decide) (by decide)⟩
  show own_isp_Q Z o1 a1 h0 n0 (some (.int (1 : Int32))) T11.heap _
  rw [e11]
  exact ⟨rfl, N0, rfl⟩
def own_get_Q (Z : State) (o1 a1 : Nat) (h0 : Heap) (n0 : Nat) (v : Option Value) (h : Heap) (L : List Loc) : Prop := v = some (.ref a1) ∧ Fr n0 L ∧ h = h0
theorem ef_own_get (m : MethodId) (x0 : Nat) : entryFrame m #[(.ref x0)] 1 = mkF m 0 #[vr x0] [] := by first | (simp [entryFrame, mkF, argsToLocals, Value.category]; done) | rfl
theorem d_jdk_32_m_5_0 : decode jdk_32_method_5_code 0 = .ok (.aload_n 0, 1) := by decide +kernel
theorem d_jdk_32_m_5_1 : decode jdk_32_method_5_code 1 = .ok (.getfield 13, 3) := by decide +kernel
theorem d_jdk_32_m_5_4 : decode jdk_32_method_5_code 4 = .ok (.ifnonnull 13, 3) := by decide +kernel
theorem d_jdk_32_m_5_17 : decode jdk_32_method_5_code 17 = .ok (.aload_n 0, 1) := by decide +kernel
theorem d_jdk_32_m_5_18 : decode jdk_32_method_5_code 18 = .ok (.getfield 13, 3) := by decide +kernel
theorem d_jdk_32_m_5_21 : decode jdk_32_method_5_code 21 = .ok (.areturn, 1) := by decide +kernel
set_option maxRecDepth 65536 in
set_option maxHeartbeats 40000000 in
theorem own_get (l : Launch) (Z : State) (a0 : Array Value) (hW : own_W Z a0) (o1 a1 : Nat) (h0 : Heap) (n0 : Nat) (Z0 : n0 ≤ h0.size) (O0 : Old Z n0 h0) (F1 : Fld Z h0 o1 "java/util/Optional" "value" "Ljava/lang/Object;" (.ref a1)) :
    MetFree l (⟨"java/util/Optional", "get", "()Ljava/lang/Object;"⟩ : MethodName) (head1 (Jvm.Cond.code (⟨"java/util/Optional", "get", "()Ljava/lang/Object;"⟩ : MethodName) jdk_32_method_5_code 1 (some (.object "java/lang/Object")) :: []) ({ frames := 0, cells := 0, slots := 0, locals := 0 } : Room)) (fun a U => a = #[(.ref o1)] ∧ Z.Warmed39 U.vm ∧ U.heap = h0) (fun _ _ _ _ _ => True) (fun _ U o U' => ∃ v L, o = .returned v ∧ own_get_Q Z o1 a1 h0 n0 v U'.heap L ∧ FrameEnd U o U' L ({ frames := 0, cells := 0, slots := 0, locals := 0 } : Room).cells ({ frames := 0, cells := 0, slots := 0, locals := 0 } : Room).slots) := by
  refine MetFree.of_bodySF (plainFor_of_name pn_java_util_Optional) hisR ?_
  intro p e s m args below meth c s₁ Bd hml0 hP hK
  obtain ⟨rfl, hZ, hh⟩ := hP
  obtain ⟨hw, ⟨G1, O2, P5⟩, ea, Se, Ee, Fe⟩ := id hW
  have hx := Bd.exec
  have hby := Bd.bytes
  have hml : c.maxLocals = 1 := hml0
  have hown : s.vm.findClass "java/util/Optional" = some m.cls := findClass_of_methodNamed Bd.named
  have hnm := (name_of_methodNamed Bd.named Bd.method).1
  have X0 : Stand p l e ({ frames := 0, cells := 0, slots := 0, locals := 0 } : Room) s m #[(.ref o1)] below meth c s₁ [] 0 0 := Stand.of_body Bd
  have e0 : s₁.heap = h0 := by rw [← hh, Bd.state]; rfl
  have N0 := Fr.nil n0
  have K0 := Keep.refl h0 []
  show own_Fin p e below (s₁.setTop (entryFrame m #[(.ref o1)] 1)) _
  refine own_gs (castTop (ef_own_get m o1) (Steps.refl _)) ?_
  show own_Fin p e below (s₁.setTop (mkF m 0 #[vr o1] [])) _
  refine own_gs (cur' := s₁.setTop (mkF m 1 #[vr o1] [(.ref o1)])) ?_ ?_
  · refine XS.aloadN X0.here hx rfl (hb hby d_jdk_32_m_5_0) rfl rfl ?_
    exact Steps.refl _
  obtain ⟨T11, X11, e11, st11⟩ := getF X0 hx hZ hown (host := "") (Or.inl (hw _ (List.mem_of_getElem? (i := 61) rfl))) Via.refl e0 F1 (g := (mkF m 1 #[vr o1] [(.ref o1)])) rfl rfl (hb hby d_jdk_32_m_5_1)
  refine own_go st11 ?_
  show own_Fin p e below (T11.setTop (mkF m 4 #[vr o1] [(.ref a1)])) _
  refine own_gs (cur' := T11.setTop (mkF m 18 #[vr o1] [(.ref o1)])) ?_ ?_
  · refine XS.ifnonnullYes X11.here hx rfl (pc0 := 4) (pc' := 17) rfl (hb hby d_jdk_32_m_5_4) rfl (by decide) (by decide) ?_
    show Steps p.tables e below (T11.setTop (mkF m 17 #[vr o1] [])) _
    refine XS.aloadN X11.here hx rfl (hb hby d_jdk_32_m_5_17) rfl rfl ?_
    exact Steps.refl _
  obtain ⟨T12, X12, e12, st12⟩ := getF X11 hx hZ hown (host := "") (Or.inl (hw _ (List.mem_of_getElem? (i := 61) rfl))) Via.refl e11 F1 (g := (mkF m 18 #[vr o1] [(.ref o1)])) rfl rfl (hb hby d_jdk_32_m_5_18)
  refine own_go st12 ?_
  show own_Fin p e below (T12.setTop (mkF m 21 #[vr o1] [(.ref a1)])) _
  obtain ⟨fs, hr, hrun, hended, hW1, hsame⟩ := X12.leave (v := (some (.ref a1))) (fun h => by rw [Bd.returns] at h; cases h)
  refine ⟨_, _, X12.areturnOut hx rfl Bd.returns rfl (hb hby d_jdk_32_m_5_21) hr, hrun, hended, _, _, rfl, ?_, ⟨_, rfl⟩, hW1, hsame.mono (by decide) (by decide)⟩
  show own_get_Q Z o1 a1 h0 n0 (some (.ref a1)) T12.heap _
  rw [e12]
  exact ⟨rfl, N0, rfl⟩
def own_acc_Q (Z : State) (b1 ea1 : Nat) (h0 : Heap) (n0 : Nat) (v : Option Value) (h : Heap) (L : List Loc) : Prop := v = some (.ref ea1) ∧ Fr n0 L ∧ h = h0
theorem ef_own_acc (m : MethodId) (x0 : Nat) : entryFrame m #[(.ref x0)] 1 = mkF m 0 #[vr x0] [] := by first | (simp [entryFrame, mkF, argsToLocals, Value.category]; done) | rfl
theorem d_prog_44_m_4_0 : decode prog_44_method_4_code 0 = .ok (.aload_n 0, 1) := by decide +kernel
theorem d_prog_44_m_4_1 : decode prog_44_method_4_code 1 = .ok (.getfield 7, 3) := by decide +kernel
theorem d_prog_44_m_4_4 : decode prog_44_method_4_code 4 = .ok (.invokestatic 32, 3) := by decide +kernel
theorem pd_5 : parseMethodDescriptor "(Ljava/lang/Object;)Ljava/util/Optional;" = some ⟨[(.object "java/lang/Object")], some (.object "java/util/Optional")⟩ := by decide +kernel
theorem d_prog_44_m_4_7 : decode prog_44_method_4_code 7 = .ok (.areturn, 1) := by decide +kernel
set_option maxRecDepth 65536 in
set_option maxHeartbeats 40000000 in
theorem own_acc (l : Launch) (Z : State) (a0 : Array Value) (hW : own_W Z a0) (b1 ea1 : Nat) (h0 : Heap) (n0 : Nat) (Z0 : n0 ≤ h0.size) (O0 : Old Z n0 h0) (Se1 : Sta Z Z.heap "java/util/Optional" "EMPTY" "Ljava/util/Optional;" (.ref ea1)) (F1 : Fld Z h0 b1 "com/example/mandatum/mandatum/service/Exchanged" "accessToken" "Lcom/example/mandatum/mandatum/model/AccessToken;" .null) :
    MetFree l (⟨"com/example/mandatum/mandatum/service/Exchanged", "accessToken", "()Ljava/util/Optional;"⟩ : MethodName) (head1 (Jvm.Cond.code (⟨"com/example/mandatum/mandatum/service/Exchanged", "accessToken", "()Ljava/util/Optional;"⟩ : MethodName) prog_44_method_4_code 1 (some (.object "java/util/Optional")) :: []) ({ frames := 1, cells := 0, slots := 0, locals := 12 } : Room)) (fun a U => a = #[(.ref b1)] ∧ Z.Warmed39 U.vm ∧ U.heap = h0) (fun _ _ _ _ _ => True) (fun _ U o U' => ∃ v L, o = .returned v ∧ own_acc_Q Z b1 ea1 h0 n0 v U'.heap L ∧ FrameEnd U o U' L ({ frames := 1, cells := 0, slots := 0, locals := 12 } : Room).cells ({ frames := 1, cells := 0, slots := 0, locals := 12 } : Room).slots) := by
  refine MetFree.of_bodySF (plainFor_of_name pn_com_example_mandatum_mandatum_service_Exchanged) hisR ?_
  intro p e s m args below meth c s₁ Bd hml0 hP hK
  obtain ⟨rfl, hZ, hh⟩ := hP
  obtain ⟨hw, ⟨G1, O2, P5⟩, ea, Se, Ee, Fe⟩ := id hW
  have hx := Bd.exec
  have hby := Bd.bytes
  have hml : c.maxLocals = 1 := hml0
  have hown : s.vm.findClass "com/example/mandatum/mandatum/service/Exchanged" = some m.cls := findClass_of_methodNamed Bd.named
  have hnm := (name_of_methodNamed Bd.named Bd.method).1
  have X0 : Stand p l e ({ frames := 1, cells := 0, slots := 0, locals := 12 } : Room) s m #[(.ref b1)] below meth c s₁ [] 0 0 := Stand.of_body Bd
  have e0 : s₁.heap = h0 := by rw [← hh, Bd.state]; rfl
  have N0 := Fr.nil n0
  have K0 := Keep.refl h0 []
  show own_Fin p e below (s₁.setTop (entryFrame m #[(.ref b1)] 1)) _
  refine own_gs (castTop (ef_own_acc m b1) (Steps.refl _)) ?_
  show own_Fin p e below (s₁.setTop (mkF m 0 #[vr b1] [])) _
  refine own_gs (cur' := s₁.setTop (mkF m 1 #[vr b1] [(.ref b1)])) ?_ ?_
  · refine XS.aloadN X0.here hx rfl (hb hby d_prog_44_m_4_0) rfl rfl ?_
    exact Steps.refl _
  obtain ⟨T11, X11, e11, st11⟩ := getF X0 hx hZ hown (host := "") (Or.inl (hw _ (List.mem_of_getElem? (i := 42) rfl))) Via.refl e0 F1 (g := (mkF m 1 #[vr b1] [(.ref b1)])) rfl rfl (hb hby d_prog_44_m_4_1)
  refine own_go st11 ?_
  show own_Fin p e below (T11.setTop (mkF m 4 #[vr b1] [.null])) _
  obtain ⟨_, _, ⟨T12, L12, k12, n12⟩, -, X12, ⟨Lc12, hQ12, l12, y12, z12⟩, st12⟩ := Jvm.LawKit.callS X11 hx (y := (⟨"java/util/Optional", "ofNullable", "(Ljava/lang/Object;)Ljava/util/Optional;"⟩ : MethodName)) hown (mvT hZ (hw _ (List.mem_of_getElem? (i := 51) rfl))) (mvT hZ (hw _ (List.mem_of_getElem? (i := 52) rfl))) (mvT hZ (hw _ (List.mem_of_getElem? (i := 53) rfl))) (mvT hZ (hw _ (List.mem_of_getElem? (i := 54) rfl))) (by decide) (backOf (W := 0) (own_ofn0 l Z a0 hW ea1 h0 n0 (by omega) O0 Se1) hZ (hw _ (List.mem_of_getElem? (i := 54) rfl)) (hw _ (List.mem_of_getElem? (i := 53) rfl)) (by decide) (by decide)) (g := (mkF m 4 #[vr b1] [.null])) rfl (by rw [hml]; rfl) (argsL := [.null]) (rest := []) (lenOf pd_5 rfl) rfl (by show 2 * 0 + _ ≤ _; exact Nat.le_of_eq rfl) (hb hby d_prog_44_m_4_4) (fun _ _ => ⟨rfl, e11, (by decide : 0 + 0 ≤ 0), (by decide : 0 + 0 ≤ 0)⟩)
  dsimp only [Pt.U, Pt.locs, Pt.cells, Pt.slots] at X12 l12 y12 z12 st12 hQ12
  subst l12 y12 z12
  obtain ⟨rfl, Nq12, eh12⟩ := hQ12
  have N12 := Fr.app N0 Nq12
  refine own_go st12 ?_
  show own_Fin p e below (T12.setTop (mkF m 7 #[vr b1] [(.ref ea1)])) _
  obtain ⟨fs, hr, hrun, hended, hW1, hsame⟩ := X12.leave (v := (some (.ref ea1))) (fun h => by rw [Bd.returns] at h; cases h)
  refine ⟨_, _, X12.areturnOut hx rfl Bd.returns rfl (hb hby d_prog_44_m_4_7) hr, hrun, hended, _, _, rfl, ?_, ⟨_, rfl⟩, hW1, hsame.mono (by decide) (by decide)⟩
  show own_acc_Q Z b1 ea1 h0 n0 (some (.ref ea1)) T12.heap _
  rw [eh12]
  exact ⟨rfl, N12, rfl⟩
def own_idt_Q (Z : State) (b1 a1 : Nat) (h0 : Heap) (n0 : Nat) (v : Option Value) (h : Heap) (L : List Loc) : Prop := ∃ o : Nat, v = some (.ref o) ∧ Fr n0 L ∧ Keep h0 h [] ∧ Exa Z h o "java/util/Optional" ∧ Fld Z h o "java/util/Optional" "value" "Ljava/lang/Object;" (.ref a1) ∧ h0.size ≤ o
theorem ef_own_idt (m : MethodId) (x0 : Nat) : entryFrame m #[(.ref x0)] 1 = mkF m 0 #[vr x0] [] := by first | (simp [entryFrame, mkF, argsToLocals, Value.category]; done) | rfl
theorem d_prog_44_m_5_0 : decode prog_44_method_5_code 0 = .ok (.aload_n 0, 1) := by decide +kernel
theorem d_prog_44_m_5_1 : decode prog_44_method_5_code 1 = .ok (.getfield 13, 3) := by decide +kernel
theorem d_prog_44_m_5_4 : decode prog_44_method_5_code 4 = .ok (.invokestatic 32, 3) := by decide +kernel
theorem d_prog_44_m_5_7 : decode prog_44_method_5_code 7 = .ok (.areturn, 1) := by decide +kernel
set_option maxRecDepth 65536 in
set_option maxHeartbeats 40000000 in
theorem own_idt (l : Launch) (Z : State) (a0 : Array Value) (hW : own_W Z a0) (b1 a1 : Nat) (h0 : Heap) (n0 : Nat) (Z0 : n0 ≤ h0.size) (O0 : Old Z n0 h0) (F1 : Fld Z h0 b1 "com/example/mandatum/mandatum/service/Exchanged" "idToken" "Ljava/lang/String;" (.ref a1)) :
    MetFree l (⟨"com/example/mandatum/mandatum/service/Exchanged", "idToken", "()Ljava/util/Optional;"⟩ : MethodName) (head1 (Jvm.Cond.code (⟨"com/example/mandatum/mandatum/service/Exchanged", "idToken", "()Ljava/util/Optional;"⟩ : MethodName) prog_44_method_5_code 1 (some (.object "java/util/Optional")) :: []) ({ frames := 3, cells := 1, slots := 1, locals := 42 } : Room)) (fun a U => a = #[(.ref b1)] ∧ Z.Warmed39 U.vm ∧ U.heap = h0) (fun _ _ _ _ _ => True) (fun _ U o U' => ∃ v L, o = .returned v ∧ own_idt_Q Z b1 a1 h0 n0 v U'.heap L ∧ FrameEnd U o U' L ({ frames := 3, cells := 1, slots := 1, locals := 42 } : Room).cells ({ frames := 3, cells := 1, slots := 1, locals := 42 } : Room).slots) := by
  refine MetFree.of_bodySF (plainFor_of_name pn_com_example_mandatum_mandatum_service_Exchanged) hisR ?_
  intro p e s m args below meth c s₁ Bd hml0 hP hK
  obtain ⟨rfl, hZ, hh⟩ := hP
  obtain ⟨hw, ⟨G1, O2, P5⟩, ea, Se, Ee, Fe⟩ := id hW
  have hx := Bd.exec
  have hby := Bd.bytes
  have hml : c.maxLocals = 1 := hml0
  have hown : s.vm.findClass "com/example/mandatum/mandatum/service/Exchanged" = some m.cls := findClass_of_methodNamed Bd.named
  have hnm := (name_of_methodNamed Bd.named Bd.method).1
  have X0 : Stand p l e ({ frames := 3, cells := 1, slots := 1, locals := 42 } : Room) s m #[(.ref b1)] below meth c s₁ [] 0 0 := Stand.of_body Bd
  have e0 : s₁.heap = h0 := by rw [← hh, Bd.state]; rfl
  have N0 := Fr.nil n0
  have K0 := Keep.refl h0 []
  show own_Fin p e below (s₁.setTop (entryFrame m #[(.ref b1)] 1)) _
  refine own_gs (castTop (ef_own_idt m b1) (Steps.refl _)) ?_
  show own_Fin p e below (s₁.setTop (mkF m 0 #[vr b1] [])) _
  refine own_gs (cur' := s₁.setTop (mkF m 1 #[vr b1] [(.ref b1)])) ?_ ?_
  · refine XS.aloadN X0.here hx rfl (hb hby d_prog_44_m_5_0) rfl rfl ?_
    exact Steps.refl _
  obtain ⟨T11, X11, e11, st11⟩ := getF X0 hx hZ hown (host := "") (Or.inl (hw _ (List.mem_of_getElem? (i := 44) rfl))) Via.refl e0 F1 (g := (mkF m 1 #[vr b1] [(.ref b1)])) rfl rfl (hb hby d_prog_44_m_5_1)
  refine own_go st11 ?_
  show own_Fin p e below (T11.setTop (mkF m 4 #[vr b1] [(.ref a1)])) _
  obtain ⟨_, _, ⟨T12, L12, k12, n12⟩, -, X12, ⟨Lc12, hQ12, l12, y12, z12⟩, st12⟩ := Jvm.LawKit.callS X11 hx (y := (⟨"java/util/Optional", "ofNullable", "(Ljava/lang/Object;)Ljava/util/Optional;"⟩ : MethodName)) hown (mvT hZ (hw _ (List.mem_of_getElem? (i := 51) rfl))) (mvT hZ (hw _ (List.mem_of_getElem? (i := 52) rfl))) (mvT hZ (hw _ (List.mem_of_getElem? (i := 53) rfl))) (mvT hZ (hw _ (List.mem_of_getElem? (i := 54) rfl))) (by decide) (backOf (W := 0) (own_ofn l Z a0 hW a1 h0 n0 (by omega) O0) hZ (hw _ (List.mem_of_getElem? (i := 54) rfl)) (hw _ (List.mem_of_getElem? (i := 53) rfl)) (by decide) (by decide)) (g := (mkF m 4 #[vr b1] [(.ref a1)])) rfl (by rw [hml]; rfl) (argsL := [(.ref a1)]) (rest := []) (lenOf pd_5 rfl) rfl (by show 2 * 0 + _ ≤ _; exact Nat.le_of_eq rfl) (hb hby d_prog_44_m_5_4) (fun _ _ => ⟨rfl, e11, (by decide : 0 + 1 ≤ 1), (by decide : 0 + 1 ≤ 1)⟩)
  dsimp only [Pt.U, Pt.locs, Pt.cells, Pt.slots] at X12 l12 y12 z12 st12 hQ12
  subst l12 y12 z12
  obtain ⟨o, rfl, Nq12, Kq12, Eo12, Fo12, go12⟩ := hQ12
  have N12 := Fr.app N0 Nq12
  have z13 := Kq12.1
  have K13 := K0.trans Kq12 all0
  have O13 := O0.keep Kq12 all0
  refine own_go st12 ?_
  show own_Fin p e below (T12.setTop (mkF m 7 #[vr b1] [(.ref o)])) _
  obtain ⟨fs, hr, hrun, hended, hW1, hsame⟩ := X12.leave (v := (some (.ref o))) (fun h => by rw [Bd.returns] at h; cases h)
  refine ⟨_, _, X12.areturnOut hx rfl Bd.returns rfl (hb hby d_prog_44_m_5_7) hr, hrun, hended, _, _, rfl, ?_, ⟨_, rfl⟩, hW1, hsame.mono (by decide) (by decide)⟩
  show own_idt_Q Z b1 a1 h0 n0 (some (.ref o)) T12.heap _
  exact ⟨_, rfl, N12, K13, Eo12, Fo12, (by omega)⟩
def own_law_Q (Z : State) (p0 p1 p2 p3 : Int32) (h0 : Heap) (n0 : Nat) (v : Option Value) (h : Heap) (L : List Loc) : Prop := v = some (.int (1 : Int32)) ∧ Fr n0 L
theorem ef_own_law (m : MethodId) (x0 : Int32) (x1 : Int32) (x2 : Int32) (x3 : Int32) : entryFrame m #[(.int x0), (.int x1), (.int x2), (.int x3)] maxLocals = mkF m 0 #[vi x0, vi x1, vi x2, vi x3, .unset, .unset, .unset, .unset, .unset, .unset, .unset, .unset] [] := by first | (simp [entryFrame, mkF, argsToLocals, Value.category, maxLocals]; done) | rfl
theorem pd_6 : parseMethodDescriptor "(ICCC)Ljava/lang/String;" = some ⟨[.int, .char, .char, .char], some (.object "java/lang/String")⟩ := by decide +kernel
theorem pd_7 : parseMethodDescriptor "(Ljava/lang/String;)Lcom/example/mandatum/mandatum/service/Exchanged;" = some ⟨[(.object "java/lang/String")], some (.object "com/example/mandatum/mandatum/service/Exchanged")⟩ := by decide +kernel
theorem pd_8 : parseMethodDescriptor "()Ljava/util/Optional;" = some ⟨[], some (.object "java/util/Optional")⟩ := by decide +kernel
theorem pd_9 : parseMethodDescriptor "()Z" = some ⟨[], some .boolean⟩ := by decide +kernel
theorem pd_10 : parseMethodDescriptor "()Ljava/lang/Object;" = some ⟨[], some (.object "java/lang/Object")⟩ := by decide +kernel
theorem pd_11 : parseMethodDescriptor "()I" = some ⟨[], some .int⟩ := by decide +kernel
theorem pd_12 : parseMethodDescriptor "(Ljava/lang/Object;)Z" = some ⟨[(.object "java/lang/Object")], some .boolean⟩ := by decide +kernel
set_option maxRecDepth 65536 in
set_option maxHeartbeats 40000000 in
theorem own_law (l : Launch) (Z : State) (a0 : Array Value) (hW : own_W Z a0) (ws : List Jvm.Cond) (p0 p1 p2 p3 : Int32) (h0 : Heap) (n0 : Nat) (Z0 : n0 ≤ h0.size) (O0 : Old Z n0 h0)  :
    MetFree l x (head1 (Jvm.Cond.code x code maxLocals ret :: ws) room_1) (fun a U => a = #[(.int p0), (.int p1), (.int p2), (.int p3)] ∧ Z.Warmed39 U.vm ∧ U.heap = h0 ∧ CHv Z own_EL U.vm h0 ∧ ∀ x ∈ ([] : List Addr), Safe Z own_EL U.vm h0 x) (fun _ _ _ _ _ => True) (fun _ U o U' => ∃ v L, o = .returned v ∧ own_law_Q Z p0 p1 p2 p3 h0 n0 v U'.heap L ∧ CHr Z own_EL U.vm U.heap U'.vm U'.heap ∧ ReturnedEndW U o U' L room_1.cells room_1.slots) := by
  refine MetFree.of_bodySF (plainFor_of_name pn_com_example_mandatum_mandatum_service_ExchangedOfIdTokenPinLaw) hisR ?_
  intro p e s m args below meth c s₁ Bd hml0 hP hK
  obtain ⟨rfl, hZ, hh, hCH, hSf⟩ := hP
  obtain ⟨hw, ⟨G1, O2, P5⟩, ea, Se, Ee, Fe⟩ := id hW
  have hx := Bd.exec
  have hby := Bd.bytes
  have hml : c.maxLocals = 12 := hml0
  have hown : s.vm.findClass "com/example/mandatum/mandatum/service/ExchangedOfIdTokenPinLaw" = some m.cls := findClass_of_methodNamed Bd.named
  have hnm := (name_of_methodNamed Bd.named Bd.method).1
  have X0 : Stand p l e room_1 (s.setVm s.vm) m #[(.int p0), (.int p1), (.int p2), (.int p3)] below meth c s₁ [] 0 0 := Stand.of_body Bd
  have e0 : s₁.heap = h0 := by rw [← hh, Bd.state]; rfl
  have N0 := Fr.nil n0
  have K0 := Keep.refl h0 []
  have hS0 : s.Since s.vm h0.size := (State.WarmedH.refl s).since _
  have CH0 : CHr Z own_EL s.vm h0 s.vm h0 := CHr.refl hCH
  have hEL := own_EW hw
  have hSA := own_SA hw
  show own_Fin p e below (s₁.setTop (entryFrame m #[(.int p0), (.int p1), (.int p2), (.int p3)] maxLocals)) _
  refine own_gs (castTop (ef_own_law m p0 p1 p2 p3) (Steps.refl _)) ?_
  show own_Fin p e below (s₁.setTop (mkF m 0 #[vi p0, vi p1, vi p2, vi p3, uu, uu, uu, uu, uu, uu, uu, uu] [])) _
  refine own_gs (cur' := s₁.setTop (mkF m 3 #[vi p0, vi p1, vi p2, vi p3, uu, uu, uu, uu, uu, uu, uu, uu] [(.int (p0 &&& (3 : Int32)))])) ?_ ?_
  · refine XS.iloadN X0.here hx rfl (hb hby at_0) rfl ?_
    show Steps p.tables e below (s₁.setTop (mkF m 1 #[vi p0, vi p1, vi p2, vi p3, uu, uu, uu, uu, uu, uu, uu, uu] [(.int p0)])) _
    refine XS.iconst X0.here hx rfl (hb hby at_1) ?_
    show Steps p.tables e below (s₁.setTop (mkF m 2 #[vi p0, vi p1, vi p2, vi p3, uu, uu, uu, uu, uu, uu, uu, uu] [(.int (3 : Int32)), (.int p0)])) _
    refine XS.iand X0.here hx rfl (hb hby at_2) rfl ?_
    exact Steps.refl _
  rcases own_and3 p0 with hn | hn | hn | hn
  · rw [hn]
    show own_Fin p e below (s₁.setTop (mkF m 3 #[vi p0, vi p1, vi p2, vi p3, uu, uu, uu, uu, uu, uu, uu, uu] [(.int (0 : Int32))])) _
    refine own_gs (cur' := s₁.setTop (mkF m 11 #[vi p0, vi p1, vi p2, vi p3, vi (0 : Int32), uu, uu, uu, uu, uu, uu, uu] [(.int ((p1 &&& (255 : Int32)).toUInt32.toUInt16.toUInt32.toInt32))])) ?_ ?_
    · refine XS.istore X0.here hx rfl (hb hby at_3) rfl (l' := #[vi p0, vi p1, vi p2, vi p3, vi (0 : Int32), uu, uu, uu, uu, uu, uu, uu]) rfl ?_
      show Steps p.tables e below (s₁.setTop (mkF m 5 #[vi p0, vi p1, vi p2, vi p3, vi (0 : Int32), uu, uu, uu, uu, uu, uu, uu] [])) _
      refine XS.iloadN X0.here hx rfl (hb hby at_5) rfl ?_
      show Steps p.tables e below (s₁.setTop (mkF m 6 #[vi p0, vi p1, vi p2, vi p3, vi (0 : Int32), uu, uu, uu, uu, uu, uu, uu] [(.int p1)])) _
      refine XS.sipush X0.here hx rfl (hb hby at_6) ?_
      show Steps p.tables e below (s₁.setTop (mkF m 9 #[vi p0, vi p1, vi p2, vi p3, vi (0 : Int32), uu, uu, uu, uu, uu, uu, uu] [(.int (255 : Int32)), (.int p1)])) _
      refine XS.iand X0.here hx rfl (hb hby at_9) rfl ?_
      show Steps p.tables e below (s₁.setTop (mkF m 10 #[vi p0, vi p1, vi p2, vi p3, vi (0 : Int32), uu, uu, uu, uu, uu, uu, uu] [(.int (p1 &&& (255 : Int32)))])) _
      refine XS.i2c X0.here hx rfl (hb hby at_10) rfl ?_
      exact Steps.refl _
    generalize hv_ca : ((p1 &&& (255 : Int32)).toUInt32.toUInt16.toUInt32.toInt32) = ca
    show own_Fin p e below (s₁.setTop (mkF m 11 #[vi p0, vi p1, vi p2, vi p3, vi (0 : Int32), uu, uu, uu, uu, uu, uu, uu] [(.int ca)])) _
    have hca : ¬ ca < 0 ∧ ¬ (255 : Int32) < ca := by rw [← hv_ca]; exact own_m255 _
    refine own_gs (cur' := s₁.setTop (mkF m 19 #[vi p0, vi p1, vi p2, vi p3, vi (0 : Int32), vi ca, uu, uu, uu, uu, uu, uu] [(.int ((p2 &&& (255 : Int32)).toUInt32.toUInt16.toUInt32.toInt32))])) ?_ ?_
    · refine XS.istore X0.here hx rfl (hb hby at_11) rfl (l' := #[vi p0, vi p1, vi p2, vi p3, vi (0 : Int32), vi ca, uu, uu, uu, uu, uu, uu]) rfl ?_
      show Steps p.tables e below (s₁.setTop (mkF m 13 #[vi p0, vi p1, vi p2, vi p3, vi (0 : Int32), vi ca, uu, uu, uu, uu, uu, uu] [])) _
      refine XS.iloadN X0.here hx rfl (hb hby at_13) rfl ?_
      show Steps p.tables e below (s₁.setTop (mkF m 14 #[vi p0, vi p1, vi p2, vi p3, vi (0 : Int32), vi ca, uu, uu, uu, uu, uu, uu] [(.int p2)])) _
      refine XS.sipush X0.here hx rfl (hb hby at_14) ?_
      show Steps p.tables e below (s₁.setTop (mkF m 17 #[vi p0, vi p1, vi p2, vi p3, vi (0 : Int32), vi ca, uu, uu, uu, uu, uu, uu] [(.int (255 : Int32)), (.int p2)])) _
      refine XS.iand X0.here hx rfl (hb hby at_17) rfl ?_
      show Steps p.tables e below (s₁.setTop (mkF m 18 #[vi p0, vi p1, vi p2, vi p3, vi (0 : Int32), vi ca, uu, uu, uu, uu, uu, uu] [(.int (p2 &&& (255 : Int32)))])) _
      refine XS.i2c X0.here hx rfl (hb hby at_18) rfl ?_
      exact Steps.refl _
    generalize hv_cb : ((p2 &&& (255 : Int32)).toUInt32.toUInt16.toUInt32.toInt32) = cb
    show own_Fin p e below (s₁.setTop (mkF m 19 #[vi p0, vi p1, vi p2, vi p3, vi (0 : Int32), vi ca, uu, uu, uu, uu, uu, uu] [(.int cb)])) _
    have hcb : ¬ cb < 0 ∧ ¬ (255 : Int32) < cb := by rw [← hv_cb]; exact own_m255 _
    refine own_gs (cur' := s₁.setTop (mkF m 27 #[vi p0, vi p1, vi p2, vi p3, vi (0 : Int32), vi ca, vi cb, uu, uu, uu, uu, uu] [(.int ((p3 &&& (255 : Int32)).toUInt32.toUInt16.toUInt32.toInt32))])) ?_ ?_
    · refine XS.istore X0.here hx rfl (hb hby at_19) rfl (l' := #[vi p0, vi p1, vi p2, vi p3, vi (0 : Int32), vi ca, vi cb, uu, uu, uu, uu, uu]) rfl ?_
      show Steps p.tables e below (s₁.setTop (mkF m 21 #[vi p0, vi p1, vi p2, vi p3, vi (0 : Int32), vi ca, vi cb, uu, uu, uu, uu, uu] [])) _
      refine XS.iloadN X0.here hx rfl (hb hby at_21) rfl ?_
      show Steps p.tables e below (s₁.setTop (mkF m 22 #[vi p0, vi p1, vi p2, vi p3, vi (0 : Int32), vi ca, vi cb, uu, uu, uu, uu, uu] [(.int p3)])) _
      refine XS.sipush X0.here hx rfl (hb hby at_22) ?_
      show Steps p.tables e below (s₁.setTop (mkF m 25 #[vi p0, vi p1, vi p2, vi p3, vi (0 : Int32), vi ca, vi cb, uu, uu, uu, uu, uu] [(.int (255 : Int32)), (.int p3)])) _
      refine XS.iand X0.here hx rfl (hb hby at_25) rfl ?_
      show Steps p.tables e below (s₁.setTop (mkF m 26 #[vi p0, vi p1, vi p2, vi p3, vi (0 : Int32), vi ca, vi cb, uu, uu, uu, uu, uu] [(.int (p3 &&& (255 : Int32)))])) _
      refine XS.i2c X0.here hx rfl (hb hby at_26) rfl ?_
      exact Steps.refl _
    generalize hv_cc : ((p3 &&& (255 : Int32)).toUInt32.toUInt16.toUInt32.toInt32) = cc
    show own_Fin p e below (s₁.setTop (mkF m 27 #[vi p0, vi p1, vi p2, vi p3, vi (0 : Int32), vi ca, vi cb, uu, uu, uu, uu, uu] [(.int cc)])) _
    have hcc : ¬ cc < 0 ∧ ¬ (255 : Int32) < cc := by rw [← hv_cc]; exact own_m255 _
    refine own_gs (cur' := s₁.setTop (mkF m 37 #[vi p0, vi p1, vi p2, vi p3, vi (0 : Int32), vi ca, vi cb, vi cc, uu, uu, uu, uu] [(.int cc), (.int cb), (.int ca), (.int (0 : Int32))])) ?_ ?_
    · refine XS.istore X0.here hx rfl (hb hby at_27) rfl (l' := #[vi p0, vi p1, vi p2, vi p3, vi (0 : Int32), vi ca, vi cb, vi cc, uu, uu, uu, uu]) rfl ?_
      show Steps p.tables e below (s₁.setTop (mkF m 29 #[vi p0, vi p1, vi p2, vi p3, vi (0 : Int32), vi ca, vi cb, vi cc, uu, uu, uu, uu] [])) _
      refine XS.iload X0.here hx rfl (hb hby at_29) rfl ?_
      show Steps p.tables e below (s₁.setTop (mkF m 31 #[vi p0, vi p1, vi p2, vi p3, vi (0 : Int32), vi ca, vi cb, vi cc, uu, uu, uu, uu] [(.int (0 : Int32))])) _
      refine XS.iload X0.here hx rfl (hb hby at_31) rfl ?_
      show Steps p.tables e below (s₁.setTop (mkF m 33 #[vi p0, vi p1, vi p2, vi p3, vi (0 : Int32), vi ca, vi cb, vi cc, uu, uu, uu, uu] [(.int ca), (.int (0 : Int32))])) _
      refine XS.iload X0.here hx rfl (hb hby at_33) rfl ?_
      show Steps p.tables e below (s₁.setTop (mkF m 35 #[vi p0, vi p1, vi p2, vi p3, vi (0 : Int32), vi ca, vi cb, vi cc, uu, uu, uu, uu] [(.int cb), (.int ca), (.int (0 : Int32))])) _
      refine XS.iload X0.here hx rfl (hb hby at_35) rfl ?_
      exact Steps.refl _
    obtain ⟨_, _, ⟨T11, L11, k11, n11⟩, -, Xw11, hSw11, hgw11, ⟨Lc11, hQ11, l11, y11, z11, hC11⟩, st11⟩ := callSS X0 hx (y := (⟨"com/example/mandatum/mandatum/service/ExchangedOfIdTokenPinLaw", "make", "(ICCC)Ljava/lang/String;"⟩ : MethodName)) hown (mvT hZ (hw _ (List.mem_of_getElem? (i := 0) rfl))) (mvT hZ (hw _ (List.mem_of_getElem? (i := 1) rfl))) (mvT hZ (hw _ (List.mem_of_getElem? (i := 2) rfl))) (mvT hZ (hw _ (List.mem_of_getElem? (i := 3) rfl))) (by decide) (own_backS (W := 0) (own_make0 l Z a0 hW ca cb cc h0 n0 (by omega) O0 hca hcb hcc) hZ (hw _ (List.mem_of_getElem? (i := 3) rfl)) (hw _ (List.mem_of_getElem? (i := 2) rfl)) (by decide) (by decide) hEL CH0.1 all0) (g := (mkF m 37 #[vi p0, vi p1, vi p2, vi p3, vi (0 : Int32), vi ca, vi cb, vi cc, uu, uu, uu, uu] [(.int cc), (.int cb), (.int ca), (.int (0 : Int32))])) rfl (by rw [hml]; rfl) (argsL := [(.int (0 : Int32)), (.int ca), (.int cb), (.int cc)]) (rest := []) (lenOf pd_6 rfl) rfl (by show 2 * 0 + _ ≤ _; exact Nat.le_of_eq rfl) (hb hby at_37) (fun _ _ => ⟨rfl, e0, (by decide : 0 + 8 ≤ 32), (by decide : 0 + 24 ≤ 2176)⟩)
    dsimp only [Pt.U, Pt.locs, Pt.cells, Pt.slots] at Xw11 hSw11 hgw11 hC11 l11 y11 z11 st11 hQ11
    subst l11 y11 z11
    obtain ⟨X11, hS11, hZ11, hown11⟩ := rebS hS0 (show h0.size ≤ s₁.heap.size by rw [e0]; omega) Xw11 hSw11 hgw11 hZ hown
    obtain ⟨a11, t11, rfl, Nq11, Kq11, F11, ge11⟩ := hQ11
    have N11 := Fr.app N0 Nq11
    have z12 := Kq11.1
    have K12 := K0.trans Kq11 all0
    have O12 := O0.keep Kq11 all0
    have CH12 := CH0.trans hC11
    have lt11 := F11.lt
    have Ex11 := F11.exa
    refine own_gs st11 ?_
    show own_Fin p e below (T11.setTop (mkF m 40 #[vi p0, vi p1, vi p2, vi p3, vi (0 : Int32), vi ca, vi cb, vi cc, uu, uu, uu, uu] [(.ref a11)])) _
    refine own_gs (cur' := T11.setTop (mkF m 50 #[vi p0, vi p1, vi p2, vi p3, vi (0 : Int32), vi ca, vi cb, vi cc, vr a11, uu, uu, uu] [(.int cc), (.int cb), (.int ca), (.int (0 : Int32))])) ?_ ?_
    · refine XS.astore X11.here hx rfl (hb hby at_40) rfl rfl (l' := #[vi p0, vi p1, vi p2, vi p3, vi (0 : Int32), vi ca, vi cb, vi cc, vr a11, uu, uu, uu]) rfl ?_
      show Steps p.tables e below (T11.setTop (mkF m 42 #[vi p0, vi p1, vi p2, vi p3, vi (0 : Int32), vi ca, vi cb, vi cc, vr a11, uu, uu, uu] [])) _
      refine XS.iload X11.here hx rfl (hb hby at_42) rfl ?_
      show Steps p.tables e below (T11.setTop (mkF m 44 #[vi p0, vi p1, vi p2, vi p3, vi (0 : Int32), vi ca, vi cb, vi cc, vr a11, uu, uu, uu] [(.int (0 : Int32))])) _
      refine XS.iload X11.here hx rfl (hb hby at_44) rfl ?_
      show Steps p.tables e below (T11.setTop (mkF m 46 #[vi p0, vi p1, vi p2, vi p3, vi (0 : Int32), vi ca, vi cb, vi cc, vr a11, uu, uu, uu] [(.int ca), (.int (0 : Int32))])) _
      refine XS.iload X11.here hx rfl (hb hby at_46) rfl ?_
      show Steps p.tables e below (T11.setTop (mkF m 48 #[vi p0, vi p1, vi p2, vi p3, vi (0 : Int32), vi ca, vi cb, vi cc, vr a11, uu, uu, uu] [(.int cb), (.int ca), (.int (0 : Int32))])) _
      refine XS.iload X11.here hx rfl (hb hby at_48) rfl ?_
      exact Steps.refl _
    obtain ⟨_, _, ⟨T13, L13, k13, n13⟩, -, Xw13, hSw13, hgw13, ⟨Lc13, hQ13, l13, y13, z13, hC13⟩, st13⟩ := callSS X11 hx (y := (⟨"com/example/mandatum/mandatum/service/ExchangedOfIdTokenPinLaw", "make", "(ICCC)Ljava/lang/String;"⟩ : MethodName)) hown11 (mvT hZ11 (hw _ (List.mem_of_getElem? (i := 0) rfl))) (mvT hZ11 (hw _ (List.mem_of_getElem? (i := 1) rfl))) (mvT hZ11 (hw _ (List.mem_of_getElem? (i := 2) rfl))) (mvT hZ11 (hw _ (List.mem_of_getElem? (i := 3) rfl))) (by decide) (own_backS (W := 0) (own_make0 l Z a0 hW ca cb cc T11.heap n0 (by omega) O12 hca hcb hcc) hZ11 (hw _ (List.mem_of_getElem? (i := 3) rfl)) (hw _ (List.mem_of_getElem? (i := 2) rfl)) (by decide) (by decide) hEL CH12.1 all0) (g := (mkF m 50 #[vi p0, vi p1, vi p2, vi p3, vi (0 : Int32), vi ca, vi cb, vi cc, vr a11, uu, uu, uu] [(.int cc), (.int cb), (.int ca), (.int (0 : Int32))])) rfl (by rw [hml]; rfl) (argsL := [(.int (0 : Int32)), (.int ca), (.int cb), (.int cc)]) (rest := []) (lenOf pd_6 rfl) rfl (by show 2 * 0 + _ ≤ _; exact Nat.le_of_eq rfl) (hb hby at_50) (fun _ _ => ⟨rfl, rfl, (by decide : 8 + 8 ≤ 32), (by decide : 24 + 24 ≤ 2176)⟩)
    dsimp only [Pt.U, Pt.locs, Pt.cells, Pt.slots] at Xw13 hSw13 hgw13 hC13 l13 y13 z13 st13 hQ13
    subst l13 y13 z13
    obtain ⟨X13, hS13, hZ13, hown13⟩ := rebS hS11 (show T11.heap.size ≤ T11.heap.size by omega) Xw13 hSw13 hgw13 hZ11 hown11
    obtain ⟨a13, t13, rfl, Nq13, Kq13, F13, ge13⟩ := hQ13
    have N13 := Fr.app N11 Nq13
    have z14 := Kq13.1
    have K14 := K12.trans Kq13 all0
    have O14 := O12.keep Kq13 all0
    have CH14 := CH12.trans hC13
    have lt13 := F13.lt
    have Ex13 := F13.exa
    refine own_gs st13 ?_
    show own_Fin p e below (T13.setTop (mkF m 53 #[vi p0, vi p1, vi p2, vi p3, vi (0 : Int32), vi ca, vi cb, vi cc, vr a11, uu, uu, uu] [(.ref a13)])) _
    have f15 := (Ex11.keep Kq13)
    refine own_gs (cur' := T13.setTop (mkF m 57 #[vi p0, vi p1, vi p2, vi p3, vi (0 : Int32), vi ca, vi cb, vi cc, vr a11, vr a13, uu, uu] [(.ref a11)])) ?_ ?_
    · refine XS.astore X13.here hx rfl (hb hby at_53) rfl rfl (l' := #[vi p0, vi p1, vi p2, vi p3, vi (0 : Int32), vi ca, vi cb, vi cc, vr a11, vr a13, uu, uu]) rfl ?_
      show Steps p.tables e below (T13.setTop (mkF m 55 #[vi p0, vi p1, vi p2, vi p3, vi (0 : Int32), vi ca, vi cb, vi cc, vr a11, vr a13, uu, uu] [])) _
      refine XS.aload X13.here hx rfl (hb hby at_55) rfl rfl ?_
      exact Steps.refl _
    obtain ⟨_, _, ⟨T16, L16, k16, n16⟩, -, Xw16, hSw16, hgw16, ⟨Lc16, hQ16, l16, y16, z16, hC16⟩, st16⟩ := callSS X13 hx (y := (⟨"com/example/mandatum/mandatum/service/Exchanged", "ofIdToken", "(Ljava/lang/String;)Lcom/example/mandatum/mandatum/service/Exchanged;"⟩ : MethodName)) hown13 (mvT hZ13 (hw _ (List.mem_of_getElem? (i := 26) rfl))) (mvT hZ13 (hw _ (List.mem_of_getElem? (i := 27) rfl))) (mvT hZ13 (hw _ (List.mem_of_getElem? (i := 28) rfl))) (mvT hZ13 (hw _ (List.mem_of_getElem? (i := 29) rfl))) (by decide) (own_backS (W := 0) (own_ofid l Z a0 hW a11 T13.heap n0 (by omega) O14 f15) hZ13 (hw _ (List.mem_of_getElem? (i := 29) rfl)) (hw _ (List.mem_of_getElem? (i := 28) rfl)) (by decide) (by decide) hEL CH14.1 all0) (g := (mkF m 57 #[vi p0, vi p1, vi p2, vi p3, vi (0 : Int32), vi ca, vi cb, vi cc, vr a11, vr a13, uu, uu] [(.ref a11)])) rfl (by rw [hml]; rfl) (argsL := [(.ref a11)]) (rest := []) (lenOf pd_7 rfl) rfl (by show 2 * 0 + _ ≤ _; exact Nat.le_of_eq rfl) (hb hby at_57) (fun _ _ => ⟨rfl, rfl, (by decide : 16 + 3 ≤ 32), (by decide : 48 + 58 ≤ 2176)⟩)
    dsimp only [Pt.U, Pt.locs, Pt.cells, Pt.slots] at Xw16 hSw16 hgw16 hC16 l16 y16 z16 st16 hQ16
    subst l16 y16 z16
    obtain ⟨X16, hS16, hZ16, hown16⟩ := rebS hS13 (show T13.heap.size ≤ T13.heap.size by omega) Xw16 hSw16 hgw16 hZ13 hown13
    obtain ⟨b16, rfl, Nq16, Kq16, E16, Fa16, Fi16, ge16⟩ := hQ16
    have N16 := Fr.app N13 Nq16
    have z17 := Kq16.1
    have K17 := K14.trans Kq16 all0
    have O17 := O14.keep Kq16 all0
    have CH17 := CH14.trans hC16
    have lt16 := own_lt E16.lt
    refine own_gs st16 ?_
    show own_Fin p e below (T16.setTop (mkF m 60 #[vi p0, vi p1, vi p2, vi p3, vi (0 : Int32), vi ca, vi cb, vi cc, vr a11, vr a13, uu, uu] [(.ref b16)])) _
    refine own_gs (cur' := T16.setTop (mkF m 64 #[vi p0, vi p1, vi p2, vi p3, vi (0 : Int32), vi ca, vi cb, vi cc, vr a11, vr a13, vr b16, uu] [(.ref b16)])) ?_ ?_
    · refine XS.astore X16.here hx rfl (hb hby at_60) rfl rfl (l' := #[vi p0, vi p1, vi p2, vi p3, vi (0 : Int32), vi ca, vi cb, vi cc, vr a11, vr a13, vr b16, uu]) rfl ?_
      show Steps p.tables e below (T16.setTop (mkF m 62 #[vi p0, vi p1, vi p2, vi p3, vi (0 : Int32), vi ca, vi cb, vi cc, vr a11, vr a13, vr b16, uu] [])) _
      refine XS.aload X16.here hx rfl (hb hby at_62) rfl rfl ?_
      exact Steps.refl _
    obtain ⟨cq18, kq18, q18a, q18b, q18c⟩ := isOf hZ16 rfl E16
    obtain ⟨_, _, ⟨T18, L18, k18, n18⟩, -, X18, ⟨Lc18, hQ18, l18, y18, z18⟩, st18⟩ := X16.virtualBack hx (y := (⟨"com/example/mandatum/mandatum/service/Exchanged", "accessToken", "()Ljava/util/Optional;"⟩ : MethodName)) (z := (⟨"com/example/mandatum/mandatum/service/Exchanged", "accessToken", "()Ljava/util/Optional;"⟩ : MethodName)) hown16 (mvT hZ16 (hw _ (List.mem_of_getElem? (i := 46) rfl))) (mvT hZ16 (hw _ (List.mem_of_getElem? (i := 47) rfl))) (notFace_of_selects (args := #[]) (mvT hZ16 (hw _ (List.mem_of_getElem? (i := 49) rfl)))) (mvT hZ16 (hw _ (List.mem_of_getElem? (i := 49) rfl))) (mvT hZ16 (hw _ (List.mem_of_getElem? (i := 48) rfl))) (by decide) (backOf (W := 0) (own_acc l Z a0 hW b16 ea T16.heap n0 (by omega) O17 Se Fa16) hZ16 (hw _ (List.mem_of_getElem? (i := 50) rfl)) (hw _ (List.mem_of_getElem? (i := 28) rfl)) (by decide) (by decide)) q18a q18c (g := (mkF m 64 #[vi p0, vi p1, vi p2, vi p3, vi (0 : Int32), vi ca, vi cb, vi cc, vr a11, vr a13, vr b16, uu] [(.ref b16)])) rfl (by rw [hml]; rfl) (Steps.refl _) (argsL := []) (rest := []) (lenOf pd_8 rfl) rfl (by show 2 * 0 + _ ≤ _; exact Nat.le_of_eq rfl) (hb hby at_64) (fun _ _ => ⟨rfl, rfl, (by decide : 19 + 0 ≤ 32), (by decide : 106 + 0 ≤ 2176)⟩)
    dsimp only [Pt.U, Pt.locs, Pt.cells, Pt.slots] at X18 l18 y18 z18 st18 hQ18
    subst l18 y18 z18
    obtain ⟨rfl, Nq18, eh18⟩ := hQ18
    have N18 := Fr.app N16 Nq18
    refine own_gs st18 ?_
    show own_Fin p e below (T18.setTop (mkF m 67 #[vi p0, vi p1, vi p2, vi p3, vi (0 : Int32), vi ca, vi cb, vi cc, vr a11, vr a13, vr b16, uu] [(.ref ea)])) _
    have Eea := Ee.ext O17.2
    obtain ⟨cq19, kq19, q19a, q19b, q19c⟩ := isOf hZ16 eh18 Eea
    obtain ⟨_, _, ⟨T19, L19, k19, n19⟩, -, X19, ⟨Lc19, hQ19, l19, y19, z19⟩, st19⟩ := X18.virtualBack hx (y := (⟨"java/util/Optional", "isEmpty", "()Z"⟩ : MethodName)) (z := (⟨"java/util/Optional", "isEmpty", "()Z"⟩ : MethodName)) hown16 (mvT hZ16 (hw _ (List.mem_of_getElem? (i := 56) rfl))) (mvT hZ16 (hw _ (List.mem_of_getElem? (i := 57) rfl))) (notFace_of_selects (args := #[]) (mvT hZ16 (hw _ (List.mem_of_getElem? (i := 59) rfl)))) (mvT hZ16 (hw _ (List.mem_of_getElem? (i := 59) rfl))) (mvT hZ16 (hw _ (List.mem_of_getElem? (i := 58) rfl))) (by decide) (backOf (W := 0) (own_ise l Z a0 hW ea 0 T16.heap n0 (by omega) O17 (Fe.ext O17.2)) hZ16 (hw _ (List.mem_of_getElem? (i := 60) rfl)) (hw _ (List.mem_of_getElem? (i := 53) rfl)) (by decide) (by decide)) q19a q19c (g := (mkF m 67 #[vi p0, vi p1, vi p2, vi p3, vi (0 : Int32), vi ca, vi cb, vi cc, vr a11, vr a13, vr b16, uu] [(.ref ea)])) rfl (by rw [hml]; rfl) (Steps.refl _) (argsL := []) (rest := []) (lenOf pd_9 rfl) rfl (by show 2 * 0 + _ ≤ _; exact Nat.le_of_eq rfl) (hb hby at_67) (fun _ _ => ⟨rfl, eh18, (by decide : 19 + 0 ≤ 32), (by decide : 106 + 0 ≤ 2176)⟩)
    dsimp only [Pt.U, Pt.locs, Pt.cells, Pt.slots] at X19 l19 y19 z19 st19 hQ19
    subst l19 y19 z19
    obtain ⟨rfl, Nq19, eh19⟩ := hQ19
    have N19 := Fr.app N18 Nq19
    refine own_gs st19 ?_
    show own_Fin p e below (T19.setTop (mkF m 70 #[vi p0, vi p1, vi p2, vi p3, vi (0 : Int32), vi ca, vi cb, vi cc, vr a11, vr a13, vr b16, uu] [(.int (1 : Int32))])) _
    refine own_gs (cur' := T19.setTop (mkF m 77 #[vi p0, vi p1, vi p2, vi p3, vi (0 : Int32), vi ca, vi cb, vi cc, vr a11, vr a13, vr b16, uu] [(.ref b16)])) ?_ ?_
    · refine XS.ifYes X19.here hx rfl (pc0 := 70) (pc' := 75) rfl (hb hby at_70) rfl ((if0 _ _).trans (feq ((by decide) : ¬ ((1 : Int32) = (0 : Int32)))).2) (by decide) (by decide) ?_
      show Steps p.tables e below (T19.setTop (mkF m 75 #[vi p0, vi p1, vi p2, vi p3, vi (0 : Int32), vi ca, vi cb, vi cc, vr a11, vr a13, vr b16, uu] [])) _
      refine XS.aload X19.here hx rfl (hb hby at_75) rfl rfl ?_
      exact Steps.refl _
    obtain ⟨cq20, kq20, q20a, q20b, q20c⟩ := isOf hZ16 eh19 E16
    obtain ⟨_, _, ⟨T20, L20, k20, n20⟩, -, X20, ⟨Lc20, hQ20, l20, y20, z20⟩, st20⟩ := X19.virtualBack hx (y := (⟨"com/example/mandatum/mandatum/service/Exchanged", "idToken", "()Ljava/util/Optional;"⟩ : MethodName)) (z := (⟨"com/example/mandatum/mandatum/service/Exchanged", "idToken", "()Ljava/util/Optional;"⟩ : MethodName)) hown16 (mvT hZ16 (hw _ (List.mem_of_getElem? (i := 63) rfl))) (mvT hZ16 (hw _ (List.mem_of_getElem? (i := 64) rfl))) (notFace_of_selects (args := #[]) (mvT hZ16 (hw _ (List.mem_of_getElem? (i := 66) rfl)))) (mvT hZ16 (hw _ (List.mem_of_getElem? (i := 66) rfl))) (mvT hZ16 (hw _ (List.mem_of_getElem? (i := 65) rfl))) (by decide) (backOf (W := 0) (own_idt l Z a0 hW b16 a11 T16.heap n0 (by omega) O17 Fi16) hZ16 (hw _ (List.mem_of_getElem? (i := 67) rfl)) (hw _ (List.mem_of_getElem? (i := 28) rfl)) (by decide) (by decide)) q20a q20c (g := (mkF m 77 #[vi p0, vi p1, vi p2, vi p3, vi (0 : Int32), vi ca, vi cb, vi cc, vr a11, vr a13, vr b16, uu] [(.ref b16)])) rfl (by rw [hml]; rfl) (Steps.refl _) (argsL := []) (rest := []) (lenOf pd_8 rfl) rfl (by show 2 * 0 + _ ≤ _; exact Nat.le_of_eq rfl) (hb hby at_77) (fun _ _ => ⟨rfl, eh19, (by decide : 19 + 1 ≤ 32), (by decide : 106 + 1 ≤ 2176)⟩)
    dsimp only [Pt.U, Pt.locs, Pt.cells, Pt.slots] at X20 l20 y20 z20 st20 hQ20
    subst l20 y20 z20
    obtain ⟨o20, rfl, Nq20, Kq20, E20, F20, ge20⟩ := hQ20
    have N20 := Fr.app N19 Nq20
    have z21 := Kq20.1
    have K21 := K17.trans Kq20 all0
    have O21 := O17.keep Kq20 all0
    have CH21 := CH17.trans (CHr.keep Kq20 all0 CH17.1)
    have lt20 := own_lt E20.lt
    refine own_gs st20 ?_
    show own_Fin p e below (T20.setTop (mkF m 80 #[vi p0, vi p1, vi p2, vi p3, vi (0 : Int32), vi ca, vi cb, vi cc, vr a11, vr a13, vr b16, uu] [(.ref o20)])) _
    obtain ⟨cq22, kq22, q22a, q22b, q22c⟩ := isOf hZ16 rfl E20
    obtain ⟨_, _, ⟨T22, L22, k22, n22⟩, -, X22, ⟨Lc22, hQ22, l22, y22, z22⟩, st22⟩ := X20.virtualBack hx (y := (⟨"java/util/Optional", "isPresent", "()Z"⟩ : MethodName)) (z := (⟨"java/util/Optional", "isPresent", "()Z"⟩ : MethodName)) hown16 (mvT hZ16 (hw _ (List.mem_of_getElem? (i := 75) rfl))) (mvT hZ16 (hw _ (List.mem_of_getElem? (i := 76) rfl))) (notFace_of_selects (args := #[]) (mvT hZ16 (hw _ (List.mem_of_getElem? (i := 78) rfl)))) (mvT hZ16 (hw _ (List.mem_of_getElem? (i := 78) rfl))) (mvT hZ16 (hw _ (List.mem_of_getElem? (i := 77) rfl))) (by decide) (backOf (W := 0) (own_isp l Z a0 hW o20 a11 T20.heap n0 (by omega) O21 F20) hZ16 (hw _ (List.mem_of_getElem? (i := 79) rfl)) (hw _ (List.mem_of_getElem? (i := 53) rfl)) (by decide) (by decide)) q22a q22c (g := (mkF m 80 #[vi p0, vi p1, vi p2, vi p3, vi (0 : Int32), vi ca, vi cb, vi cc, vr a11, vr a13, vr b16, uu] [(.ref o20)])) rfl (by rw [hml]; rfl) (Steps.refl _) (argsL := []) (rest := []) (lenOf pd_9 rfl) rfl (by show 2 * 0 + _ ≤ _; exact Nat.le_of_eq rfl) (hb hby at_80) (fun _ _ => ⟨rfl, rfl, (by decide : 20 + 0 ≤ 32), (by decide : 107 + 0 ≤ 2176)⟩)
    dsimp only [Pt.U, Pt.locs, Pt.cells, Pt.slots] at X22 l22 y22 z22 st22 hQ22
    subst l22 y22 z22
    obtain ⟨rfl, Nq22, eh22⟩ := hQ22
    have N22 := Fr.app N20 Nq22
    refine own_gs st22 ?_
    show own_Fin p e below (T22.setTop (mkF m 83 #[vi p0, vi p1, vi p2, vi p3, vi (0 : Int32), vi ca, vi cb, vi cc, vr a11, vr a13, vr b16, uu] [(.int (1 : Int32))])) _
    have f23 := (Fi16.keep Kq20 nin0)
    refine own_gs (cur' := T22.setTop (mkF m 90 #[vi p0, vi p1, vi p2, vi p3, vi (0 : Int32), vi ca, vi cb, vi cc, vr a11, vr a13, vr b16, uu] [(.ref b16)])) ?_ ?_
    · refine XS.ifYes X22.here hx rfl (pc0 := 83) (pc' := 88) rfl (hb hby at_83) rfl ((if0 _ _).trans (feq ((by decide) : ¬ ((1 : Int32) = (0 : Int32)))).2) (by decide) (by decide) ?_
      show Steps p.tables e below (T22.setTop (mkF m 88 #[vi p0, vi p1, vi p2, vi p3, vi (0 : Int32), vi ca, vi cb, vi cc, vr a11, vr a13, vr b16, uu] [])) _
      refine XS.aload X22.here hx rfl (hb hby at_88) rfl rfl ?_
      exact Steps.refl _
    have f25 := (E16.keep Kq20)
    obtain ⟨cq24, kq24, q24a, q24b, q24c⟩ := isOf hZ16 eh22 f25
    obtain ⟨_, _, ⟨T24, L24, k24, n24⟩, -, X24, ⟨Lc24, hQ24, l24, y24, z24⟩, st24⟩ := X22.virtualBack hx (y := (⟨"com/example/mandatum/mandatum/service/Exchanged", "idToken", "()Ljava/util/Optional;"⟩ : MethodName)) (z := (⟨"com/example/mandatum/mandatum/service/Exchanged", "idToken", "()Ljava/util/Optional;"⟩ : MethodName)) hown16 (mvT hZ16 (hw _ (List.mem_of_getElem? (i := 63) rfl))) (mvT hZ16 (hw _ (List.mem_of_getElem? (i := 64) rfl))) (notFace_of_selects (args := #[]) (mvT hZ16 (hw _ (List.mem_of_getElem? (i := 66) rfl)))) (mvT hZ16 (hw _ (List.mem_of_getElem? (i := 66) rfl))) (mvT hZ16 (hw _ (List.mem_of_getElem? (i := 65) rfl))) (by decide) (backOf (W := 0) (own_idt l Z a0 hW b16 a11 T20.heap n0 (by omega) O21 f23) hZ16 (hw _ (List.mem_of_getElem? (i := 67) rfl)) (hw _ (List.mem_of_getElem? (i := 28) rfl)) (by decide) (by decide)) q24a q24c (g := (mkF m 90 #[vi p0, vi p1, vi p2, vi p3, vi (0 : Int32), vi ca, vi cb, vi cc, vr a11, vr a13, vr b16, uu] [(.ref b16)])) rfl (by rw [hml]; rfl) (Steps.refl _) (argsL := []) (rest := []) (lenOf pd_8 rfl) rfl (by show 2 * 0 + _ ≤ _; exact Nat.le_of_eq rfl) (hb hby at_90) (fun _ _ => ⟨rfl, eh22, (by decide : 20 + 1 ≤ 32), (by decide : 107 + 1 ≤ 2176)⟩)
    dsimp only [Pt.U, Pt.locs, Pt.cells, Pt.slots] at X24 l24 y24 z24 st24 hQ24
    subst l24 y24 z24
    obtain ⟨o24, rfl, Nq24, Kq24, E24, F24, ge24⟩ := hQ24
    have N24 := Fr.app N22 Nq24
    have z26 := Kq24.1
    have K26 := K21.trans Kq24 all0
    have O26 := O21.keep Kq24 all0
    have CH26 := CH21.trans (CHr.keep Kq24 all0 CH21.1)
    have lt24 := own_lt E24.lt
    refine own_gs st24 ?_
    show own_Fin p e below (T24.setTop (mkF m 93 #[vi p0, vi p1, vi p2, vi p3, vi (0 : Int32), vi ca, vi cb, vi cc, vr a11, vr a13, vr b16, uu] [(.ref o24)])) _
    obtain ⟨cq27, kq27, q27a, q27b, q27c⟩ := isOf hZ16 rfl E24
    obtain ⟨_, _, ⟨T27, L27, k27, n27⟩, -, X27, ⟨Lc27, hQ27, l27, y27, z27⟩, st27⟩ := X24.virtualBack hx (y := (⟨"java/util/Optional", "get", "()Ljava/lang/Object;"⟩ : MethodName)) (z := (⟨"java/util/Optional", "get", "()Ljava/lang/Object;"⟩ : MethodName)) hown16 (mvT hZ16 (hw _ (List.mem_of_getElem? (i := 80) rfl))) (mvT hZ16 (hw _ (List.mem_of_getElem? (i := 81) rfl))) (notFace_of_selects (args := #[]) (mvT hZ16 (hw _ (List.mem_of_getElem? (i := 83) rfl)))) (mvT hZ16 (hw _ (List.mem_of_getElem? (i := 83) rfl))) (mvT hZ16 (hw _ (List.mem_of_getElem? (i := 82) rfl))) (by decide) (backOf (W := 0) (own_get l Z a0 hW o24 a11 T24.heap n0 (by omega) O26 F24) hZ16 (hw _ (List.mem_of_getElem? (i := 84) rfl)) (hw _ (List.mem_of_getElem? (i := 53) rfl)) (by decide) (by decide)) q27a q27c (g := (mkF m 93 #[vi p0, vi p1, vi p2, vi p3, vi (0 : Int32), vi ca, vi cb, vi cc, vr a11, vr a13, vr b16, uu] [(.ref o24)])) rfl (by rw [hml]; rfl) (Steps.refl _) (argsL := []) (rest := []) (lenOf pd_10 rfl) rfl (by show 2 * 0 + _ ≤ _; exact Nat.le_of_eq rfl) (hb hby at_93) (fun _ _ => ⟨rfl, rfl, (by decide : 21 + 0 ≤ 32), (by decide : 108 + 0 ≤ 2176)⟩)
    dsimp only [Pt.U, Pt.locs, Pt.cells, Pt.slots] at X27 l27 y27 z27 st27 hQ27
    subst l27 y27 z27
    obtain ⟨rfl, Nq27, eh27⟩ := hQ27
    have N27 := Fr.app N24 Nq27
    refine own_gs st27 ?_
    show own_Fin p e below (T27.setTop (mkF m 96 #[vi p0, vi p1, vi p2, vi p3, vi (0 : Int32), vi ca, vi cb, vi cc, vr a11, vr a13, vr b16, uu] [(.ref a11)])) _
    have f29 := (((f15.keep Kq16).keep Kq20).keep Kq24)
    obtain ⟨T28, X28, e28, st28⟩ := castY X27 hx hZ16 hown16 (hw _ (List.mem_of_getElem? (i := 4) rfl)) eh27 (Ins.self f29) (g := (mkF m 96 #[vi p0, vi p1, vi p2, vi p3, vi (0 : Int32), vi ca, vi cb, vi cc, vr a11, vr a13, vr b16, uu] [(.ref a11)])) rfl rfl (hb hby at_96)
    refine own_go st28 ?_
    show own_Fin p e below (T28.setTop (mkF m 99 #[vi p0, vi p1, vi p2, vi p3, vi (0 : Int32), vi ca, vi cb, vi cc, vr a11, vr a13, vr b16, uu] [(.ref a11)])) _
    have f30 := ((((F11.keep Kq13 nin0 nin0).keep Kq16 nin0 nin0).keep Kq20 nin0 nin0).keep Kq24 nin0 nin0)
    refine own_gs (cur' := T28.setTop (mkF m 103 #[vi p0, vi p1, vi p2, vi p3, vi (0 : Int32), vi ca, vi cb, vi cc, vr a11, vr a13, vr b16, vr a11] [(.ref a11)])) ?_ ?_
    · refine XS.astore X28.here hx rfl (hb hby at_99) rfl rfl (l' := #[vi p0, vi p1, vi p2, vi p3, vi (0 : Int32), vi ca, vi cb, vi cc, vr a11, vr a13, vr b16, vr a11]) rfl ?_
      show Steps p.tables e below (T28.setTop (mkF m 101 #[vi p0, vi p1, vi p2, vi p3, vi (0 : Int32), vi ca, vi cb, vi cc, vr a11, vr a13, vr b16, vr a11] [])) _
      refine XS.aload X28.here hx rfl (hb hby at_101) rfl rfl ?_
      exact Steps.refl _
    obtain ⟨cq31, kq31, q31a, q31b, q31c⟩ := isOf hZ16 e28 f29
    obtain ⟨_, _, ⟨T31, L31, k31, n31⟩, -, X31, ⟨Lc31, hQ31, l31, y31, z31⟩, st31⟩ := X28.virtualBack hx (y := (⟨"java/lang/String", "length", "()I"⟩ : MethodName)) (z := (⟨"java/lang/String", "length", "()I"⟩ : MethodName)) hown16 (mvT hZ16 (hw _ (List.mem_of_getElem? (i := 85) rfl))) (mvT hZ16 (hw _ (List.mem_of_getElem? (i := 86) rfl))) (notFace_of_selects (args := #[]) (mvT hZ16 (hw _ (List.mem_of_getElem? (i := 88) rfl)))) (mvT hZ16 (hw _ (List.mem_of_getElem? (i := 88) rfl))) (mvT hZ16 (hw _ (List.mem_of_getElem? (i := 87) rfl))) (by decide) (own_lenB (W := 0) hZ16 hw f30 (O2.ext O26.2) P5 (by decide) (by decide)) q31a q31c (g := (mkF m 103 #[vi p0, vi p1, vi p2, vi p3, vi (0 : Int32), vi ca, vi cb, vi cc, vr a11, vr a13, vr b16, vr a11] [(.ref a11)])) rfl (by rw [hml]; rfl) (Steps.refl _) (argsL := []) (rest := []) (lenOf pd_11 rfl) rfl (by show 2 * 0 + _ ≤ _; exact Nat.le_of_eq rfl) (hb hby at_103) (fun _ _ => ⟨rfl, e28, (by decide : 21 + 0 ≤ 32), (by decide : 108 + 0 ≤ 2176)⟩)
    dsimp only [Pt.U, Pt.locs, Pt.cells, Pt.slots] at X31 l31 y31 z31 st31 hQ31
    subst l31 y31 z31
    obtain ⟨rfl, rfl, eh31⟩ := hQ31
    have N31 := Fr.app N27 (Fr.nil n0)
    refine own_gs st31 ?_
    show own_Fin p e below (T31.setTop (mkF m 106 #[vi p0, vi p1, vi p2, vi p3, vi (0 : Int32), vi ca, vi cb, vi cc, vr a11, vr a13, vr b16, vr a11] [(.int (0 : Int32))])) _
    have f32 := (((F13.keep Kq16 nin0 nin0).keep Kq20 nin0 nin0).keep Kq24 nin0 nin0)
    refine own_gs (cur' := T31.setTop (mkF m 115 #[vi p0, vi p1, vi p2, vi p3, vi (0 : Int32), vi ca, vi cb, vi cc, vr a11, vr a13, vr b16, vr a11] [(.ref a13), (.ref a11)])) ?_ ?_
    · refine XS.iload X31.here hx rfl (hb hby at_106) rfl ?_
      show Steps p.tables e below (T31.setTop (mkF m 108 #[vi p0, vi p1, vi p2, vi p3, vi (0 : Int32), vi ca, vi cb, vi cc, vr a11, vr a13, vr b16, vr a11] [(.int (0 : Int32)), (.int (0 : Int32))])) _
      refine XS.icmpNo X31.here hx rfl (hb hby at_108) rfl (teq ((by decide) : (0 : Int32) = (0 : Int32))).2 ?_
      show Steps p.tables e below (T31.setTop (mkF m 111 #[vi p0, vi p1, vi p2, vi p3, vi (0 : Int32), vi ca, vi cb, vi cc, vr a11, vr a13, vr b16, vr a11] [])) _
      refine XS.aload X31.here hx rfl (hb hby at_111) rfl rfl ?_
      show Steps p.tables e below (T31.setTop (mkF m 113 #[vi p0, vi p1, vi p2, vi p3, vi (0 : Int32), vi ca, vi cb, vi cc, vr a11, vr a13, vr b16, vr a11] [(.ref a11)])) _
      refine XS.aload X31.here hx rfl (hb hby at_113) rfl rfl ?_
      exact Steps.refl _
    obtain ⟨cq33, kq33, q33a, q33b, q33c⟩ := isOf hZ16 eh31 f29
    obtain ⟨_, _, ⟨T33, L33, k33, n33⟩, -, X33, ⟨Lc33, hQ33, l33, y33, z33⟩, st33⟩ := X31.virtualBack hx (y := (⟨"java/lang/String", "equals", "(Ljava/lang/Object;)Z"⟩ : MethodName)) (z := (⟨"java/lang/String", "equals", "(Ljava/lang/Object;)Z"⟩ : MethodName)) hown16 (mvT hZ16 (hw _ (List.mem_of_getElem? (i := 96) rfl))) (mvT hZ16 (hw _ (List.mem_of_getElem? (i := 97) rfl))) (notFace_of_selects (args := #[]) (mvT hZ16 (hw _ (List.mem_of_getElem? (i := 99) rfl)))) (mvT hZ16 (hw _ (List.mem_of_getElem? (i := 99) rfl))) (mvT hZ16 (hw _ (List.mem_of_getElem? (i := 98) rfl))) (by decide) (own_eqB (W := 0) hZ16 hw f30 f32 (O2.ext O26.2) P5 (by decide) (by decide)) q33a q33c (g := (mkF m 115 #[vi p0, vi p1, vi p2, vi p3, vi (0 : Int32), vi ca, vi cb, vi cc, vr a11, vr a13, vr b16, vr a11] [(.ref a13), (.ref a11)])) rfl (by rw [hml]; rfl) (Steps.refl _) (argsL := [(.ref a13)]) (rest := []) (lenOf pd_12 rfl) rfl (by show 2 * 0 + _ ≤ _; exact Nat.le_of_eq rfl) (hb hby at_115) (fun _ _ => ⟨rfl, eh31, (by decide : 21 + 0 ≤ 32), (by decide : 108 + 0 ≤ 2176)⟩)
    dsimp only [Pt.U, Pt.locs, Pt.cells, Pt.slots] at X33 l33 y33 z33 st33 hQ33
    subst l33 y33 z33
    obtain ⟨rfl, rfl, eh33⟩ := hQ33
    have N33 := Fr.app N31 (Fr.nil n0)
    rw [if_pos rfl] at st33
    refine own_gs st33 ?_
    show own_Fin p e below (T33.setTop (mkF m 118 #[vi p0, vi p1, vi p2, vi p3, vi (0 : Int32), vi ca, vi cb, vi cc, vr a11, vr a13, vr b16, vr a11] [(.int (1 : Int32))])) _
    refine own_gs (cur' := T33.setTop (mkF m 126 #[vi p0, vi p1, vi p2, vi p3, vi (0 : Int32), vi ca, vi cb, vi cc, vr a11, vr a13, vr b16, vr a11] [(.int (1 : Int32))])) ?_ ?_
    · refine XS.ifNo X33.here hx rfl (hb hby at_118) rfl ((if0 _ _).trans (feq ((by decide) : ¬ ((1 : Int32) = (0 : Int32)))).1) ?_
      show Steps p.tables e below (T33.setTop (mkF m 121 #[vi p0, vi p1, vi p2, vi p3, vi (0 : Int32), vi ca, vi cb, vi cc, vr a11, vr a13, vr b16, vr a11] [])) _
      refine XS.iconst X33.here hx rfl (hb hby at_121) ?_
      show Steps p.tables e below (T33.setTop (mkF m 122 #[vi p0, vi p1, vi p2, vi p3, vi (0 : Int32), vi ca, vi cb, vi cc, vr a11, vr a13, vr b16, vr a11] [(.int (1 : Int32))])) _
      refine XS.goto X33.here hx rfl (pc0 := 122) (pc' := 126) rfl (hb hby at_122) (by decide) (by decide) ?_
      exact Steps.refl _
    obtain ⟨fs, hr, hrun, hended, hRE⟩ := X33.leaveW hS16 (show T16.heap.size ≤ T33.heap.size by rw [eh33]; omega) (v := (some (.int (1 : Int32)))) (fun h => by rw [Bd.returns] at h; cases h)
    refine ⟨_, _, retN X33 hx (t := .boolean) Bd.returns (by simp) (hb hby at_126) hr, hrun, hended, _, _, rfl, ?_, ?_, hRE.1, hRE.2.1, hRE.2.2.1, hRE.2.2.2.mono (by decide) (by decide)⟩
    · show own_law_Q Z p0 p1 p2 p3 h0 n0 (some (.int (1 : Int32))) T33.heap _
      rw [eh33]
      exact ⟨rfl, N33⟩
    · have hfin := CH26.trans (CHv.at X33 hZ16 hEL CH26.1)
      rw [hh]
      show CHr Z own_EL s.vm h0 T33.vm T33.heap
      rw [eh33]
      exact hfin
  · rw [hn]
    show own_Fin p e below (s₁.setTop (mkF m 3 #[vi p0, vi p1, vi p2, vi p3, uu, uu, uu, uu, uu, uu, uu, uu] [(.int (1 : Int32))])) _
    refine own_gs (cur' := s₁.setTop (mkF m 11 #[vi p0, vi p1, vi p2, vi p3, vi (1 : Int32), uu, uu, uu, uu, uu, uu, uu] [(.int ((p1 &&& (255 : Int32)).toUInt32.toUInt16.toUInt32.toInt32))])) ?_ ?_
    · refine XS.istore X0.here hx rfl (hb hby at_3) rfl (l' := #[vi p0, vi p1, vi p2, vi p3, vi (1 : Int32), uu, uu, uu, uu, uu, uu, uu]) rfl ?_
      show Steps p.tables e below (s₁.setTop (mkF m 5 #[vi p0, vi p1, vi p2, vi p3, vi (1 : Int32), uu, uu, uu, uu, uu, uu, uu] [])) _
      refine XS.iloadN X0.here hx rfl (hb hby at_5) rfl ?_
      show Steps p.tables e below (s₁.setTop (mkF m 6 #[vi p0, vi p1, vi p2, vi p3, vi (1 : Int32), uu, uu, uu, uu, uu, uu, uu] [(.int p1)])) _
      refine XS.sipush X0.here hx rfl (hb hby at_6) ?_
      show Steps p.tables e below (s₁.setTop (mkF m 9 #[vi p0, vi p1, vi p2, vi p3, vi (1 : Int32), uu, uu, uu, uu, uu, uu, uu] [(.int (255 : Int32)), (.int p1)])) _
      refine XS.iand X0.here hx rfl (hb hby at_9) rfl ?_
      show Steps p.tables e below (s₁.setTop (mkF m 10 #[vi p0, vi p1, vi p2, vi p3, vi (1 : Int32), uu, uu, uu, uu, uu, uu, uu] [(.int (p1 &&& (255 : Int32)))])) _
      refine XS.i2c X0.here hx rfl (hb hby at_10) rfl ?_
      exact Steps.refl _
    generalize hv_ca : ((p1 &&& (255 : Int32)).toUInt32.toUInt16.toUInt32.toInt32) = ca
    show own_Fin p e below (s₁.setTop (mkF m 11 #[vi p0, vi p1, vi p2, vi p3, vi (1 : Int32), uu, uu, uu, uu, uu, uu, uu] [(.int ca)])) _
    have hca : ¬ ca < 0 ∧ ¬ (255 : Int32) < ca := by rw [← hv_ca]; exact own_m255 _
    refine own_gs (cur' := s₁.setTop (mkF m 19 #[vi p0, vi p1, vi p2, vi p3, vi (1 : Int32), vi ca, uu, uu, uu, uu, uu, uu] [(.int ((p2 &&& (255 : Int32)).toUInt32.toUInt16.toUInt32.toInt32))])) ?_ ?_
    · refine XS.istore X0.here hx rfl (hb hby at_11) rfl (l' := #[vi p0, vi p1, vi p2, vi p3, vi (1 : Int32), vi ca, uu, uu, uu, uu, uu, uu]) rfl ?_
      show Steps p.tables e below (s₁.setTop (mkF m 13 #[vi p0, vi p1, vi p2, vi p3, vi (1 : Int32), vi ca, uu, uu, uu, uu, uu, uu] [])) _
      refine XS.iloadN X0.here hx rfl (hb hby at_13) rfl ?_
      show Steps p.tables e below (s₁.setTop (mkF m 14 #[vi p0, vi p1, vi p2, vi p3, vi (1 : Int32), vi ca, uu, uu, uu, uu, uu, uu] [(.int p2)])) _
      refine XS.sipush X0.here hx rfl (hb hby at_14) ?_
      show Steps p.tables e below (s₁.setTop (mkF m 17 #[vi p0, vi p1, vi p2, vi p3, vi (1 : Int32), vi ca, uu, uu, uu, uu, uu, uu] [(.int (255 : Int32)), (.int p2)])) _
      refine XS.iand X0.here hx rfl (hb hby at_17) rfl ?_
      show Steps p.tables e below (s₁.setTop (mkF m 18 #[vi p0, vi p1, vi p2, vi p3, vi (1 : Int32), vi ca, uu, uu, uu, uu, uu, uu] [(.int (p2 &&& (255 : Int32)))])) _
      refine XS.i2c X0.here hx rfl (hb hby at_18) rfl ?_
      exact Steps.refl _
    generalize hv_cb : ((p2 &&& (255 : Int32)).toUInt32.toUInt16.toUInt32.toInt32) = cb
    show own_Fin p e below (s₁.setTop (mkF m 19 #[vi p0, vi p1, vi p2, vi p3, vi (1 : Int32), vi ca, uu, uu, uu, uu, uu, uu] [(.int cb)])) _
    have hcb : ¬ cb < 0 ∧ ¬ (255 : Int32) < cb := by rw [← hv_cb]; exact own_m255 _
    refine own_gs (cur' := s₁.setTop (mkF m 27 #[vi p0, vi p1, vi p2, vi p3, vi (1 : Int32), vi ca, vi cb, uu, uu, uu, uu, uu] [(.int ((p3 &&& (255 : Int32)).toUInt32.toUInt16.toUInt32.toInt32))])) ?_ ?_
    · refine XS.istore X0.here hx rfl (hb hby at_19) rfl (l' := #[vi p0, vi p1, vi p2, vi p3, vi (1 : Int32), vi ca, vi cb, uu, uu, uu, uu, uu]) rfl ?_
      show Steps p.tables e below (s₁.setTop (mkF m 21 #[vi p0, vi p1, vi p2, vi p3, vi (1 : Int32), vi ca, vi cb, uu, uu, uu, uu, uu] [])) _
      refine XS.iloadN X0.here hx rfl (hb hby at_21) rfl ?_
      show Steps p.tables e below (s₁.setTop (mkF m 22 #[vi p0, vi p1, vi p2, vi p3, vi (1 : Int32), vi ca, vi cb, uu, uu, uu, uu, uu] [(.int p3)])) _
      refine XS.sipush X0.here hx rfl (hb hby at_22) ?_
      show Steps p.tables e below (s₁.setTop (mkF m 25 #[vi p0, vi p1, vi p2, vi p3, vi (1 : Int32), vi ca, vi cb, uu, uu, uu, uu, uu] [(.int (255 : Int32)), (.int p3)])) _
      refine XS.iand X0.here hx rfl (hb hby at_25) rfl ?_
      show Steps p.tables e below (s₁.setTop (mkF m 26 #[vi p0, vi p1, vi p2, vi p3, vi (1 : Int32), vi ca, vi cb, uu, uu, uu, uu, uu] [(.int (p3 &&& (255 : Int32)))])) _
      refine XS.i2c X0.here hx rfl (hb hby at_26) rfl ?_
      exact Steps.refl _
    generalize hv_cc : ((p3 &&& (255 : Int32)).toUInt32.toUInt16.toUInt32.toInt32) = cc
    show own_Fin p e below (s₁.setTop (mkF m 27 #[vi p0, vi p1, vi p2, vi p3, vi (1 : Int32), vi ca, vi cb, uu, uu, uu, uu, uu] [(.int cc)])) _
    have hcc : ¬ cc < 0 ∧ ¬ (255 : Int32) < cc := by rw [← hv_cc]; exact own_m255 _
    refine own_gs (cur' := s₁.setTop (mkF m 37 #[vi p0, vi p1, vi p2, vi p3, vi (1 : Int32), vi ca, vi cb, vi cc, uu, uu, uu, uu] [(.int cc), (.int cb), (.int ca), (.int (1 : Int32))])) ?_ ?_
    · refine XS.istore X0.here hx rfl (hb hby at_27) rfl (l' := #[vi p0, vi p1, vi p2, vi p3, vi (1 : Int32), vi ca, vi cb, vi cc, uu, uu, uu, uu]) rfl ?_
      show Steps p.tables e below (s₁.setTop (mkF m 29 #[vi p0, vi p1, vi p2, vi p3, vi (1 : Int32), vi ca, vi cb, vi cc, uu, uu, uu, uu] [])) _
      refine XS.iload X0.here hx rfl (hb hby at_29) rfl ?_
      show Steps p.tables e below (s₁.setTop (mkF m 31 #[vi p0, vi p1, vi p2, vi p3, vi (1 : Int32), vi ca, vi cb, vi cc, uu, uu, uu, uu] [(.int (1 : Int32))])) _
      refine XS.iload X0.here hx rfl (hb hby at_31) rfl ?_
      show Steps p.tables e below (s₁.setTop (mkF m 33 #[vi p0, vi p1, vi p2, vi p3, vi (1 : Int32), vi ca, vi cb, vi cc, uu, uu, uu, uu] [(.int ca), (.int (1 : Int32))])) _
      refine XS.iload X0.here hx rfl (hb hby at_33) rfl ?_
      show Steps p.tables e below (s₁.setTop (mkF m 35 #[vi p0, vi p1, vi p2, vi p3, vi (1 : Int32), vi ca, vi cb, vi cc, uu, uu, uu, uu] [(.int cb), (.int ca), (.int (1 : Int32))])) _
      refine XS.iload X0.here hx rfl (hb hby at_35) rfl ?_
      exact Steps.refl _
    obtain ⟨_, _, ⟨T34, L34, k34, n34⟩, -, Xw34, hSw34, hgw34, ⟨Lc34, hQ34, l34, y34, z34, hC34⟩, st34⟩ := callSS X0 hx (y := (⟨"com/example/mandatum/mandatum/service/ExchangedOfIdTokenPinLaw", "make", "(ICCC)Ljava/lang/String;"⟩ : MethodName)) hown (mvT hZ (hw _ (List.mem_of_getElem? (i := 0) rfl))) (mvT hZ (hw _ (List.mem_of_getElem? (i := 1) rfl))) (mvT hZ (hw _ (List.mem_of_getElem? (i := 2) rfl))) (mvT hZ (hw _ (List.mem_of_getElem? (i := 3) rfl))) (by decide) (own_backS (W := 0) (own_make1 l Z a0 hW ca cb cc h0 n0 (by omega) O0 hca hcb hcc) hZ (hw _ (List.mem_of_getElem? (i := 3) rfl)) (hw _ (List.mem_of_getElem? (i := 2) rfl)) (by decide) (by decide) hEL CH0.1 all0) (g := (mkF m 37 #[vi p0, vi p1, vi p2, vi p3, vi (1 : Int32), vi ca, vi cb, vi cc, uu, uu, uu, uu] [(.int cc), (.int cb), (.int ca), (.int (1 : Int32))])) rfl (by rw [hml]; rfl) (argsL := [(.int (1 : Int32)), (.int ca), (.int cb), (.int cc)]) (rest := []) (lenOf pd_6 rfl) rfl (by show 2 * 0 + _ ≤ _; exact Nat.le_of_eq rfl) (hb hby at_37) (fun _ _ => ⟨rfl, e0, (by decide : 0 + 8 ≤ 32), (by decide : 0 + 24 ≤ 2176)⟩)
    dsimp only [Pt.U, Pt.locs, Pt.cells, Pt.slots] at Xw34 hSw34 hgw34 hC34 l34 y34 z34 st34 hQ34
    subst l34 y34 z34
    obtain ⟨X34, hS34, hZ34, hown34⟩ := rebS hS0 (show h0.size ≤ s₁.heap.size by rw [e0]; omega) Xw34 hSw34 hgw34 hZ hown
    obtain ⟨a34, t34, rfl, Nq34, Kq34, F34, ge34⟩ := hQ34
    have N34 := Fr.app N0 Nq34
    have z35 := Kq34.1
    have K35 := K0.trans Kq34 all0
    have O35 := O0.keep Kq34 all0
    have CH35 := CH0.trans hC34
    have lt34 := F34.lt
    have Ex34 := F34.exa
    refine own_gs st34 ?_
    show own_Fin p e below (T34.setTop (mkF m 40 #[vi p0, vi p1, vi p2, vi p3, vi (1 : Int32), vi ca, vi cb, vi cc, uu, uu, uu, uu] [(.ref a34)])) _
    refine own_gs (cur' := T34.setTop (mkF m 50 #[vi p0, vi p1, vi p2, vi p3, vi (1 : Int32), vi ca, vi cb, vi cc, vr a34, uu, uu, uu] [(.int cc), (.int cb), (.int ca), (.int (1 : Int32))])) ?_ ?_
    · refine XS.astore X34.here hx rfl (hb hby at_40) rfl rfl (l' := #[vi p0, vi p1, vi p2, vi p3, vi (1 : Int32), vi ca, vi cb, vi cc, vr a34, uu, uu, uu]) rfl ?_
      show Steps p.tables e below (T34.setTop (mkF m 42 #[vi p0, vi p1, vi p2, vi p3, vi (1 : Int32), vi ca, vi cb, vi cc, vr a34, uu, uu, uu] [])) _
      refine XS.iload X34.here hx rfl (hb hby at_42) rfl ?_
      show Steps p.tables e below (T34.setTop (mkF m 44 #[vi p0, vi p1, vi p2, vi p3, vi (1 : Int32), vi ca, vi cb, vi cc, vr a34, uu, uu, uu] [(.int (1 : Int32))])) _
      refine XS.iload X34.here hx rfl (hb hby at_44) rfl ?_
      show Steps p.tables e below (T34.setTop (mkF m 46 #[vi p0, vi p1, vi p2, vi p3, vi (1 : Int32), vi ca, vi cb, vi cc, vr a34, uu, uu, uu] [(.int ca), (.int (1 : Int32))])) _
      refine XS.iload X34.here hx rfl (hb hby at_46) rfl ?_
      show Steps p.tables e below (T34.setTop (mkF m 48 #[vi p0, vi p1, vi p2, vi p3, vi (1 : Int32), vi ca, vi cb, vi cc, vr a34, uu, uu, uu] [(.int cb), (.int ca), (.int (1 : Int32))])) _
      refine XS.iload X34.here hx rfl (hb hby at_48) rfl ?_
      exact Steps.refl _
    obtain ⟨_, _, ⟨T36, L36, k36, n36⟩, -, Xw36, hSw36, hgw36, ⟨Lc36, hQ36, l36, y36, z36, hC36⟩, st36⟩ := callSS X34 hx (y := (⟨"com/example/mandatum/mandatum/service/ExchangedOfIdTokenPinLaw", "make", "(ICCC)Ljava/lang/String;"⟩ : MethodName)) hown34 (mvT hZ34 (hw _ (List.mem_of_getElem? (i := 0) rfl))) (mvT hZ34 (hw _ (List.mem_of_getElem? (i := 1) rfl))) (mvT hZ34 (hw _ (List.mem_of_getElem? (i := 2) rfl))) (mvT hZ34 (hw _ (List.mem_of_getElem? (i := 3) rfl))) (by decide) (own_backS (W := 0) (own_make1 l Z a0 hW ca cb cc T34.heap n0 (by omega) O35 hca hcb hcc) hZ34 (hw _ (List.mem_of_getElem? (i := 3) rfl)) (hw _ (List.mem_of_getElem? (i := 2) rfl)) (by decide) (by decide) hEL CH35.1 all0) (g := (mkF m 50 #[vi p0, vi p1, vi p2, vi p3, vi (1 : Int32), vi ca, vi cb, vi cc, vr a34, uu, uu, uu] [(.int cc), (.int cb), (.int ca), (.int (1 : Int32))])) rfl (by rw [hml]; rfl) (argsL := [(.int (1 : Int32)), (.int ca), (.int cb), (.int cc)]) (rest := []) (lenOf pd_6 rfl) rfl (by show 2 * 0 + _ ≤ _; exact Nat.le_of_eq rfl) (hb hby at_50) (fun _ _ => ⟨rfl, rfl, (by decide : 8 + 8 ≤ 32), (by decide : 24 + 24 ≤ 2176)⟩)
    dsimp only [Pt.U, Pt.locs, Pt.cells, Pt.slots] at Xw36 hSw36 hgw36 hC36 l36 y36 z36 st36 hQ36
    subst l36 y36 z36
    obtain ⟨X36, hS36, hZ36, hown36⟩ := rebS hS34 (show T34.heap.size ≤ T34.heap.size by omega) Xw36 hSw36 hgw36 hZ34 hown34
    obtain ⟨a36, t36, rfl, Nq36, Kq36, F36, ge36⟩ := hQ36
    have N36 := Fr.app N34 Nq36
    have z37 := Kq36.1
    have K37 := K35.trans Kq36 all0
    have O37 := O35.keep Kq36 all0
    have CH37 := CH35.trans hC36
    have lt36 := F36.lt
    have Ex36 := F36.exa
    refine own_gs st36 ?_
    show own_Fin p e below (T36.setTop (mkF m 53 #[vi p0, vi p1, vi p2, vi p3, vi (1 : Int32), vi ca, vi cb, vi cc, vr a34, uu, uu, uu] [(.ref a36)])) _
    have f38 := (Ex34.keep Kq36)
    refine own_gs (cur' := T36.setTop (mkF m 57 #[vi p0, vi p1, vi p2, vi p3, vi (1 : Int32), vi ca, vi cb, vi cc, vr a34, vr a36, uu, uu] [(.ref a34)])) ?_ ?_
    · refine XS.astore X36.here hx rfl (hb hby at_53) rfl rfl (l' := #[vi p0, vi p1, vi p2, vi p3, vi (1 : Int32), vi ca, vi cb, vi cc, vr a34, vr a36, uu, uu]) rfl ?_
      show Steps p.tables e below (T36.setTop (mkF m 55 #[vi p0, vi p1, vi p2, vi p3, vi (1 : Int32), vi ca, vi cb, vi cc, vr a34, vr a36, uu, uu] [])) _
      refine XS.aload X36.here hx rfl (hb hby at_55) rfl rfl ?_
      exact Steps.refl _
    obtain ⟨_, _, ⟨T39, L39, k39, n39⟩, -, Xw39, hSw39, hgw39, ⟨Lc39, hQ39, l39, y39, z39, hC39⟩, st39⟩ := callSS X36 hx (y := (⟨"com/example/mandatum/mandatum/service/Exchanged", "ofIdToken", "(Ljava/lang/String;)Lcom/example/mandatum/mandatum/service/Exchanged;"⟩ : MethodName)) hown36 (mvT hZ36 (hw _ (List.mem_of_getElem? (i := 26) rfl))) (mvT hZ36 (hw _ (List.mem_of_getElem? (i := 27) rfl))) (mvT hZ36 (hw _ (List.mem_of_getElem? (i := 28) rfl))) (mvT hZ36 (hw _ (List.mem_of_getElem? (i := 29) rfl))) (by decide) (own_backS (W := 0) (own_ofid l Z a0 hW a34 T36.heap n0 (by omega) O37 f38) hZ36 (hw _ (List.mem_of_getElem? (i := 29) rfl)) (hw _ (List.mem_of_getElem? (i := 28) rfl)) (by decide) (by decide) hEL CH37.1 all0) (g := (mkF m 57 #[vi p0, vi p1, vi p2, vi p3, vi (1 : Int32), vi ca, vi cb, vi cc, vr a34, vr a36, uu, uu] [(.ref a34)])) rfl (by rw [hml]; rfl) (argsL := [(.ref a34)]) (rest := []) (lenOf pd_7 rfl) rfl (by show 2 * 0 + _ ≤ _; exact Nat.le_of_eq rfl) (hb hby at_57) (fun _ _ => ⟨rfl, rfl, (by decide : 16 + 3 ≤ 32), (by decide : 48 + 58 ≤ 2176)⟩)
    dsimp only [Pt.U, Pt.locs, Pt.cells, Pt.slots] at Xw39 hSw39 hgw39 hC39 l39 y39 z39 st39 hQ39
    subst l39 y39 z39
    obtain ⟨X39, hS39, hZ39, hown39⟩ := rebS hS36 (show T36.heap.size ≤ T36.heap.size by omega) Xw39 hSw39 hgw39 hZ36 hown36
    obtain ⟨b39, rfl, Nq39, Kq39, E39, Fa39, Fi39, ge39⟩ := hQ39
    have N39 := Fr.app N36 Nq39
    have z40 := Kq39.1
    have K40 := K37.trans Kq39 all0
    have O40 := O37.keep Kq39 all0
    have CH40 := CH37.trans hC39
    have lt39 := own_lt E39.lt
    refine own_gs st39 ?_
    show own_Fin p e below (T39.setTop (mkF m 60 #[vi p0, vi p1, vi p2, vi p3, vi (1 : Int32), vi ca, vi cb, vi cc, vr a34, vr a36, uu, uu] [(.ref b39)])) _
    refine own_gs (cur' := T39.setTop (mkF m 64 #[vi p0, vi p1, vi p2, vi p3, vi (1 : Int32), vi ca, vi cb, vi cc, vr a34, vr a36, vr b39, uu] [(.ref b39)])) ?_ ?_
    · refine XS.astore X39.here hx rfl (hb hby at_60) rfl rfl (l' := #[vi p0, vi p1, vi p2, vi p3, vi (1 : Int32), vi ca, vi cb, vi cc, vr a34, vr a36, vr b39, uu]) rfl ?_
      show Steps p.tables e below (T39.setTop (mkF m 62 #[vi p0, vi p1, vi p2, vi p3, vi (1 : Int32), vi ca, vi cb, vi cc, vr a34, vr a36, vr b39, uu] [])) _
      refine XS.aload X39.here hx rfl (hb hby at_62) rfl rfl ?_
      exact Steps.refl _
    obtain ⟨cq41, kq41, q41a, q41b, q41c⟩ := isOf hZ39 rfl E39
    obtain ⟨_, _, ⟨T41, L41, k41, n41⟩, -, X41, ⟨Lc41, hQ41, l41, y41, z41⟩, st41⟩ := X39.virtualBack hx (y := (⟨"com/example/mandatum/mandatum/service/Exchanged", "accessToken", "()Ljava/util/Optional;"⟩ : MethodName)) (z := (⟨"com/example/mandatum/mandatum/service/Exchanged", "accessToken", "()Ljava/util/Optional;"⟩ : MethodName)) hown39 (mvT hZ39 (hw _ (List.mem_of_getElem? (i := 46) rfl))) (mvT hZ39 (hw _ (List.mem_of_getElem? (i := 47) rfl))) (notFace_of_selects (args := #[]) (mvT hZ39 (hw _ (List.mem_of_getElem? (i := 49) rfl)))) (mvT hZ39 (hw _ (List.mem_of_getElem? (i := 49) rfl))) (mvT hZ39 (hw _ (List.mem_of_getElem? (i := 48) rfl))) (by decide) (backOf (W := 0) (own_acc l Z a0 hW b39 ea T39.heap n0 (by omega) O40 Se Fa39) hZ39 (hw _ (List.mem_of_getElem? (i := 50) rfl)) (hw _ (List.mem_of_getElem? (i := 28) rfl)) (by decide) (by decide)) q41a q41c (g := (mkF m 64 #[vi p0, vi p1, vi p2, vi p3, vi (1 : Int32), vi ca, vi cb, vi cc, vr a34, vr a36, vr b39, uu] [(.ref b39)])) rfl (by rw [hml]; rfl) (Steps.refl _) (argsL := []) (rest := []) (lenOf pd_8 rfl) rfl (by show 2 * 0 + _ ≤ _; exact Nat.le_of_eq rfl) (hb hby at_64) (fun _ _ => ⟨rfl, rfl, (by decide : 19 + 0 ≤ 32), (by decide : 106 + 0 ≤ 2176)⟩)
    dsimp only [Pt.U, Pt.locs, Pt.cells, Pt.slots] at X41 l41 y41 z41 st41 hQ41
    subst l41 y41 z41
    obtain ⟨rfl, Nq41, eh41⟩ := hQ41
    have N41 := Fr.app N39 Nq41
    refine own_gs st41 ?_
    show own_Fin p e below (T41.setTop (mkF m 67 #[vi p0, vi p1, vi p2, vi p3, vi (1 : Int32), vi ca, vi cb, vi cc, vr a34, vr a36, vr b39, uu] [(.ref ea)])) _
    have Eea := Ee.ext O40.2
    obtain ⟨cq42, kq42, q42a, q42b, q42c⟩ := isOf hZ39 eh41 Eea
    obtain ⟨_, _, ⟨T42, L42, k42, n42⟩, -, X42, ⟨Lc42, hQ42, l42, y42, z42⟩, st42⟩ := X41.virtualBack hx (y := (⟨"java/util/Optional", "isEmpty", "()Z"⟩ : MethodName)) (z := (⟨"java/util/Optional", "isEmpty", "()Z"⟩ : MethodName)) hown39 (mvT hZ39 (hw _ (List.mem_of_getElem? (i := 56) rfl))) (mvT hZ39 (hw _ (List.mem_of_getElem? (i := 57) rfl))) (notFace_of_selects (args := #[]) (mvT hZ39 (hw _ (List.mem_of_getElem? (i := 59) rfl)))) (mvT hZ39 (hw _ (List.mem_of_getElem? (i := 59) rfl))) (mvT hZ39 (hw _ (List.mem_of_getElem? (i := 58) rfl))) (by decide) (backOf (W := 0) (own_ise l Z a0 hW ea 0 T39.heap n0 (by omega) O40 (Fe.ext O40.2)) hZ39 (hw _ (List.mem_of_getElem? (i := 60) rfl)) (hw _ (List.mem_of_getElem? (i := 53) rfl)) (by decide) (by decide)) q42a q42c (g := (mkF m 67 #[vi p0, vi p1, vi p2, vi p3, vi (1 : Int32), vi ca, vi cb, vi cc, vr a34, vr a36, vr b39, uu] [(.ref ea)])) rfl (by rw [hml]; rfl) (Steps.refl _) (argsL := []) (rest := []) (lenOf pd_9 rfl) rfl (by show 2 * 0 + _ ≤ _; exact Nat.le_of_eq rfl) (hb hby at_67) (fun _ _ => ⟨rfl, eh41, (by decide : 19 + 0 ≤ 32), (by decide : 106 + 0 ≤ 2176)⟩)
    dsimp only [Pt.U, Pt.locs, Pt.cells, Pt.slots] at X42 l42 y42 z42 st42 hQ42
    subst l42 y42 z42
    obtain ⟨rfl, Nq42, eh42⟩ := hQ42
    have N42 := Fr.app N41 Nq42
    refine own_gs st42 ?_
    show own_Fin p e below (T42.setTop (mkF m 70 #[vi p0, vi p1, vi p2, vi p3, vi (1 : Int32), vi ca, vi cb, vi cc, vr a34, vr a36, vr b39, uu] [(.int (1 : Int32))])) _
    refine own_gs (cur' := T42.setTop (mkF m 77 #[vi p0, vi p1, vi p2, vi p3, vi (1 : Int32), vi ca, vi cb, vi cc, vr a34, vr a36, vr b39, uu] [(.ref b39)])) ?_ ?_
    · refine XS.ifYes X42.here hx rfl (pc0 := 70) (pc' := 75) rfl (hb hby at_70) rfl ((if0 _ _).trans (feq ((by decide) : ¬ ((1 : Int32) = (0 : Int32)))).2) (by decide) (by decide) ?_
      show Steps p.tables e below (T42.setTop (mkF m 75 #[vi p0, vi p1, vi p2, vi p3, vi (1 : Int32), vi ca, vi cb, vi cc, vr a34, vr a36, vr b39, uu] [])) _
      refine XS.aload X42.here hx rfl (hb hby at_75) rfl rfl ?_
      exact Steps.refl _
    obtain ⟨cq43, kq43, q43a, q43b, q43c⟩ := isOf hZ39 eh42 E39
    obtain ⟨_, _, ⟨T43, L43, k43, n43⟩, -, X43, ⟨Lc43, hQ43, l43, y43, z43⟩, st43⟩ := X42.virtualBack hx (y := (⟨"com/example/mandatum/mandatum/service/Exchanged", "idToken", "()Ljava/util/Optional;"⟩ : MethodName)) (z := (⟨"com/example/mandatum/mandatum/service/Exchanged", "idToken", "()Ljava/util/Optional;"⟩ : MethodName)) hown39 (mvT hZ39 (hw _ (List.mem_of_getElem? (i := 63) rfl))) (mvT hZ39 (hw _ (List.mem_of_getElem? (i := 64) rfl))) (notFace_of_selects (args := #[]) (mvT hZ39 (hw _ (List.mem_of_getElem? (i := 66) rfl)))) (mvT hZ39 (hw _ (List.mem_of_getElem? (i := 66) rfl))) (mvT hZ39 (hw _ (List.mem_of_getElem? (i := 65) rfl))) (by decide) (backOf (W := 0) (own_idt l Z a0 hW b39 a34 T39.heap n0 (by omega) O40 Fi39) hZ39 (hw _ (List.mem_of_getElem? (i := 67) rfl)) (hw _ (List.mem_of_getElem? (i := 28) rfl)) (by decide) (by decide)) q43a q43c (g := (mkF m 77 #[vi p0, vi p1, vi p2, vi p3, vi (1 : Int32), vi ca, vi cb, vi cc, vr a34, vr a36, vr b39, uu] [(.ref b39)])) rfl (by rw [hml]; rfl) (Steps.refl _) (argsL := []) (rest := []) (lenOf pd_8 rfl) rfl (by show 2 * 0 + _ ≤ _; exact Nat.le_of_eq rfl) (hb hby at_77) (fun _ _ => ⟨rfl, eh42, (by decide : 19 + 1 ≤ 32), (by decide : 106 + 1 ≤ 2176)⟩)
    dsimp only [Pt.U, Pt.locs, Pt.cells, Pt.slots] at X43 l43 y43 z43 st43 hQ43
    subst l43 y43 z43
    obtain ⟨o43, rfl, Nq43, Kq43, E43, F43, ge43⟩ := hQ43
    have N43 := Fr.app N42 Nq43
    have z44 := Kq43.1
    have K44 := K40.trans Kq43 all0
    have O44 := O40.keep Kq43 all0
    have CH44 := CH40.trans (CHr.keep Kq43 all0 CH40.1)
    have lt43 := own_lt E43.lt
    refine own_gs st43 ?_
    show own_Fin p e below (T43.setTop (mkF m 80 #[vi p0, vi p1, vi p2, vi p3, vi (1 : Int32), vi ca, vi cb, vi cc, vr a34, vr a36, vr b39, uu] [(.ref o43)])) _
    obtain ⟨cq45, kq45, q45a, q45b, q45c⟩ := isOf hZ39 rfl E43
    obtain ⟨_, _, ⟨T45, L45, k45, n45⟩, -, X45, ⟨Lc45, hQ45, l45, y45, z45⟩, st45⟩ := X43.virtualBack hx (y := (⟨"java/util/Optional", "isPresent", "()Z"⟩ : MethodName)) (z := (⟨"java/util/Optional", "isPresent", "()Z"⟩ : MethodName)) hown39 (mvT hZ39 (hw _ (List.mem_of_getElem? (i := 75) rfl))) (mvT hZ39 (hw _ (List.mem_of_getElem? (i := 76) rfl))) (notFace_of_selects (args := #[]) (mvT hZ39 (hw _ (List.mem_of_getElem? (i := 78) rfl)))) (mvT hZ39 (hw _ (List.mem_of_getElem? (i := 78) rfl))) (mvT hZ39 (hw _ (List.mem_of_getElem? (i := 77) rfl))) (by decide) (backOf (W := 0) (own_isp l Z a0 hW o43 a34 T43.heap n0 (by omega) O44 F43) hZ39 (hw _ (List.mem_of_getElem? (i := 79) rfl)) (hw _ (List.mem_of_getElem? (i := 53) rfl)) (by decide) (by decide)) q45a q45c (g := (mkF m 80 #[vi p0, vi p1, vi p2, vi p3, vi (1 : Int32), vi ca, vi cb, vi cc, vr a34, vr a36, vr b39, uu] [(.ref o43)])) rfl (by rw [hml]; rfl) (Steps.refl _) (argsL := []) (rest := []) (lenOf pd_9 rfl) rfl (by show 2 * 0 + _ ≤ _; exact Nat.le_of_eq rfl) (hb hby at_80) (fun _ _ => ⟨rfl, rfl, (by decide : 20 + 0 ≤ 32), (by decide : 107 + 0 ≤ 2176)⟩)
    dsimp only [Pt.U, Pt.locs, Pt.cells, Pt.slots] at X45 l45 y45 z45 st45 hQ45
    subst l45 y45 z45
    obtain ⟨rfl, Nq45, eh45⟩ := hQ45
    have N45 := Fr.app N43 Nq45
    refine own_gs st45 ?_
    show own_Fin p e below (T45.setTop (mkF m 83 #[vi p0, vi p1, vi p2, vi p3, vi (1 : Int32), vi ca, vi cb, vi cc, vr a34, vr a36, vr b39, uu] [(.int (1 : Int32))])) _
    have f46 := (Fi39.keep Kq43 nin0)
    refine own_gs (cur' := T45.setTop (mkF m 90 #[vi p0, vi p1, vi p2, vi p3, vi (1 : Int32), vi ca, vi cb, vi cc, vr a34, vr a36, vr b39, uu] [(.ref b39)])) ?_ ?_
    · refine XS.ifYes X45.here hx rfl (pc0 := 83) (pc' := 88) rfl (hb hby at_83) rfl ((if0 _ _).trans (feq ((by decide) : ¬ ((1 : Int32) = (0 : Int32)))).2) (by decide) (by decide) ?_
      show Steps p.tables e below (T45.setTop (mkF m 88 #[vi p0, vi p1, vi p2, vi p3, vi (1 : Int32), vi ca, vi cb, vi cc, vr a34, vr a36, vr b39, uu] [])) _
      refine XS.aload X45.here hx rfl (hb hby at_88) rfl rfl ?_
      exact Steps.refl _
    have f48 := (E39.keep Kq43)
    obtain ⟨cq47, kq47, q47a, q47b, q47c⟩ := isOf hZ39 eh45 f48
    obtain ⟨_, _, ⟨T47, L47, k47, n47⟩, -, X47, ⟨Lc47, hQ47, l47, y47, z47⟩, st47⟩ := X45.virtualBack hx (y := (⟨"com/example/mandatum/mandatum/service/Exchanged", "idToken", "()Ljava/util/Optional;"⟩ : MethodName)) (z := (⟨"com/example/mandatum/mandatum/service/Exchanged", "idToken", "()Ljava/util/Optional;"⟩ : MethodName)) hown39 (mvT hZ39 (hw _ (List.mem_of_getElem? (i := 63) rfl))) (mvT hZ39 (hw _ (List.mem_of_getElem? (i := 64) rfl))) (notFace_of_selects (args := #[]) (mvT hZ39 (hw _ (List.mem_of_getElem? (i := 66) rfl)))) (mvT hZ39 (hw _ (List.mem_of_getElem? (i := 66) rfl))) (mvT hZ39 (hw _ (List.mem_of_getElem? (i := 65) rfl))) (by decide) (backOf (W := 0) (own_idt l Z a0 hW b39 a34 T43.heap n0 (by omega) O44 f46) hZ39 (hw _ (List.mem_of_getElem? (i := 67) rfl)) (hw _ (List.mem_of_getElem? (i := 28) rfl)) (by decide) (by decide)) q47a q47c (g := (mkF m 90 #[vi p0, vi p1, vi p2, vi p3, vi (1 : Int32), vi ca, vi cb, vi cc, vr a34, vr a36, vr b39, uu] [(.ref b39)])) rfl (by rw [hml]; rfl) (Steps.refl _) (argsL := []) (rest := []) (lenOf pd_8 rfl) rfl (by show 2 * 0 + _ ≤ _; exact Nat.le_of_eq rfl) (hb hby at_90) (fun _ _ => ⟨rfl, eh45, (by decide : 20 + 1 ≤ 32), (by decide : 107 + 1 ≤ 2176)⟩)
    dsimp only [Pt.U, Pt.locs, Pt.cells, Pt.slots] at X47 l47 y47 z47 st47 hQ47
    subst l47 y47 z47
    obtain ⟨o47, rfl, Nq47, Kq47, E47, F47, ge47⟩ := hQ47
    have N47 := Fr.app N45 Nq47
    have z49 := Kq47.1
    have K49 := K44.trans Kq47 all0
    have O49 := O44.keep Kq47 all0
    have CH49 := CH44.trans (CHr.keep Kq47 all0 CH44.1)
    have lt47 := own_lt E47.lt
    refine own_gs st47 ?_
    show own_Fin p e below (T47.setTop (mkF m 93 #[vi p0, vi p1, vi p2, vi p3, vi (1 : Int32), vi ca, vi cb, vi cc, vr a34, vr a36, vr b39, uu] [(.ref o47)])) _
    obtain ⟨cq50, kq50, q50a, q50b, q50c⟩ := isOf hZ39 rfl E47
    obtain ⟨_, _, ⟨T50, L50, k50, n50⟩, -, X50, ⟨Lc50, hQ50, l50, y50, z50⟩, st50⟩ := X47.virtualBack hx (y := (⟨"java/util/Optional", "get", "()Ljava/lang/Object;"⟩ : MethodName)) (z := (⟨"java/util/Optional", "get", "()Ljava/lang/Object;"⟩ : MethodName)) hown39 (mvT hZ39 (hw _ (List.mem_of_getElem? (i := 80) rfl))) (mvT hZ39 (hw _ (List.mem_of_getElem? (i := 81) rfl))) (notFace_of_selects (args := #[]) (mvT hZ39 (hw _ (List.mem_of_getElem? (i := 83) rfl)))) (mvT hZ39 (hw _ (List.mem_of_getElem? (i := 83) rfl))) (mvT hZ39 (hw _ (List.mem_of_getElem? (i := 82) rfl))) (by decide) (backOf (W := 0) (own_get l Z a0 hW o47 a34 T47.heap n0 (by omega) O49 F47) hZ39 (hw _ (List.mem_of_getElem? (i := 84) rfl)) (hw _ (List.mem_of_getElem? (i := 53) rfl)) (by decide) (by decide)) q50a q50c (g := (mkF m 93 #[vi p0, vi p1, vi p2, vi p3, vi (1 : Int32), vi ca, vi cb, vi cc, vr a34, vr a36, vr b39, uu] [(.ref o47)])) rfl (by rw [hml]; rfl) (Steps.refl _) (argsL := []) (rest := []) (lenOf pd_10 rfl) rfl (by show 2 * 0 + _ ≤ _; exact Nat.le_of_eq rfl) (hb hby at_93) (fun _ _ => ⟨rfl, rfl, (by decide : 21 + 0 ≤ 32), (by decide : 108 + 0 ≤ 2176)⟩)
    dsimp only [Pt.U, Pt.locs, Pt.cells, Pt.slots] at X50 l50 y50 z50 st50 hQ50
    subst l50 y50 z50
    obtain ⟨rfl, Nq50, eh50⟩ := hQ50
    have N50 := Fr.app N47 Nq50
    refine own_gs st50 ?_
    show own_Fin p e below (T50.setTop (mkF m 96 #[vi p0, vi p1, vi p2, vi p3, vi (1 : Int32), vi ca, vi cb, vi cc, vr a34, vr a36, vr b39, uu] [(.ref a34)])) _
    have f52 := (((f38.keep Kq39).keep Kq43).keep Kq47)
    obtain ⟨T51, X51, e51, st51⟩ := castY X50 hx hZ39 hown39 (hw _ (List.mem_of_getElem? (i := 4) rfl)) eh50 (Ins.self f52) (g := (mkF m 96 #[vi p0, vi p1, vi p2, vi p3, vi (1 : Int32), vi ca, vi cb, vi cc, vr a34, vr a36, vr b39, uu] [(.ref a34)])) rfl rfl (hb hby at_96)
    refine own_go st51 ?_
    show own_Fin p e below (T51.setTop (mkF m 99 #[vi p0, vi p1, vi p2, vi p3, vi (1 : Int32), vi ca, vi cb, vi cc, vr a34, vr a36, vr b39, uu] [(.ref a34)])) _
    have f53 := ((((F34.keep Kq36 nin0 nin0).keep Kq39 nin0 nin0).keep Kq43 nin0 nin0).keep Kq47 nin0 nin0)
    refine own_gs (cur' := T51.setTop (mkF m 103 #[vi p0, vi p1, vi p2, vi p3, vi (1 : Int32), vi ca, vi cb, vi cc, vr a34, vr a36, vr b39, vr a34] [(.ref a34)])) ?_ ?_
    · refine XS.astore X51.here hx rfl (hb hby at_99) rfl rfl (l' := #[vi p0, vi p1, vi p2, vi p3, vi (1 : Int32), vi ca, vi cb, vi cc, vr a34, vr a36, vr b39, vr a34]) rfl ?_
      show Steps p.tables e below (T51.setTop (mkF m 101 #[vi p0, vi p1, vi p2, vi p3, vi (1 : Int32), vi ca, vi cb, vi cc, vr a34, vr a36, vr b39, vr a34] [])) _
      refine XS.aload X51.here hx rfl (hb hby at_101) rfl rfl ?_
      exact Steps.refl _
    obtain ⟨cq54, kq54, q54a, q54b, q54c⟩ := isOf hZ39 e51 f52
    obtain ⟨_, _, ⟨T54, L54, k54, n54⟩, -, X54, ⟨Lc54, hQ54, l54, y54, z54⟩, st54⟩ := X51.virtualBack hx (y := (⟨"java/lang/String", "length", "()I"⟩ : MethodName)) (z := (⟨"java/lang/String", "length", "()I"⟩ : MethodName)) hown39 (mvT hZ39 (hw _ (List.mem_of_getElem? (i := 85) rfl))) (mvT hZ39 (hw _ (List.mem_of_getElem? (i := 86) rfl))) (notFace_of_selects (args := #[]) (mvT hZ39 (hw _ (List.mem_of_getElem? (i := 88) rfl)))) (mvT hZ39 (hw _ (List.mem_of_getElem? (i := 88) rfl))) (mvT hZ39 (hw _ (List.mem_of_getElem? (i := 87) rfl))) (by decide) (own_lenB (W := 0) hZ39 hw f53 (O2.ext O49.2) P5 (by decide) (by decide)) q54a q54c (g := (mkF m 103 #[vi p0, vi p1, vi p2, vi p3, vi (1 : Int32), vi ca, vi cb, vi cc, vr a34, vr a36, vr b39, vr a34] [(.ref a34)])) rfl (by rw [hml]; rfl) (Steps.refl _) (argsL := []) (rest := []) (lenOf pd_11 rfl) rfl (by show 2 * 0 + _ ≤ _; exact Nat.le_of_eq rfl) (hb hby at_103) (fun _ _ => ⟨rfl, e51, (by decide : 21 + 0 ≤ 32), (by decide : 108 + 0 ≤ 2176)⟩)
    dsimp only [Pt.U, Pt.locs, Pt.cells, Pt.slots] at X54 l54 y54 z54 st54 hQ54
    subst l54 y54 z54
    obtain ⟨rfl, rfl, eh54⟩ := hQ54
    have N54 := Fr.app N50 (Fr.nil n0)
    refine own_gs st54 ?_
    show own_Fin p e below (T54.setTop (mkF m 106 #[vi p0, vi p1, vi p2, vi p3, vi (1 : Int32), vi ca, vi cb, vi cc, vr a34, vr a36, vr b39, vr a34] [(.int (1 : Int32))])) _
    have f55 := (((F36.keep Kq39 nin0 nin0).keep Kq43 nin0 nin0).keep Kq47 nin0 nin0)
    refine own_gs (cur' := T54.setTop (mkF m 115 #[vi p0, vi p1, vi p2, vi p3, vi (1 : Int32), vi ca, vi cb, vi cc, vr a34, vr a36, vr b39, vr a34] [(.ref a36), (.ref a34)])) ?_ ?_
    · refine XS.iload X54.here hx rfl (hb hby at_106) rfl ?_
      show Steps p.tables e below (T54.setTop (mkF m 108 #[vi p0, vi p1, vi p2, vi p3, vi (1 : Int32), vi ca, vi cb, vi cc, vr a34, vr a36, vr b39, vr a34] [(.int (1 : Int32)), (.int (1 : Int32))])) _
      refine XS.icmpNo X54.here hx rfl (hb hby at_108) rfl (teq ((by decide) : (1 : Int32) = (1 : Int32))).2 ?_
      show Steps p.tables e below (T54.setTop (mkF m 111 #[vi p0, vi p1, vi p2, vi p3, vi (1 : Int32), vi ca, vi cb, vi cc, vr a34, vr a36, vr b39, vr a34] [])) _
      refine XS.aload X54.here hx rfl (hb hby at_111) rfl rfl ?_
      show Steps p.tables e below (T54.setTop (mkF m 113 #[vi p0, vi p1, vi p2, vi p3, vi (1 : Int32), vi ca, vi cb, vi cc, vr a34, vr a36, vr b39, vr a34] [(.ref a34)])) _
      refine XS.aload X54.here hx rfl (hb hby at_113) rfl rfl ?_
      exact Steps.refl _
    obtain ⟨cq56, kq56, q56a, q56b, q56c⟩ := isOf hZ39 eh54 f52
    obtain ⟨_, _, ⟨T56, L56, k56, n56⟩, -, X56, ⟨Lc56, hQ56, l56, y56, z56⟩, st56⟩ := X54.virtualBack hx (y := (⟨"java/lang/String", "equals", "(Ljava/lang/Object;)Z"⟩ : MethodName)) (z := (⟨"java/lang/String", "equals", "(Ljava/lang/Object;)Z"⟩ : MethodName)) hown39 (mvT hZ39 (hw _ (List.mem_of_getElem? (i := 96) rfl))) (mvT hZ39 (hw _ (List.mem_of_getElem? (i := 97) rfl))) (notFace_of_selects (args := #[]) (mvT hZ39 (hw _ (List.mem_of_getElem? (i := 99) rfl)))) (mvT hZ39 (hw _ (List.mem_of_getElem? (i := 99) rfl))) (mvT hZ39 (hw _ (List.mem_of_getElem? (i := 98) rfl))) (by decide) (own_eqB (W := 0) hZ39 hw f53 f55 (O2.ext O49.2) P5 (by decide) (by decide)) q56a q56c (g := (mkF m 115 #[vi p0, vi p1, vi p2, vi p3, vi (1 : Int32), vi ca, vi cb, vi cc, vr a34, vr a36, vr b39, vr a34] [(.ref a36), (.ref a34)])) rfl (by rw [hml]; rfl) (Steps.refl _) (argsL := [(.ref a36)]) (rest := []) (lenOf pd_12 rfl) rfl (by show 2 * 0 + _ ≤ _; exact Nat.le_of_eq rfl) (hb hby at_115) (fun _ _ => ⟨rfl, eh54, (by decide : 21 + 0 ≤ 32), (by decide : 108 + 0 ≤ 2176)⟩)
    dsimp only [Pt.U, Pt.locs, Pt.cells, Pt.slots] at X56 l56 y56 z56 st56 hQ56
    subst l56 y56 z56
    obtain ⟨rfl, rfl, eh56⟩ := hQ56
    have N56 := Fr.app N54 (Fr.nil n0)
    rw [if_pos rfl] at st56
    refine own_gs st56 ?_
    show own_Fin p e below (T56.setTop (mkF m 118 #[vi p0, vi p1, vi p2, vi p3, vi (1 : Int32), vi ca, vi cb, vi cc, vr a34, vr a36, vr b39, vr a34] [(.int (1 : Int32))])) _
    refine own_gs (cur' := T56.setTop (mkF m 126 #[vi p0, vi p1, vi p2, vi p3, vi (1 : Int32), vi ca, vi cb, vi cc, vr a34, vr a36, vr b39, vr a34] [(.int (1 : Int32))])) ?_ ?_
    · refine XS.ifNo X56.here hx rfl (hb hby at_118) rfl ((if0 _ _).trans (feq ((by decide) : ¬ ((1 : Int32) = (0 : Int32)))).1) ?_
      show Steps p.tables e below (T56.setTop (mkF m 121 #[vi p0, vi p1, vi p2, vi p3, vi (1 : Int32), vi ca, vi cb, vi cc, vr a34, vr a36, vr b39, vr a34] [])) _
      refine XS.iconst X56.here hx rfl (hb hby at_121) ?_
      show Steps p.tables e below (T56.setTop (mkF m 122 #[vi p0, vi p1, vi p2, vi p3, vi (1 : Int32), vi ca, vi cb, vi cc, vr a34, vr a36, vr b39, vr a34] [(.int (1 : Int32))])) _
      refine XS.goto X56.here hx rfl (pc0 := 122) (pc' := 126) rfl (hb hby at_122) (by decide) (by decide) ?_
      exact Steps.refl _
    obtain ⟨fs, hr, hrun, hended, hRE⟩ := X56.leaveW hS39 (show T39.heap.size ≤ T56.heap.size by rw [eh56]; omega) (v := (some (.int (1 : Int32)))) (fun h => by rw [Bd.returns] at h; cases h)
    refine ⟨_, _, retN X56 hx (t := .boolean) Bd.returns (by simp) (hb hby at_126) hr, hrun, hended, _, _, rfl, ?_, ?_, hRE.1, hRE.2.1, hRE.2.2.1, hRE.2.2.2.mono (by decide) (by decide)⟩
    · show own_law_Q Z p0 p1 p2 p3 h0 n0 (some (.int (1 : Int32))) T56.heap _
      rw [eh56]
      exact ⟨rfl, N56⟩
    · have hfin := CH49.trans (CHv.at X56 hZ39 hEL CH49.1)
      rw [hh]
      show CHr Z own_EL s.vm h0 T56.vm T56.heap
      rw [eh56]
      exact hfin
  · rw [hn]
    show own_Fin p e below (s₁.setTop (mkF m 3 #[vi p0, vi p1, vi p2, vi p3, uu, uu, uu, uu, uu, uu, uu, uu] [(.int (2 : Int32))])) _
    refine own_gs (cur' := s₁.setTop (mkF m 11 #[vi p0, vi p1, vi p2, vi p3, vi (2 : Int32), uu, uu, uu, uu, uu, uu, uu] [(.int ((p1 &&& (255 : Int32)).toUInt32.toUInt16.toUInt32.toInt32))])) ?_ ?_
    · refine XS.istore X0.here hx rfl (hb hby at_3) rfl (l' := #[vi p0, vi p1, vi p2, vi p3, vi (2 : Int32), uu, uu, uu, uu, uu, uu, uu]) rfl ?_
      show Steps p.tables e below (s₁.setTop (mkF m 5 #[vi p0, vi p1, vi p2, vi p3, vi (2 : Int32), uu, uu, uu, uu, uu, uu, uu] [])) _
      refine XS.iloadN X0.here hx rfl (hb hby at_5) rfl ?_
      show Steps p.tables e below (s₁.setTop (mkF m 6 #[vi p0, vi p1, vi p2, vi p3, vi (2 : Int32), uu, uu, uu, uu, uu, uu, uu] [(.int p1)])) _
      refine XS.sipush X0.here hx rfl (hb hby at_6) ?_
      show Steps p.tables e below (s₁.setTop (mkF m 9 #[vi p0, vi p1, vi p2, vi p3, vi (2 : Int32), uu, uu, uu, uu, uu, uu, uu] [(.int (255 : Int32)), (.int p1)])) _
      refine XS.iand X0.here hx rfl (hb hby at_9) rfl ?_
      show Steps p.tables e below (s₁.setTop (mkF m 10 #[vi p0, vi p1, vi p2, vi p3, vi (2 : Int32), uu, uu, uu, uu, uu, uu, uu] [(.int (p1 &&& (255 : Int32)))])) _
      refine XS.i2c X0.here hx rfl (hb hby at_10) rfl ?_
      exact Steps.refl _
    generalize hv_ca : ((p1 &&& (255 : Int32)).toUInt32.toUInt16.toUInt32.toInt32) = ca
    show own_Fin p e below (s₁.setTop (mkF m 11 #[vi p0, vi p1, vi p2, vi p3, vi (2 : Int32), uu, uu, uu, uu, uu, uu, uu] [(.int ca)])) _
    have hca : ¬ ca < 0 ∧ ¬ (255 : Int32) < ca := by rw [← hv_ca]; exact own_m255 _
    refine own_gs (cur' := s₁.setTop (mkF m 19 #[vi p0, vi p1, vi p2, vi p3, vi (2 : Int32), vi ca, uu, uu, uu, uu, uu, uu] [(.int ((p2 &&& (255 : Int32)).toUInt32.toUInt16.toUInt32.toInt32))])) ?_ ?_
    · refine XS.istore X0.here hx rfl (hb hby at_11) rfl (l' := #[vi p0, vi p1, vi p2, vi p3, vi (2 : Int32), vi ca, uu, uu, uu, uu, uu, uu]) rfl ?_
      show Steps p.tables e below (s₁.setTop (mkF m 13 #[vi p0, vi p1, vi p2, vi p3, vi (2 : Int32), vi ca, uu, uu, uu, uu, uu, uu] [])) _
      refine XS.iloadN X0.here hx rfl (hb hby at_13) rfl ?_
      show Steps p.tables e below (s₁.setTop (mkF m 14 #[vi p0, vi p1, vi p2, vi p3, vi (2 : Int32), vi ca, uu, uu, uu, uu, uu, uu] [(.int p2)])) _
      refine XS.sipush X0.here hx rfl (hb hby at_14) ?_
      show Steps p.tables e below (s₁.setTop (mkF m 17 #[vi p0, vi p1, vi p2, vi p3, vi (2 : Int32), vi ca, uu, uu, uu, uu, uu, uu] [(.int (255 : Int32)), (.int p2)])) _
      refine XS.iand X0.here hx rfl (hb hby at_17) rfl ?_
      show Steps p.tables e below (s₁.setTop (mkF m 18 #[vi p0, vi p1, vi p2, vi p3, vi (2 : Int32), vi ca, uu, uu, uu, uu, uu, uu] [(.int (p2 &&& (255 : Int32)))])) _
      refine XS.i2c X0.here hx rfl (hb hby at_18) rfl ?_
      exact Steps.refl _
    generalize hv_cb : ((p2 &&& (255 : Int32)).toUInt32.toUInt16.toUInt32.toInt32) = cb
    show own_Fin p e below (s₁.setTop (mkF m 19 #[vi p0, vi p1, vi p2, vi p3, vi (2 : Int32), vi ca, uu, uu, uu, uu, uu, uu] [(.int cb)])) _
    have hcb : ¬ cb < 0 ∧ ¬ (255 : Int32) < cb := by rw [← hv_cb]; exact own_m255 _
    refine own_gs (cur' := s₁.setTop (mkF m 27 #[vi p0, vi p1, vi p2, vi p3, vi (2 : Int32), vi ca, vi cb, uu, uu, uu, uu, uu] [(.int ((p3 &&& (255 : Int32)).toUInt32.toUInt16.toUInt32.toInt32))])) ?_ ?_
    · refine XS.istore X0.here hx rfl (hb hby at_19) rfl (l' := #[vi p0, vi p1, vi p2, vi p3, vi (2 : Int32), vi ca, vi cb, uu, uu, uu, uu, uu]) rfl ?_
      show Steps p.tables e below (s₁.setTop (mkF m 21 #[vi p0, vi p1, vi p2, vi p3, vi (2 : Int32), vi ca, vi cb, uu, uu, uu, uu, uu] [])) _
      refine XS.iloadN X0.here hx rfl (hb hby at_21) rfl ?_
      show Steps p.tables e below (s₁.setTop (mkF m 22 #[vi p0, vi p1, vi p2, vi p3, vi (2 : Int32), vi ca, vi cb, uu, uu, uu, uu, uu] [(.int p3)])) _
      refine XS.sipush X0.here hx rfl (hb hby at_22) ?_
      show Steps p.tables e below (s₁.setTop (mkF m 25 #[vi p0, vi p1, vi p2, vi p3, vi (2 : Int32), vi ca, vi cb, uu, uu, uu, uu, uu] [(.int (255 : Int32)), (.int p3)])) _
      refine XS.iand X0.here hx rfl (hb hby at_25) rfl ?_
      show Steps p.tables e below (s₁.setTop (mkF m 26 #[vi p0, vi p1, vi p2, vi p3, vi (2 : Int32), vi ca, vi cb, uu, uu, uu, uu, uu] [(.int (p3 &&& (255 : Int32)))])) _
      refine XS.i2c X0.here hx rfl (hb hby at_26) rfl ?_
      exact Steps.refl _
    generalize hv_cc : ((p3 &&& (255 : Int32)).toUInt32.toUInt16.toUInt32.toInt32) = cc
    show own_Fin p e below (s₁.setTop (mkF m 27 #[vi p0, vi p1, vi p2, vi p3, vi (2 : Int32), vi ca, vi cb, uu, uu, uu, uu, uu] [(.int cc)])) _
    have hcc : ¬ cc < 0 ∧ ¬ (255 : Int32) < cc := by rw [← hv_cc]; exact own_m255 _
    refine own_gs (cur' := s₁.setTop (mkF m 37 #[vi p0, vi p1, vi p2, vi p3, vi (2 : Int32), vi ca, vi cb, vi cc, uu, uu, uu, uu] [(.int cc), (.int cb), (.int ca), (.int (2 : Int32))])) ?_ ?_
    · refine XS.istore X0.here hx rfl (hb hby at_27) rfl (l' := #[vi p0, vi p1, vi p2, vi p3, vi (2 : Int32), vi ca, vi cb, vi cc, uu, uu, uu, uu]) rfl ?_
      show Steps p.tables e below (s₁.setTop (mkF m 29 #[vi p0, vi p1, vi p2, vi p3, vi (2 : Int32), vi ca, vi cb, vi cc, uu, uu, uu, uu] [])) _
      refine XS.iload X0.here hx rfl (hb hby at_29) rfl ?_
      show Steps p.tables e below (s₁.setTop (mkF m 31 #[vi p0, vi p1, vi p2, vi p3, vi (2 : Int32), vi ca, vi cb, vi cc, uu, uu, uu, uu] [(.int (2 : Int32))])) _
      refine XS.iload X0.here hx rfl (hb hby at_31) rfl ?_
      show Steps p.tables e below (s₁.setTop (mkF m 33 #[vi p0, vi p1, vi p2, vi p3, vi (2 : Int32), vi ca, vi cb, vi cc, uu, uu, uu, uu] [(.int ca), (.int (2 : Int32))])) _
      refine XS.iload X0.here hx rfl (hb hby at_33) rfl ?_
      show Steps p.tables e below (s₁.setTop (mkF m 35 #[vi p0, vi p1, vi p2, vi p3, vi (2 : Int32), vi ca, vi cb, vi cc, uu, uu, uu, uu] [(.int cb), (.int ca), (.int (2 : Int32))])) _
      refine XS.iload X0.here hx rfl (hb hby at_35) rfl ?_
      exact Steps.refl _
    obtain ⟨_, _, ⟨T57, L57, k57, n57⟩, -, Xw57, hSw57, hgw57, ⟨Lc57, hQ57, l57, y57, z57, hC57⟩, st57⟩ := callSS X0 hx (y := (⟨"com/example/mandatum/mandatum/service/ExchangedOfIdTokenPinLaw", "make", "(ICCC)Ljava/lang/String;"⟩ : MethodName)) hown (mvT hZ (hw _ (List.mem_of_getElem? (i := 0) rfl))) (mvT hZ (hw _ (List.mem_of_getElem? (i := 1) rfl))) (mvT hZ (hw _ (List.mem_of_getElem? (i := 2) rfl))) (mvT hZ (hw _ (List.mem_of_getElem? (i := 3) rfl))) (by decide) (own_backS (W := 0) (own_make2 l Z a0 hW ca cb cc h0 n0 (by omega) O0 hca hcb hcc) hZ (hw _ (List.mem_of_getElem? (i := 3) rfl)) (hw _ (List.mem_of_getElem? (i := 2) rfl)) (by decide) (by decide) hEL CH0.1 all0) (g := (mkF m 37 #[vi p0, vi p1, vi p2, vi p3, vi (2 : Int32), vi ca, vi cb, vi cc, uu, uu, uu, uu] [(.int cc), (.int cb), (.int ca), (.int (2 : Int32))])) rfl (by rw [hml]; rfl) (argsL := [(.int (2 : Int32)), (.int ca), (.int cb), (.int cc)]) (rest := []) (lenOf pd_6 rfl) rfl (by show 2 * 0 + _ ≤ _; exact Nat.le_of_eq rfl) (hb hby at_37) (fun _ _ => ⟨rfl, e0, (by decide : 0 + 8 ≤ 32), (by decide : 0 + 24 ≤ 2176)⟩)
    dsimp only [Pt.U, Pt.locs, Pt.cells, Pt.slots] at Xw57 hSw57 hgw57 hC57 l57 y57 z57 st57 hQ57
    subst l57 y57 z57
    obtain ⟨X57, hS57, hZ57, hown57⟩ := rebS hS0 (show h0.size ≤ s₁.heap.size by rw [e0]; omega) Xw57 hSw57 hgw57 hZ hown
    obtain ⟨a57, t57, rfl, Nq57, Kq57, F57, ge57⟩ := hQ57
    have N57 := Fr.app N0 Nq57
    have z58 := Kq57.1
    have K58 := K0.trans Kq57 all0
    have O58 := O0.keep Kq57 all0
    have CH58 := CH0.trans hC57
    have lt57 := F57.lt
    have Ex57 := F57.exa
    refine own_gs st57 ?_
    show own_Fin p e below (T57.setTop (mkF m 40 #[vi p0, vi p1, vi p2, vi p3, vi (2 : Int32), vi ca, vi cb, vi cc, uu, uu, uu, uu] [(.ref a57)])) _
    refine own_gs (cur' := T57.setTop (mkF m 50 #[vi p0, vi p1, vi p2, vi p3, vi (2 : Int32), vi ca, vi cb, vi cc, vr a57, uu, uu, uu] [(.int cc), (.int cb), (.int ca), (.int (2 : Int32))])) ?_ ?_
    · refine XS.astore X57.here hx rfl (hb hby at_40) rfl rfl (l' := #[vi p0, vi p1, vi p2, vi p3, vi (2 : Int32), vi ca, vi cb, vi cc, vr a57, uu, uu, uu]) rfl ?_
      show Steps p.tables e below (T57.setTop (mkF m 42 #[vi p0, vi p1, vi p2, vi p3, vi (2 : Int32), vi ca, vi cb, vi cc, vr a57, uu, uu, uu] [])) _
      refine XS.iload X57.here hx rfl (hb hby at_42) rfl ?_
      show Steps p.tables e below (T57.setTop (mkF m 44 #[vi p0, vi p1, vi p2, vi p3, vi (2 : Int32), vi ca, vi cb, vi cc, vr a57, uu, uu, uu] [(.int (2 : Int32))])) _
      refine XS.iload X57.here hx rfl (hb hby at_44) rfl ?_
      show Steps p.tables e below (T57.setTop (mkF m 46 #[vi p0, vi p1, vi p2, vi p3, vi (2 : Int32), vi ca, vi cb, vi cc, vr a57, uu, uu, uu] [(.int ca), (.int (2 : Int32))])) _
      refine XS.iload X57.here hx rfl (hb hby at_46) rfl ?_
      show Steps p.tables e below (T57.setTop (mkF m 48 #[vi p0, vi p1, vi p2, vi p3, vi (2 : Int32), vi ca, vi cb, vi cc, vr a57, uu, uu, uu] [(.int cb), (.int ca), (.int (2 : Int32))])) _
      refine XS.iload X57.here hx rfl (hb hby at_48) rfl ?_
      exact Steps.refl _
    obtain ⟨_, _, ⟨T59, L59, k59, n59⟩, -, Xw59, hSw59, hgw59, ⟨Lc59, hQ59, l59, y59, z59, hC59⟩, st59⟩ := callSS X57 hx (y := (⟨"com/example/mandatum/mandatum/service/ExchangedOfIdTokenPinLaw", "make", "(ICCC)Ljava/lang/String;"⟩ : MethodName)) hown57 (mvT hZ57 (hw _ (List.mem_of_getElem? (i := 0) rfl))) (mvT hZ57 (hw _ (List.mem_of_getElem? (i := 1) rfl))) (mvT hZ57 (hw _ (List.mem_of_getElem? (i := 2) rfl))) (mvT hZ57 (hw _ (List.mem_of_getElem? (i := 3) rfl))) (by decide) (own_backS (W := 0) (own_make2 l Z a0 hW ca cb cc T57.heap n0 (by omega) O58 hca hcb hcc) hZ57 (hw _ (List.mem_of_getElem? (i := 3) rfl)) (hw _ (List.mem_of_getElem? (i := 2) rfl)) (by decide) (by decide) hEL CH58.1 all0) (g := (mkF m 50 #[vi p0, vi p1, vi p2, vi p3, vi (2 : Int32), vi ca, vi cb, vi cc, vr a57, uu, uu, uu] [(.int cc), (.int cb), (.int ca), (.int (2 : Int32))])) rfl (by rw [hml]; rfl) (argsL := [(.int (2 : Int32)), (.int ca), (.int cb), (.int cc)]) (rest := []) (lenOf pd_6 rfl) rfl (by show 2 * 0 + _ ≤ _; exact Nat.le_of_eq rfl) (hb hby at_50) (fun _ _ => ⟨rfl, rfl, (by decide : 8 + 8 ≤ 32), (by decide : 24 + 24 ≤ 2176)⟩)
    dsimp only [Pt.U, Pt.locs, Pt.cells, Pt.slots] at Xw59 hSw59 hgw59 hC59 l59 y59 z59 st59 hQ59
    subst l59 y59 z59
    obtain ⟨X59, hS59, hZ59, hown59⟩ := rebS hS57 (show T57.heap.size ≤ T57.heap.size by omega) Xw59 hSw59 hgw59 hZ57 hown57
    obtain ⟨a59, t59, rfl, Nq59, Kq59, F59, ge59⟩ := hQ59
    have N59 := Fr.app N57 Nq59
    have z60 := Kq59.1
    have K60 := K58.trans Kq59 all0
    have O60 := O58.keep Kq59 all0
    have CH60 := CH58.trans hC59
    have lt59 := F59.lt
    have Ex59 := F59.exa
    refine own_gs st59 ?_
    show own_Fin p e below (T59.setTop (mkF m 53 #[vi p0, vi p1, vi p2, vi p3, vi (2 : Int32), vi ca, vi cb, vi cc, vr a57, uu, uu, uu] [(.ref a59)])) _
    have f61 := (Ex57.keep Kq59)
    refine own_gs (cur' := T59.setTop (mkF m 57 #[vi p0, vi p1, vi p2, vi p3, vi (2 : Int32), vi ca, vi cb, vi cc, vr a57, vr a59, uu, uu] [(.ref a57)])) ?_ ?_
    · refine XS.astore X59.here hx rfl (hb hby at_53) rfl rfl (l' := #[vi p0, vi p1, vi p2, vi p3, vi (2 : Int32), vi ca, vi cb, vi cc, vr a57, vr a59, uu, uu]) rfl ?_
      show Steps p.tables e below (T59.setTop (mkF m 55 #[vi p0, vi p1, vi p2, vi p3, vi (2 : Int32), vi ca, vi cb, vi cc, vr a57, vr a59, uu, uu] [])) _
      refine XS.aload X59.here hx rfl (hb hby at_55) rfl rfl ?_
      exact Steps.refl _
    obtain ⟨_, _, ⟨T62, L62, k62, n62⟩, -, Xw62, hSw62, hgw62, ⟨Lc62, hQ62, l62, y62, z62, hC62⟩, st62⟩ := callSS X59 hx (y := (⟨"com/example/mandatum/mandatum/service/Exchanged", "ofIdToken", "(Ljava/lang/String;)Lcom/example/mandatum/mandatum/service/Exchanged;"⟩ : MethodName)) hown59 (mvT hZ59 (hw _ (List.mem_of_getElem? (i := 26) rfl))) (mvT hZ59 (hw _ (List.mem_of_getElem? (i := 27) rfl))) (mvT hZ59 (hw _ (List.mem_of_getElem? (i := 28) rfl))) (mvT hZ59 (hw _ (List.mem_of_getElem? (i := 29) rfl))) (by decide) (own_backS (W := 0) (own_ofid l Z a0 hW a57 T59.heap n0 (by omega) O60 f61) hZ59 (hw _ (List.mem_of_getElem? (i := 29) rfl)) (hw _ (List.mem_of_getElem? (i := 28) rfl)) (by decide) (by decide) hEL CH60.1 all0) (g := (mkF m 57 #[vi p0, vi p1, vi p2, vi p3, vi (2 : Int32), vi ca, vi cb, vi cc, vr a57, vr a59, uu, uu] [(.ref a57)])) rfl (by rw [hml]; rfl) (argsL := [(.ref a57)]) (rest := []) (lenOf pd_7 rfl) rfl (by show 2 * 0 + _ ≤ _; exact Nat.le_of_eq rfl) (hb hby at_57) (fun _ _ => ⟨rfl, rfl, (by decide : 16 + 3 ≤ 32), (by decide : 48 + 58 ≤ 2176)⟩)
    dsimp only [Pt.U, Pt.locs, Pt.cells, Pt.slots] at Xw62 hSw62 hgw62 hC62 l62 y62 z62 st62 hQ62
    subst l62 y62 z62
    obtain ⟨X62, hS62, hZ62, hown62⟩ := rebS hS59 (show T59.heap.size ≤ T59.heap.size by omega) Xw62 hSw62 hgw62 hZ59 hown59
    obtain ⟨b62, rfl, Nq62, Kq62, E62, Fa62, Fi62, ge62⟩ := hQ62
    have N62 := Fr.app N59 Nq62
    have z63 := Kq62.1
    have K63 := K60.trans Kq62 all0
    have O63 := O60.keep Kq62 all0
    have CH63 := CH60.trans hC62
    have lt62 := own_lt E62.lt
    refine own_gs st62 ?_
    show own_Fin p e below (T62.setTop (mkF m 60 #[vi p0, vi p1, vi p2, vi p3, vi (2 : Int32), vi ca, vi cb, vi cc, vr a57, vr a59, uu, uu] [(.ref b62)])) _
    refine own_gs (cur' := T62.setTop (mkF m 64 #[vi p0, vi p1, vi p2, vi p3, vi (2 : Int32), vi ca, vi cb, vi cc, vr a57, vr a59, vr b62, uu] [(.ref b62)])) ?_ ?_
    · refine XS.astore X62.here hx rfl (hb hby at_60) rfl rfl (l' := #[vi p0, vi p1, vi p2, vi p3, vi (2 : Int32), vi ca, vi cb, vi cc, vr a57, vr a59, vr b62, uu]) rfl ?_
      show Steps p.tables e below (T62.setTop (mkF m 62 #[vi p0, vi p1, vi p2, vi p3, vi (2 : Int32), vi ca, vi cb, vi cc, vr a57, vr a59, vr b62, uu] [])) _
      refine XS.aload X62.here hx rfl (hb hby at_62) rfl rfl ?_
      exact Steps.refl _
    obtain ⟨cq64, kq64, q64a, q64b, q64c⟩ := isOf hZ62 rfl E62
    obtain ⟨_, _, ⟨T64, L64, k64, n64⟩, -, X64, ⟨Lc64, hQ64, l64, y64, z64⟩, st64⟩ := X62.virtualBack hx (y := (⟨"com/example/mandatum/mandatum/service/Exchanged", "accessToken", "()Ljava/util/Optional;"⟩ : MethodName)) (z := (⟨"com/example/mandatum/mandatum/service/Exchanged", "accessToken", "()Ljava/util/Optional;"⟩ : MethodName)) hown62 (mvT hZ62 (hw _ (List.mem_of_getElem? (i := 46) rfl))) (mvT hZ62 (hw _ (List.mem_of_getElem? (i := 47) rfl))) (notFace_of_selects (args := #[]) (mvT hZ62 (hw _ (List.mem_of_getElem? (i := 49) rfl)))) (mvT hZ62 (hw _ (List.mem_of_getElem? (i := 49) rfl))) (mvT hZ62 (hw _ (List.mem_of_getElem? (i := 48) rfl))) (by decide) (backOf (W := 0) (own_acc l Z a0 hW b62 ea T62.heap n0 (by omega) O63 Se Fa62) hZ62 (hw _ (List.mem_of_getElem? (i := 50) rfl)) (hw _ (List.mem_of_getElem? (i := 28) rfl)) (by decide) (by decide)) q64a q64c (g := (mkF m 64 #[vi p0, vi p1, vi p2, vi p3, vi (2 : Int32), vi ca, vi cb, vi cc, vr a57, vr a59, vr b62, uu] [(.ref b62)])) rfl (by rw [hml]; rfl) (Steps.refl _) (argsL := []) (rest := []) (lenOf pd_8 rfl) rfl (by show 2 * 0 + _ ≤ _; exact Nat.le_of_eq rfl) (hb hby at_64) (fun _ _ => ⟨rfl, rfl, (by decide : 19 + 0 ≤ 32), (by decide : 106 + 0 ≤ 2176)⟩)
    dsimp only [Pt.U, Pt.locs, Pt.cells, Pt.slots] at X64 l64 y64 z64 st64 hQ64
    subst l64 y64 z64
    obtain ⟨rfl, Nq64, eh64⟩ := hQ64
    have N64 := Fr.app N62 Nq64
    refine own_gs st64 ?_
    show own_Fin p e below (T64.setTop (mkF m 67 #[vi p0, vi p1, vi p2, vi p3, vi (2 : Int32), vi ca, vi cb, vi cc, vr a57, vr a59, vr b62, uu] [(.ref ea)])) _
    have Eea := Ee.ext O63.2
    obtain ⟨cq65, kq65, q65a, q65b, q65c⟩ := isOf hZ62 eh64 Eea
    obtain ⟨_, _, ⟨T65, L65, k65, n65⟩, -, X65, ⟨Lc65, hQ65, l65, y65, z65⟩, st65⟩ := X64.virtualBack hx (y := (⟨"java/util/Optional", "isEmpty", "()Z"⟩ : MethodName)) (z := (⟨"java/util/Optional", "isEmpty", "()Z"⟩ : MethodName)) hown62 (mvT hZ62 (hw _ (List.mem_of_getElem? (i := 56) rfl))) (mvT hZ62 (hw _ (List.mem_of_getElem? (i := 57) rfl))) (notFace_of_selects (args := #[]) (mvT hZ62 (hw _ (List.mem_of_getElem? (i := 59) rfl)))) (mvT hZ62 (hw _ (List.mem_of_getElem? (i := 59) rfl))) (mvT hZ62 (hw _ (List.mem_of_getElem? (i := 58) rfl))) (by decide) (backOf (W := 0) (own_ise l Z a0 hW ea 0 T62.heap n0 (by omega) O63 (Fe.ext O63.2)) hZ62 (hw _ (List.mem_of_getElem? (i := 60) rfl)) (hw _ (List.mem_of_getElem? (i := 53) rfl)) (by decide) (by decide)) q65a q65c (g := (mkF m 67 #[vi p0, vi p1, vi p2, vi p3, vi (2 : Int32), vi ca, vi cb, vi cc, vr a57, vr a59, vr b62, uu] [(.ref ea)])) rfl (by rw [hml]; rfl) (Steps.refl _) (argsL := []) (rest := []) (lenOf pd_9 rfl) rfl (by show 2 * 0 + _ ≤ _; exact Nat.le_of_eq rfl) (hb hby at_67) (fun _ _ => ⟨rfl, eh64, (by decide : 19 + 0 ≤ 32), (by decide : 106 + 0 ≤ 2176)⟩)
    dsimp only [Pt.U, Pt.locs, Pt.cells, Pt.slots] at X65 l65 y65 z65 st65 hQ65
    subst l65 y65 z65
    obtain ⟨rfl, Nq65, eh65⟩ := hQ65
    have N65 := Fr.app N64 Nq65
    refine own_gs st65 ?_
    show own_Fin p e below (T65.setTop (mkF m 70 #[vi p0, vi p1, vi p2, vi p3, vi (2 : Int32), vi ca, vi cb, vi cc, vr a57, vr a59, vr b62, uu] [(.int (1 : Int32))])) _
    refine own_gs (cur' := T65.setTop (mkF m 77 #[vi p0, vi p1, vi p2, vi p3, vi (2 : Int32), vi ca, vi cb, vi cc, vr a57, vr a59, vr b62, uu] [(.ref b62)])) ?_ ?_
    · refine XS.ifYes X65.here hx rfl (pc0 := 70) (pc' := 75) rfl (hb hby at_70) rfl ((if0 _ _).trans (feq ((by decide) : ¬ ((1 : Int32) = (0 : Int32)))).2) (by decide) (by decide) ?_
      show Steps p.tables e below (T65.setTop (mkF m 75 #[vi p0, vi p1, vi p2, vi p3, vi (2 : Int32), vi ca, vi cb, vi cc, vr a57, vr a59, vr b62, uu] [])) _
      refine XS.aload X65.here hx rfl (hb hby at_75) rfl rfl ?_
      exact Steps.refl _
    obtain ⟨cq66, kq66, q66a, q66b, q66c⟩ := isOf hZ62 eh65 E62
    obtain ⟨_, _, ⟨T66, L66, k66, n66⟩, -, X66, ⟨Lc66, hQ66, l66, y66, z66⟩, st66⟩ := X65.virtualBack hx (y := (⟨"com/example/mandatum/mandatum/service/Exchanged", "idToken", "()Ljava/util/Optional;"⟩ : MethodName)) (z := (⟨"com/example/mandatum/mandatum/service/Exchanged", "idToken", "()Ljava/util/Optional;"⟩ : MethodName)) hown62 (mvT hZ62 (hw _ (List.mem_of_getElem? (i := 63) rfl))) (mvT hZ62 (hw _ (List.mem_of_getElem? (i := 64) rfl))) (notFace_of_selects (args := #[]) (mvT hZ62 (hw _ (List.mem_of_getElem? (i := 66) rfl)))) (mvT hZ62 (hw _ (List.mem_of_getElem? (i := 66) rfl))) (mvT hZ62 (hw _ (List.mem_of_getElem? (i := 65) rfl))) (by decide) (backOf (W := 0) (own_idt l Z a0 hW b62 a57 T62.heap n0 (by omega) O63 Fi62) hZ62 (hw _ (List.mem_of_getElem? (i := 67) rfl)) (hw _ (List.mem_of_getElem? (i := 28) rfl)) (by decide) (by decide)) q66a q66c (g := (mkF m 77 #[vi p0, vi p1, vi p2, vi p3, vi (2 : Int32), vi ca, vi cb, vi cc, vr a57, vr a59, vr b62, uu] [(.ref b62)])) rfl (by rw [hml]; rfl) (Steps.refl _) (argsL := []) (rest := []) (lenOf pd_8 rfl) rfl (by show 2 * 0 + _ ≤ _; exact Nat.le_of_eq rfl) (hb hby at_77) (fun _ _ => ⟨rfl, eh65, (by decide : 19 + 1 ≤ 32), (by decide : 106 + 1 ≤ 2176)⟩)
    dsimp only [Pt.U, Pt.locs, Pt.cells, Pt.slots] at X66 l66 y66 z66 st66 hQ66
    subst l66 y66 z66
    obtain ⟨o66, rfl, Nq66, Kq66, E66, F66, ge66⟩ := hQ66
    have N66 := Fr.app N65 Nq66
    have z67 := Kq66.1
    have K67 := K63.trans Kq66 all0
    have O67 := O63.keep Kq66 all0
    have CH67 := CH63.trans (CHr.keep Kq66 all0 CH63.1)
    have lt66 := own_lt E66.lt
    refine own_gs st66 ?_
    show own_Fin p e below (T66.setTop (mkF m 80 #[vi p0, vi p1, vi p2, vi p3, vi (2 : Int32), vi ca, vi cb, vi cc, vr a57, vr a59, vr b62, uu] [(.ref o66)])) _
    obtain ⟨cq68, kq68, q68a, q68b, q68c⟩ := isOf hZ62 rfl E66
    obtain ⟨_, _, ⟨T68, L68, k68, n68⟩, -, X68, ⟨Lc68, hQ68, l68, y68, z68⟩, st68⟩ := X66.virtualBack hx (y := (⟨"java/util/Optional", "isPresent", "()Z"⟩ : MethodName)) (z := (⟨"java/util/Optional", "isPresent", "()Z"⟩ : MethodName)) hown62 (mvT hZ62 (hw _ (List.mem_of_getElem? (i := 75) rfl))) (mvT hZ62 (hw _ (List.mem_of_getElem? (i := 76) rfl))) (notFace_of_selects (args := #[]) (mvT hZ62 (hw _ (List.mem_of_getElem? (i := 78) rfl)))) (mvT hZ62 (hw _ (List.mem_of_getElem? (i := 78) rfl))) (mvT hZ62 (hw _ (List.mem_of_getElem? (i := 77) rfl))) (by decide) (backOf (W := 0) (own_isp l Z a0 hW o66 a57 T66.heap n0 (by omega) O67 F66) hZ62 (hw _ (List.mem_of_getElem? (i := 79) rfl)) (hw _ (List.mem_of_getElem? (i := 53) rfl)) (by decide) (by decide)) q68a q68c (g := (mkF m 80 #[vi p0, vi p1, vi p2, vi p3, vi (2 : Int32), vi ca, vi cb, vi cc, vr a57, vr a59, vr b62, uu] [(.ref o66)])) rfl (by rw [hml]; rfl) (Steps.refl _) (argsL := []) (rest := []) (lenOf pd_9 rfl) rfl (by show 2 * 0 + _ ≤ _; exact Nat.le_of_eq rfl) (hb hby at_80) (fun _ _ => ⟨rfl, rfl, (by decide : 20 + 0 ≤ 32), (by decide : 107 + 0 ≤ 2176)⟩)
    dsimp only [Pt.U, Pt.locs, Pt.cells, Pt.slots] at X68 l68 y68 z68 st68 hQ68
    subst l68 y68 z68
    obtain ⟨rfl, Nq68, eh68⟩ := hQ68
    have N68 := Fr.app N66 Nq68
    refine own_gs st68 ?_
    show own_Fin p e below (T68.setTop (mkF m 83 #[vi p0, vi p1, vi p2, vi p3, vi (2 : Int32), vi ca, vi cb, vi cc, vr a57, vr a59, vr b62, uu] [(.int (1 : Int32))])) _
    have f69 := (Fi62.keep Kq66 nin0)
    refine own_gs (cur' := T68.setTop (mkF m 90 #[vi p0, vi p1, vi p2, vi p3, vi (2 : Int32), vi ca, vi cb, vi cc, vr a57, vr a59, vr b62, uu] [(.ref b62)])) ?_ ?_
    · refine XS.ifYes X68.here hx rfl (pc0 := 83) (pc' := 88) rfl (hb hby at_83) rfl ((if0 _ _).trans (feq ((by decide) : ¬ ((1 : Int32) = (0 : Int32)))).2) (by decide) (by decide) ?_
      show Steps p.tables e below (T68.setTop (mkF m 88 #[vi p0, vi p1, vi p2, vi p3, vi (2 : Int32), vi ca, vi cb, vi cc, vr a57, vr a59, vr b62, uu] [])) _
      refine XS.aload X68.here hx rfl (hb hby at_88) rfl rfl ?_
      exact Steps.refl _
    have f71 := (E62.keep Kq66)
    obtain ⟨cq70, kq70, q70a, q70b, q70c⟩ := isOf hZ62 eh68 f71
    obtain ⟨_, _, ⟨T70, L70, k70, n70⟩, -, X70, ⟨Lc70, hQ70, l70, y70, z70⟩, st70⟩ := X68.virtualBack hx (y := (⟨"com/example/mandatum/mandatum/service/Exchanged", "idToken", "()Ljava/util/Optional;"⟩ : MethodName)) (z := (⟨"com/example/mandatum/mandatum/service/Exchanged", "idToken", "()Ljava/util/Optional;"⟩ : MethodName)) hown62 (mvT hZ62 (hw _ (List.mem_of_getElem? (i := 63) rfl))) (mvT hZ62 (hw _ (List.mem_of_getElem? (i := 64) rfl))) (notFace_of_selects (args := #[]) (mvT hZ62 (hw _ (List.mem_of_getElem? (i := 66) rfl)))) (mvT hZ62 (hw _ (List.mem_of_getElem? (i := 66) rfl))) (mvT hZ62 (hw _ (List.mem_of_getElem? (i := 65) rfl))) (by decide) (backOf (W := 0) (own_idt l Z a0 hW b62 a57 T66.heap n0 (by omega) O67 f69) hZ62 (hw _ (List.mem_of_getElem? (i := 67) rfl)) (hw _ (List.mem_of_getElem? (i := 28) rfl)) (by decide) (by decide)) q70a q70c (g := (mkF m 90 #[vi p0, vi p1, vi p2, vi p3, vi (2 : Int32), vi ca, vi cb, vi cc, vr a57, vr a59, vr b62, uu] [(.ref b62)])) rfl (by rw [hml]; rfl) (Steps.refl _) (argsL := []) (rest := []) (lenOf pd_8 rfl) rfl (by show 2 * 0 + _ ≤ _; exact Nat.le_of_eq rfl) (hb hby at_90) (fun _ _ => ⟨rfl, eh68, (by decide : 20 + 1 ≤ 32), (by decide : 107 + 1 ≤ 2176)⟩)
    dsimp only [Pt.U, Pt.locs, Pt.cells, Pt.slots] at X70 l70 y70 z70 st70 hQ70
    subst l70 y70 z70
    obtain ⟨o70, rfl, Nq70, Kq70, E70, F70, ge70⟩ := hQ70
    have N70 := Fr.app N68 Nq70
    have z72 := Kq70.1
    have K72 := K67.trans Kq70 all0
    have O72 := O67.keep Kq70 all0
    have CH72 := CH67.trans (CHr.keep Kq70 all0 CH67.1)
    have lt70 := own_lt E70.lt
    refine own_gs st70 ?_
    show own_Fin p e below (T70.setTop (mkF m 93 #[vi p0, vi p1, vi p2, vi p3, vi (2 : Int32), vi ca, vi cb, vi cc, vr a57, vr a59, vr b62, uu] [(.ref o70)])) _
    obtain ⟨cq73, kq73, q73a, q73b, q73c⟩ := isOf hZ62 rfl E70
    obtain ⟨_, _, ⟨T73, L73, k73, n73⟩, -, X73, ⟨Lc73, hQ73, l73, y73, z73⟩, st73⟩ := X70.virtualBack hx (y := (⟨"java/util/Optional", "get", "()Ljava/lang/Object;"⟩ : MethodName)) (z := (⟨"java/util/Optional", "get", "()Ljava/lang/Object;"⟩ : MethodName)) hown62 (mvT hZ62 (hw _ (List.mem_of_getElem? (i := 80) rfl))) (mvT hZ62 (hw _ (List.mem_of_getElem? (i := 81) rfl))) (notFace_of_selects (args := #[]) (mvT hZ62 (hw _ (List.mem_of_getElem? (i := 83) rfl)))) (mvT hZ62 (hw _ (List.mem_of_getElem? (i := 83) rfl))) (mvT hZ62 (hw _ (List.mem_of_getElem? (i := 82) rfl))) (by decide) (backOf (W := 0) (own_get l Z a0 hW o70 a57 T70.heap n0 (by omega) O72 F70) hZ62 (hw _ (List.mem_of_getElem? (i := 84) rfl)) (hw _ (List.mem_of_getElem? (i := 53) rfl)) (by decide) (by decide)) q73a q73c (g := (mkF m 93 #[vi p0, vi p1, vi p2, vi p3, vi (2 : Int32), vi ca, vi cb, vi cc, vr a57, vr a59, vr b62, uu] [(.ref o70)])) rfl (by rw [hml]; rfl) (Steps.refl _) (argsL := []) (rest := []) (lenOf pd_10 rfl) rfl (by show 2 * 0 + _ ≤ _; exact Nat.le_of_eq rfl) (hb hby at_93) (fun _ _ => ⟨rfl, rfl, (by decide : 21 + 0 ≤ 32), (by decide : 108 + 0 ≤ 2176)⟩)
    dsimp only [Pt.U, Pt.locs, Pt.cells, Pt.slots] at X73 l73 y73 z73 st73 hQ73
    subst l73 y73 z73
    obtain ⟨rfl, Nq73, eh73⟩ := hQ73
    have N73 := Fr.app N70 Nq73
    refine own_gs st73 ?_
    show own_Fin p e below (T73.setTop (mkF m 96 #[vi p0, vi p1, vi p2, vi p3, vi (2 : Int32), vi ca, vi cb, vi cc, vr a57, vr a59, vr b62, uu] [(.ref a57)])) _
    have f75 := (((f61.keep Kq62).keep Kq66).keep Kq70)
    obtain ⟨T74, X74, e74, st74⟩ := castY X73 hx hZ62 hown62 (hw _ (List.mem_of_getElem? (i := 4) rfl)) eh73 (Ins.self f75) (g := (mkF m 96 #[vi p0, vi p1, vi p2, vi p3, vi (2 : Int32), vi ca, vi cb, vi cc, vr a57, vr a59, vr b62, uu] [(.ref a57)])) rfl rfl (hb hby at_96)
    refine own_go st74 ?_
    show own_Fin p e below (T74.setTop (mkF m 99 #[vi p0, vi p1, vi p2, vi p3, vi (2 : Int32), vi ca, vi cb, vi cc, vr a57, vr a59, vr b62, uu] [(.ref a57)])) _
    have f76 := ((((F57.keep Kq59 nin0 nin0).keep Kq62 nin0 nin0).keep Kq66 nin0 nin0).keep Kq70 nin0 nin0)
    refine own_gs (cur' := T74.setTop (mkF m 103 #[vi p0, vi p1, vi p2, vi p3, vi (2 : Int32), vi ca, vi cb, vi cc, vr a57, vr a59, vr b62, vr a57] [(.ref a57)])) ?_ ?_
    · refine XS.astore X74.here hx rfl (hb hby at_99) rfl rfl (l' := #[vi p0, vi p1, vi p2, vi p3, vi (2 : Int32), vi ca, vi cb, vi cc, vr a57, vr a59, vr b62, vr a57]) rfl ?_
      show Steps p.tables e below (T74.setTop (mkF m 101 #[vi p0, vi p1, vi p2, vi p3, vi (2 : Int32), vi ca, vi cb, vi cc, vr a57, vr a59, vr b62, vr a57] [])) _
      refine XS.aload X74.here hx rfl (hb hby at_101) rfl rfl ?_
      exact Steps.refl _
    obtain ⟨cq77, kq77, q77a, q77b, q77c⟩ := isOf hZ62 e74 f75
    obtain ⟨_, _, ⟨T77, L77, k77, n77⟩, -, X77, ⟨Lc77, hQ77, l77, y77, z77⟩, st77⟩ := X74.virtualBack hx (y := (⟨"java/lang/String", "length", "()I"⟩ : MethodName)) (z := (⟨"java/lang/String", "length", "()I"⟩ : MethodName)) hown62 (mvT hZ62 (hw _ (List.mem_of_getElem? (i := 85) rfl))) (mvT hZ62 (hw _ (List.mem_of_getElem? (i := 86) rfl))) (notFace_of_selects (args := #[]) (mvT hZ62 (hw _ (List.mem_of_getElem? (i := 88) rfl)))) (mvT hZ62 (hw _ (List.mem_of_getElem? (i := 88) rfl))) (mvT hZ62 (hw _ (List.mem_of_getElem? (i := 87) rfl))) (by decide) (own_lenB (W := 0) hZ62 hw f76 (O2.ext O72.2) P5 (by decide) (by decide)) q77a q77c (g := (mkF m 103 #[vi p0, vi p1, vi p2, vi p3, vi (2 : Int32), vi ca, vi cb, vi cc, vr a57, vr a59, vr b62, vr a57] [(.ref a57)])) rfl (by rw [hml]; rfl) (Steps.refl _) (argsL := []) (rest := []) (lenOf pd_11 rfl) rfl (by show 2 * 0 + _ ≤ _; exact Nat.le_of_eq rfl) (hb hby at_103) (fun _ _ => ⟨rfl, e74, (by decide : 21 + 0 ≤ 32), (by decide : 108 + 0 ≤ 2176)⟩)
    dsimp only [Pt.U, Pt.locs, Pt.cells, Pt.slots] at X77 l77 y77 z77 st77 hQ77
    subst l77 y77 z77
    obtain ⟨rfl, rfl, eh77⟩ := hQ77
    have N77 := Fr.app N73 (Fr.nil n0)
    refine own_gs st77 ?_
    show own_Fin p e below (T77.setTop (mkF m 106 #[vi p0, vi p1, vi p2, vi p3, vi (2 : Int32), vi ca, vi cb, vi cc, vr a57, vr a59, vr b62, vr a57] [(.int (2 : Int32))])) _
    have f78 := (((F59.keep Kq62 nin0 nin0).keep Kq66 nin0 nin0).keep Kq70 nin0 nin0)
    refine own_gs (cur' := T77.setTop (mkF m 115 #[vi p0, vi p1, vi p2, vi p3, vi (2 : Int32), vi ca, vi cb, vi cc, vr a57, vr a59, vr b62, vr a57] [(.ref a59), (.ref a57)])) ?_ ?_
    · refine XS.iload X77.here hx rfl (hb hby at_106) rfl ?_
      show Steps p.tables e below (T77.setTop (mkF m 108 #[vi p0, vi p1, vi p2, vi p3, vi (2 : Int32), vi ca, vi cb, vi cc, vr a57, vr a59, vr b62, vr a57] [(.int (2 : Int32)), (.int (2 : Int32))])) _
      refine XS.icmpNo X77.here hx rfl (hb hby at_108) rfl (teq ((by decide) : (2 : Int32) = (2 : Int32))).2 ?_
      show Steps p.tables e below (T77.setTop (mkF m 111 #[vi p0, vi p1, vi p2, vi p3, vi (2 : Int32), vi ca, vi cb, vi cc, vr a57, vr a59, vr b62, vr a57] [])) _
      refine XS.aload X77.here hx rfl (hb hby at_111) rfl rfl ?_
      show Steps p.tables e below (T77.setTop (mkF m 113 #[vi p0, vi p1, vi p2, vi p3, vi (2 : Int32), vi ca, vi cb, vi cc, vr a57, vr a59, vr b62, vr a57] [(.ref a57)])) _
      refine XS.aload X77.here hx rfl (hb hby at_113) rfl rfl ?_
      exact Steps.refl _
    obtain ⟨cq79, kq79, q79a, q79b, q79c⟩ := isOf hZ62 eh77 f75
    obtain ⟨_, _, ⟨T79, L79, k79, n79⟩, -, X79, ⟨Lc79, hQ79, l79, y79, z79⟩, st79⟩ := X77.virtualBack hx (y := (⟨"java/lang/String", "equals", "(Ljava/lang/Object;)Z"⟩ : MethodName)) (z := (⟨"java/lang/String", "equals", "(Ljava/lang/Object;)Z"⟩ : MethodName)) hown62 (mvT hZ62 (hw _ (List.mem_of_getElem? (i := 96) rfl))) (mvT hZ62 (hw _ (List.mem_of_getElem? (i := 97) rfl))) (notFace_of_selects (args := #[]) (mvT hZ62 (hw _ (List.mem_of_getElem? (i := 99) rfl)))) (mvT hZ62 (hw _ (List.mem_of_getElem? (i := 99) rfl))) (mvT hZ62 (hw _ (List.mem_of_getElem? (i := 98) rfl))) (by decide) (own_eqB (W := 0) hZ62 hw f76 f78 (O2.ext O72.2) P5 (by decide) (by decide)) q79a q79c (g := (mkF m 115 #[vi p0, vi p1, vi p2, vi p3, vi (2 : Int32), vi ca, vi cb, vi cc, vr a57, vr a59, vr b62, vr a57] [(.ref a59), (.ref a57)])) rfl (by rw [hml]; rfl) (Steps.refl _) (argsL := [(.ref a59)]) (rest := []) (lenOf pd_12 rfl) rfl (by show 2 * 0 + _ ≤ _; exact Nat.le_of_eq rfl) (hb hby at_115) (fun _ _ => ⟨rfl, eh77, (by decide : 21 + 0 ≤ 32), (by decide : 108 + 0 ≤ 2176)⟩)
    dsimp only [Pt.U, Pt.locs, Pt.cells, Pt.slots] at X79 l79 y79 z79 st79 hQ79
    subst l79 y79 z79
    obtain ⟨rfl, rfl, eh79⟩ := hQ79
    have N79 := Fr.app N77 (Fr.nil n0)
    rw [if_pos rfl] at st79
    refine own_gs st79 ?_
    show own_Fin p e below (T79.setTop (mkF m 118 #[vi p0, vi p1, vi p2, vi p3, vi (2 : Int32), vi ca, vi cb, vi cc, vr a57, vr a59, vr b62, vr a57] [(.int (1 : Int32))])) _
    refine own_gs (cur' := T79.setTop (mkF m 126 #[vi p0, vi p1, vi p2, vi p3, vi (2 : Int32), vi ca, vi cb, vi cc, vr a57, vr a59, vr b62, vr a57] [(.int (1 : Int32))])) ?_ ?_
    · refine XS.ifNo X79.here hx rfl (hb hby at_118) rfl ((if0 _ _).trans (feq ((by decide) : ¬ ((1 : Int32) = (0 : Int32)))).1) ?_
      show Steps p.tables e below (T79.setTop (mkF m 121 #[vi p0, vi p1, vi p2, vi p3, vi (2 : Int32), vi ca, vi cb, vi cc, vr a57, vr a59, vr b62, vr a57] [])) _
      refine XS.iconst X79.here hx rfl (hb hby at_121) ?_
      show Steps p.tables e below (T79.setTop (mkF m 122 #[vi p0, vi p1, vi p2, vi p3, vi (2 : Int32), vi ca, vi cb, vi cc, vr a57, vr a59, vr b62, vr a57] [(.int (1 : Int32))])) _
      refine XS.goto X79.here hx rfl (pc0 := 122) (pc' := 126) rfl (hb hby at_122) (by decide) (by decide) ?_
      exact Steps.refl _
    obtain ⟨fs, hr, hrun, hended, hRE⟩ := X79.leaveW hS62 (show T62.heap.size ≤ T79.heap.size by rw [eh79]; omega) (v := (some (.int (1 : Int32)))) (fun h => by rw [Bd.returns] at h; cases h)
    refine ⟨_, _, retN X79 hx (t := .boolean) Bd.returns (by simp) (hb hby at_126) hr, hrun, hended, _, _, rfl, ?_, ?_, hRE.1, hRE.2.1, hRE.2.2.1, hRE.2.2.2.mono (by decide) (by decide)⟩
    · show own_law_Q Z p0 p1 p2 p3 h0 n0 (some (.int (1 : Int32))) T79.heap _
      rw [eh79]
      exact ⟨rfl, N79⟩
    · have hfin := CH72.trans (CHv.at X79 hZ62 hEL CH72.1)
      rw [hh]
      show CHr Z own_EL s.vm h0 T79.vm T79.heap
      rw [eh79]
      exact hfin
  · rw [hn]
    show own_Fin p e below (s₁.setTop (mkF m 3 #[vi p0, vi p1, vi p2, vi p3, uu, uu, uu, uu, uu, uu, uu, uu] [(.int (3 : Int32))])) _
    refine own_gs (cur' := s₁.setTop (mkF m 11 #[vi p0, vi p1, vi p2, vi p3, vi (3 : Int32), uu, uu, uu, uu, uu, uu, uu] [(.int ((p1 &&& (255 : Int32)).toUInt32.toUInt16.toUInt32.toInt32))])) ?_ ?_
    · refine XS.istore X0.here hx rfl (hb hby at_3) rfl (l' := #[vi p0, vi p1, vi p2, vi p3, vi (3 : Int32), uu, uu, uu, uu, uu, uu, uu]) rfl ?_
      show Steps p.tables e below (s₁.setTop (mkF m 5 #[vi p0, vi p1, vi p2, vi p3, vi (3 : Int32), uu, uu, uu, uu, uu, uu, uu] [])) _
      refine XS.iloadN X0.here hx rfl (hb hby at_5) rfl ?_
      show Steps p.tables e below (s₁.setTop (mkF m 6 #[vi p0, vi p1, vi p2, vi p3, vi (3 : Int32), uu, uu, uu, uu, uu, uu, uu] [(.int p1)])) _
      refine XS.sipush X0.here hx rfl (hb hby at_6) ?_
      show Steps p.tables e below (s₁.setTop (mkF m 9 #[vi p0, vi p1, vi p2, vi p3, vi (3 : Int32), uu, uu, uu, uu, uu, uu, uu] [(.int (255 : Int32)), (.int p1)])) _
      refine XS.iand X0.here hx rfl (hb hby at_9) rfl ?_
      show Steps p.tables e below (s₁.setTop (mkF m 10 #[vi p0, vi p1, vi p2, vi p3, vi (3 : Int32), uu, uu, uu, uu, uu, uu, uu] [(.int (p1 &&& (255 : Int32)))])) _
      refine XS.i2c X0.here hx rfl (hb hby at_10) rfl ?_
      exact Steps.refl _
    generalize hv_ca : ((p1 &&& (255 : Int32)).toUInt32.toUInt16.toUInt32.toInt32) = ca
    show own_Fin p e below (s₁.setTop (mkF m 11 #[vi p0, vi p1, vi p2, vi p3, vi (3 : Int32), uu, uu, uu, uu, uu, uu, uu] [(.int ca)])) _
    have hca : ¬ ca < 0 ∧ ¬ (255 : Int32) < ca := by rw [← hv_ca]; exact own_m255 _
    refine own_gs (cur' := s₁.setTop (mkF m 19 #[vi p0, vi p1, vi p2, vi p3, vi (3 : Int32), vi ca, uu, uu, uu, uu, uu, uu] [(.int ((p2 &&& (255 : Int32)).toUInt32.toUInt16.toUInt32.toInt32))])) ?_ ?_
    · refine XS.istore X0.here hx rfl (hb hby at_11) rfl (l' := #[vi p0, vi p1, vi p2, vi p3, vi (3 : Int32), vi ca, uu, uu, uu, uu, uu, uu]) rfl ?_
      show Steps p.tables e below (s₁.setTop (mkF m 13 #[vi p0, vi p1, vi p2, vi p3, vi (3 : Int32), vi ca, uu, uu, uu, uu, uu, uu] [])) _
      refine XS.iloadN X0.here hx rfl (hb hby at_13) rfl ?_
      show Steps p.tables e below (s₁.setTop (mkF m 14 #[vi p0, vi p1, vi p2, vi p3, vi (3 : Int32), vi ca, uu, uu, uu, uu, uu, uu] [(.int p2)])) _
      refine XS.sipush X0.here hx rfl (hb hby at_14) ?_
      show Steps p.tables e below (s₁.setTop (mkF m 17 #[vi p0, vi p1, vi p2, vi p3, vi (3 : Int32), vi ca, uu, uu, uu, uu, uu, uu] [(.int (255 : Int32)), (.int p2)])) _
      refine XS.iand X0.here hx rfl (hb hby at_17) rfl ?_
      show Steps p.tables e below (s₁.setTop (mkF m 18 #[vi p0, vi p1, vi p2, vi p3, vi (3 : Int32), vi ca, uu, uu, uu, uu, uu, uu] [(.int (p2 &&& (255 : Int32)))])) _
      refine XS.i2c X0.here hx rfl (hb hby at_18) rfl ?_
      exact Steps.refl _
    generalize hv_cb : ((p2 &&& (255 : Int32)).toUInt32.toUInt16.toUInt32.toInt32) = cb
    show own_Fin p e below (s₁.setTop (mkF m 19 #[vi p0, vi p1, vi p2, vi p3, vi (3 : Int32), vi ca, uu, uu, uu, uu, uu, uu] [(.int cb)])) _
    have hcb : ¬ cb < 0 ∧ ¬ (255 : Int32) < cb := by rw [← hv_cb]; exact own_m255 _
    refine own_gs (cur' := s₁.setTop (mkF m 27 #[vi p0, vi p1, vi p2, vi p3, vi (3 : Int32), vi ca, vi cb, uu, uu, uu, uu, uu] [(.int ((p3 &&& (255 : Int32)).toUInt32.toUInt16.toUInt32.toInt32))])) ?_ ?_
    · refine XS.istore X0.here hx rfl (hb hby at_19) rfl (l' := #[vi p0, vi p1, vi p2, vi p3, vi (3 : Int32), vi ca, vi cb, uu, uu, uu, uu, uu]) rfl ?_
      show Steps p.tables e below (s₁.setTop (mkF m 21 #[vi p0, vi p1, vi p2, vi p3, vi (3 : Int32), vi ca, vi cb, uu, uu, uu, uu, uu] [])) _
      refine XS.iloadN X0.here hx rfl (hb hby at_21) rfl ?_
      show Steps p.tables e below (s₁.setTop (mkF m 22 #[vi p0, vi p1, vi p2, vi p3, vi (3 : Int32), vi ca, vi cb, uu, uu, uu, uu, uu] [(.int p3)])) _
      refine XS.sipush X0.here hx rfl (hb hby at_22) ?_
      show Steps p.tables e below (s₁.setTop (mkF m 25 #[vi p0, vi p1, vi p2, vi p3, vi (3 : Int32), vi ca, vi cb, uu, uu, uu, uu, uu] [(.int (255 : Int32)), (.int p3)])) _
      refine XS.iand X0.here hx rfl (hb hby at_25) rfl ?_
      show Steps p.tables e below (s₁.setTop (mkF m 26 #[vi p0, vi p1, vi p2, vi p3, vi (3 : Int32), vi ca, vi cb, uu, uu, uu, uu, uu] [(.int (p3 &&& (255 : Int32)))])) _
      refine XS.i2c X0.here hx rfl (hb hby at_26) rfl ?_
      exact Steps.refl _
    generalize hv_cc : ((p3 &&& (255 : Int32)).toUInt32.toUInt16.toUInt32.toInt32) = cc
    show own_Fin p e below (s₁.setTop (mkF m 27 #[vi p0, vi p1, vi p2, vi p3, vi (3 : Int32), vi ca, vi cb, uu, uu, uu, uu, uu] [(.int cc)])) _
    have hcc : ¬ cc < 0 ∧ ¬ (255 : Int32) < cc := by rw [← hv_cc]; exact own_m255 _
    refine own_gs (cur' := s₁.setTop (mkF m 37 #[vi p0, vi p1, vi p2, vi p3, vi (3 : Int32), vi ca, vi cb, vi cc, uu, uu, uu, uu] [(.int cc), (.int cb), (.int ca), (.int (3 : Int32))])) ?_ ?_
    · refine XS.istore X0.here hx rfl (hb hby at_27) rfl (l' := #[vi p0, vi p1, vi p2, vi p3, vi (3 : Int32), vi ca, vi cb, vi cc, uu, uu, uu, uu]) rfl ?_
      show Steps p.tables e below (s₁.setTop (mkF m 29 #[vi p0, vi p1, vi p2, vi p3, vi (3 : Int32), vi ca, vi cb, vi cc, uu, uu, uu, uu] [])) _
      refine XS.iload X0.here hx rfl (hb hby at_29) rfl ?_
      show Steps p.tables e below (s₁.setTop (mkF m 31 #[vi p0, vi p1, vi p2, vi p3, vi (3 : Int32), vi ca, vi cb, vi cc, uu, uu, uu, uu] [(.int (3 : Int32))])) _
      refine XS.iload X0.here hx rfl (hb hby at_31) rfl ?_
      show Steps p.tables e below (s₁.setTop (mkF m 33 #[vi p0, vi p1, vi p2, vi p3, vi (3 : Int32), vi ca, vi cb, vi cc, uu, uu, uu, uu] [(.int ca), (.int (3 : Int32))])) _
      refine XS.iload X0.here hx rfl (hb hby at_33) rfl ?_
      show Steps p.tables e below (s₁.setTop (mkF m 35 #[vi p0, vi p1, vi p2, vi p3, vi (3 : Int32), vi ca, vi cb, vi cc, uu, uu, uu, uu] [(.int cb), (.int ca), (.int (3 : Int32))])) _
      refine XS.iload X0.here hx rfl (hb hby at_35) rfl ?_
      exact Steps.refl _
    obtain ⟨_, _, ⟨T80, L80, k80, n80⟩, -, Xw80, hSw80, hgw80, ⟨Lc80, hQ80, l80, y80, z80, hC80⟩, st80⟩ := callSS X0 hx (y := (⟨"com/example/mandatum/mandatum/service/ExchangedOfIdTokenPinLaw", "make", "(ICCC)Ljava/lang/String;"⟩ : MethodName)) hown (mvT hZ (hw _ (List.mem_of_getElem? (i := 0) rfl))) (mvT hZ (hw _ (List.mem_of_getElem? (i := 1) rfl))) (mvT hZ (hw _ (List.mem_of_getElem? (i := 2) rfl))) (mvT hZ (hw _ (List.mem_of_getElem? (i := 3) rfl))) (by decide) (own_backS (W := 0) (own_make3 l Z a0 hW ca cb cc h0 n0 (by omega) O0 hca hcb hcc) hZ (hw _ (List.mem_of_getElem? (i := 3) rfl)) (hw _ (List.mem_of_getElem? (i := 2) rfl)) (by decide) (by decide) hEL CH0.1 all0) (g := (mkF m 37 #[vi p0, vi p1, vi p2, vi p3, vi (3 : Int32), vi ca, vi cb, vi cc, uu, uu, uu, uu] [(.int cc), (.int cb), (.int ca), (.int (3 : Int32))])) rfl (by rw [hml]; rfl) (argsL := [(.int (3 : Int32)), (.int ca), (.int cb), (.int cc)]) (rest := []) (lenOf pd_6 rfl) rfl (by show 2 * 0 + _ ≤ _; exact Nat.le_of_eq rfl) (hb hby at_37) (fun _ _ => ⟨rfl, e0, (by decide : 0 + 8 ≤ 32), (by decide : 0 + 24 ≤ 2176)⟩)
    dsimp only [Pt.U, Pt.locs, Pt.cells, Pt.slots] at Xw80 hSw80 hgw80 hC80 l80 y80 z80 st80 hQ80
    subst l80 y80 z80
    obtain ⟨X80, hS80, hZ80, hown80⟩ := rebS hS0 (show h0.size ≤ s₁.heap.size by rw [e0]; omega) Xw80 hSw80 hgw80 hZ hown
    obtain ⟨a80, t80, rfl, Nq80, Kq80, F80, ge80⟩ := hQ80
    have N80 := Fr.app N0 Nq80
    have z81 := Kq80.1
    have K81 := K0.trans Kq80 all0
    have O81 := O0.keep Kq80 all0
    have CH81 := CH0.trans hC80
    have lt80 := F80.lt
    have Ex80 := F80.exa
    refine own_gs st80 ?_
    show own_Fin p e below (T80.setTop (mkF m 40 #[vi p0, vi p1, vi p2, vi p3, vi (3 : Int32), vi ca, vi cb, vi cc, uu, uu, uu, uu] [(.ref a80)])) _
    refine own_gs (cur' := T80.setTop (mkF m 50 #[vi p0, vi p1, vi p2, vi p3, vi (3 : Int32), vi ca, vi cb, vi cc, vr a80, uu, uu, uu] [(.int cc), (.int cb), (.int ca), (.int (3 : Int32))])) ?_ ?_
    · refine XS.astore X80.here hx rfl (hb hby at_40) rfl rfl (l' := #[vi p0, vi p1, vi p2, vi p3, vi (3 : Int32), vi ca, vi cb, vi cc, vr a80, uu, uu, uu]) rfl ?_
      show Steps p.tables e below (T80.setTop (mkF m 42 #[vi p0, vi p1, vi p2, vi p3, vi (3 : Int32), vi ca, vi cb, vi cc, vr a80, uu, uu, uu] [])) _
      refine XS.iload X80.here hx rfl (hb hby at_42) rfl ?_
      show Steps p.tables e below (T80.setTop (mkF m 44 #[vi p0, vi p1, vi p2, vi p3, vi (3 : Int32), vi ca, vi cb, vi cc, vr a80, uu, uu, uu] [(.int (3 : Int32))])) _
      refine XS.iload X80.here hx rfl (hb hby at_44) rfl ?_
      show Steps p.tables e below (T80.setTop (mkF m 46 #[vi p0, vi p1, vi p2, vi p3, vi (3 : Int32), vi ca, vi cb, vi cc, vr a80, uu, uu, uu] [(.int ca), (.int (3 : Int32))])) _
      refine XS.iload X80.here hx rfl (hb hby at_46) rfl ?_
      show Steps p.tables e below (T80.setTop (mkF m 48 #[vi p0, vi p1, vi p2, vi p3, vi (3 : Int32), vi ca, vi cb, vi cc, vr a80, uu, uu, uu] [(.int cb), (.int ca), (.int (3 : Int32))])) _
      refine XS.iload X80.here hx rfl (hb hby at_48) rfl ?_
      exact Steps.refl _
    obtain ⟨_, _, ⟨T82, L82, k82, n82⟩, -, Xw82, hSw82, hgw82, ⟨Lc82, hQ82, l82, y82, z82, hC82⟩, st82⟩ := callSS X80 hx (y := (⟨"com/example/mandatum/mandatum/service/ExchangedOfIdTokenPinLaw", "make", "(ICCC)Ljava/lang/String;"⟩ : MethodName)) hown80 (mvT hZ80 (hw _ (List.mem_of_getElem? (i := 0) rfl))) (mvT hZ80 (hw _ (List.mem_of_getElem? (i := 1) rfl))) (mvT hZ80 (hw _ (List.mem_of_getElem? (i := 2) rfl))) (mvT hZ80 (hw _ (List.mem_of_getElem? (i := 3) rfl))) (by decide) (own_backS (W := 0) (own_make3 l Z a0 hW ca cb cc T80.heap n0 (by omega) O81 hca hcb hcc) hZ80 (hw _ (List.mem_of_getElem? (i := 3) rfl)) (hw _ (List.mem_of_getElem? (i := 2) rfl)) (by decide) (by decide) hEL CH81.1 all0) (g := (mkF m 50 #[vi p0, vi p1, vi p2, vi p3, vi (3 : Int32), vi ca, vi cb, vi cc, vr a80, uu, uu, uu] [(.int cc), (.int cb), (.int ca), (.int (3 : Int32))])) rfl (by rw [hml]; rfl) (argsL := [(.int (3 : Int32)), (.int ca), (.int cb), (.int cc)]) (rest := []) (lenOf pd_6 rfl) rfl (by show 2 * 0 + _ ≤ _; exact Nat.le_of_eq rfl) (hb hby at_50) (fun _ _ => ⟨rfl, rfl, (by decide : 8 + 8 ≤ 32), (by decide : 24 + 24 ≤ 2176)⟩)
    dsimp only [Pt.U, Pt.locs, Pt.cells, Pt.slots] at Xw82 hSw82 hgw82 hC82 l82 y82 z82 st82 hQ82
    subst l82 y82 z82
    obtain ⟨X82, hS82, hZ82, hown82⟩ := rebS hS80 (show T80.heap.size ≤ T80.heap.size by omega) Xw82 hSw82 hgw82 hZ80 hown80
    obtain ⟨a82, t82, rfl, Nq82, Kq82, F82, ge82⟩ := hQ82
    have N82 := Fr.app N80 Nq82
    have z83 := Kq82.1
    have K83 := K81.trans Kq82 all0
    have O83 := O81.keep Kq82 all0
    have CH83 := CH81.trans hC82
    have lt82 := F82.lt
    have Ex82 := F82.exa
    refine own_gs st82 ?_
    show own_Fin p e below (T82.setTop (mkF m 53 #[vi p0, vi p1, vi p2, vi p3, vi (3 : Int32), vi ca, vi cb, vi cc, vr a80, uu, uu, uu] [(.ref a82)])) _
    have f84 := (Ex80.keep Kq82)
    refine own_gs (cur' := T82.setTop (mkF m 57 #[vi p0, vi p1, vi p2, vi p3, vi (3 : Int32), vi ca, vi cb, vi cc, vr a80, vr a82, uu, uu] [(.ref a80)])) ?_ ?_
    · refine XS.astore X82.here hx rfl (hb hby at_53) rfl rfl (l' := #[vi p0, vi p1, vi p2, vi p3, vi (3 : Int32), vi ca, vi cb, vi cc, vr a80, vr a82, uu, uu]) rfl ?_
      show Steps p.tables e below (T82.setTop (mkF m 55 #[vi p0, vi p1, vi p2, vi p3, vi (3 : Int32), vi ca, vi cb, vi cc, vr a80, vr a82, uu, uu] [])) _
      refine XS.aload X82.here hx rfl (hb hby at_55) rfl rfl ?_
      exact Steps.refl _
    obtain ⟨_, _, ⟨T85, L85, k85, n85⟩, -, Xw85, hSw85, hgw85, ⟨Lc85, hQ85, l85, y85, z85, hC85⟩, st85⟩ := callSS X82 hx (y := (⟨"com/example/mandatum/mandatum/service/Exchanged", "ofIdToken", "(Ljava/lang/String;)Lcom/example/mandatum/mandatum/service/Exchanged;"⟩ : MethodName)) hown82 (mvT hZ82 (hw _ (List.mem_of_getElem? (i := 26) rfl))) (mvT hZ82 (hw _ (List.mem_of_getElem? (i := 27) rfl))) (mvT hZ82 (hw _ (List.mem_of_getElem? (i := 28) rfl))) (mvT hZ82 (hw _ (List.mem_of_getElem? (i := 29) rfl))) (by decide) (own_backS (W := 0) (own_ofid l Z a0 hW a80 T82.heap n0 (by omega) O83 f84) hZ82 (hw _ (List.mem_of_getElem? (i := 29) rfl)) (hw _ (List.mem_of_getElem? (i := 28) rfl)) (by decide) (by decide) hEL CH83.1 all0) (g := (mkF m 57 #[vi p0, vi p1, vi p2, vi p3, vi (3 : Int32), vi ca, vi cb, vi cc, vr a80, vr a82, uu, uu] [(.ref a80)])) rfl (by rw [hml]; rfl) (argsL := [(.ref a80)]) (rest := []) (lenOf pd_7 rfl) rfl (by show 2 * 0 + _ ≤ _; exact Nat.le_of_eq rfl) (hb hby at_57) (fun _ _ => ⟨rfl, rfl, (by decide : 16 + 3 ≤ 32), (by decide : 48 + 58 ≤ 2176)⟩)
    dsimp only [Pt.U, Pt.locs, Pt.cells, Pt.slots] at Xw85 hSw85 hgw85 hC85 l85 y85 z85 st85 hQ85
    subst l85 y85 z85
    obtain ⟨X85, hS85, hZ85, hown85⟩ := rebS hS82 (show T82.heap.size ≤ T82.heap.size by omega) Xw85 hSw85 hgw85 hZ82 hown82
    obtain ⟨b85, rfl, Nq85, Kq85, E85, Fa85, Fi85, ge85⟩ := hQ85
    have N85 := Fr.app N82 Nq85
    have z86 := Kq85.1
    have K86 := K83.trans Kq85 all0
    have O86 := O83.keep Kq85 all0
    have CH86 := CH83.trans hC85
    have lt85 := own_lt E85.lt
    refine own_gs st85 ?_
    show own_Fin p e below (T85.setTop (mkF m 60 #[vi p0, vi p1, vi p2, vi p3, vi (3 : Int32), vi ca, vi cb, vi cc, vr a80, vr a82, uu, uu] [(.ref b85)])) _
    refine own_gs (cur' := T85.setTop (mkF m 64 #[vi p0, vi p1, vi p2, vi p3, vi (3 : Int32), vi ca, vi cb, vi cc, vr a80, vr a82, vr b85, uu] [(.ref b85)])) ?_ ?_
    · refine XS.astore X85.here hx rfl (hb hby at_60) rfl rfl (l' := #[vi p0, vi p1, vi p2, vi p3, vi (3 : Int32), vi ca, vi cb, vi cc, vr a80, vr a82, vr b85, uu]) rfl ?_
      show Steps p.tables e below (T85.setTop (mkF m 62 #[vi p0, vi p1, vi p2, vi p3, vi (3 : Int32), vi ca, vi cb, vi cc, vr a80, vr a82, vr b85, uu] [])) _
      refine XS.aload X85.here hx rfl (hb hby at_62) rfl rfl ?_
      exact Steps.refl _
    obtain ⟨cq87, kq87, q87a, q87b, q87c⟩ := isOf hZ85 rfl E85
    obtain ⟨_, _, ⟨T87, L87, k87, n87⟩, -, X87, ⟨Lc87, hQ87, l87, y87, z87⟩, st87⟩ := X85.virtualBack hx (y := (⟨"com/example/mandatum/mandatum/service/Exchanged", "accessToken", "()Ljava/util/Optional;"⟩ : MethodName)) (z := (⟨"com/example/mandatum/mandatum/service/Exchanged", "accessToken", "()Ljava/util/Optional;"⟩ : MethodName)) hown85 (mvT hZ85 (hw _ (List.mem_of_getElem? (i := 46) rfl))) (mvT hZ85 (hw _ (List.mem_of_getElem? (i := 47) rfl))) (notFace_of_selects (args := #[]) (mvT hZ85 (hw _ (List.mem_of_getElem? (i := 49) rfl)))) (mvT hZ85 (hw _ (List.mem_of_getElem? (i := 49) rfl))) (mvT hZ85 (hw _ (List.mem_of_getElem? (i := 48) rfl))) (by decide) (backOf (W := 0) (own_acc l Z a0 hW b85 ea T85.heap n0 (by omega) O86 Se Fa85) hZ85 (hw _ (List.mem_of_getElem? (i := 50) rfl)) (hw _ (List.mem_of_getElem? (i := 28) rfl)) (by decide) (by decide)) q87a q87c (g := (mkF m 64 #[vi p0, vi p1, vi p2, vi p3, vi (3 : Int32), vi ca, vi cb, vi cc, vr a80, vr a82, vr b85, uu] [(.ref b85)])) rfl (by rw [hml]; rfl) (Steps.refl _) (argsL := []) (rest := []) (lenOf pd_8 rfl) rfl (by show 2 * 0 + _ ≤ _; exact Nat.le_of_eq rfl) (hb hby at_64) (fun _ _ => ⟨rfl, rfl, (by decide : 19 + 0 ≤ 32), (by decide : 106 + 0 ≤ 2176)⟩)
    dsimp only [Pt.U, Pt.locs, Pt.cells, Pt.slots] at X87 l87 y87 z87 st87 hQ87
    subst l87 y87 z87
    obtain ⟨rfl, Nq87, eh87⟩ := hQ87
    have N87 := Fr.app N85 Nq87
    refine own_gs st87 ?_
    show own_Fin p e below (T87.setTop (mkF m 67 #[vi p0, vi p1, vi p2, vi p3, vi (3 : Int32), vi ca, vi cb, vi cc, vr a80, vr a82, vr b85, uu] [(.ref ea)])) _
    have Eea := Ee.ext O86.2
    obtain ⟨cq88, kq88, q88a, q88b, q88c⟩ := isOf hZ85 eh87 Eea
    obtain ⟨_, _, ⟨T88, L88, k88, n88⟩, -, X88, ⟨Lc88, hQ88, l88, y88, z88⟩, st88⟩ := X87.virtualBack hx (y := (⟨"java/util/Optional", "isEmpty", "()Z"⟩ : MethodName)) (z := (⟨"java/util/Optional", "isEmpty", "()Z"⟩ : MethodName)) hown85 (mvT hZ85 (hw _ (List.mem_of_getElem? (i := 56) rfl))) (mvT hZ85 (hw _ (List.mem_of_getElem? (i := 57) rfl))) (notFace_of_selects (args := #[]) (mvT hZ85 (hw _ (List.mem_of_getElem? (i := 59) rfl)))) (mvT hZ85 (hw _ (List.mem_of_getElem? (i := 59) rfl))) (mvT hZ85 (hw _ (List.mem_of_getElem? (i := 58) rfl))) (by decide) (backOf (W := 0) (own_ise l Z a0 hW ea 0 T85.heap n0 (by omega) O86 (Fe.ext O86.2)) hZ85 (hw _ (List.mem_of_getElem? (i := 60) rfl)) (hw _ (List.mem_of_getElem? (i := 53) rfl)) (by decide) (by decide)) q88a q88c (g := (mkF m 67 #[vi p0, vi p1, vi p2, vi p3, vi (3 : Int32), vi ca, vi cb, vi cc, vr a80, vr a82, vr b85, uu] [(.ref ea)])) rfl (by rw [hml]; rfl) (Steps.refl _) (argsL := []) (rest := []) (lenOf pd_9 rfl) rfl (by show 2 * 0 + _ ≤ _; exact Nat.le_of_eq rfl) (hb hby at_67) (fun _ _ => ⟨rfl, eh87, (by decide : 19 + 0 ≤ 32), (by decide : 106 + 0 ≤ 2176)⟩)
    dsimp only [Pt.U, Pt.locs, Pt.cells, Pt.slots] at X88 l88 y88 z88 st88 hQ88
    subst l88 y88 z88
    obtain ⟨rfl, Nq88, eh88⟩ := hQ88
    have N88 := Fr.app N87 Nq88
    refine own_gs st88 ?_
    show own_Fin p e below (T88.setTop (mkF m 70 #[vi p0, vi p1, vi p2, vi p3, vi (3 : Int32), vi ca, vi cb, vi cc, vr a80, vr a82, vr b85, uu] [(.int (1 : Int32))])) _
    refine own_gs (cur' := T88.setTop (mkF m 77 #[vi p0, vi p1, vi p2, vi p3, vi (3 : Int32), vi ca, vi cb, vi cc, vr a80, vr a82, vr b85, uu] [(.ref b85)])) ?_ ?_
    · refine XS.ifYes X88.here hx rfl (pc0 := 70) (pc' := 75) rfl (hb hby at_70) rfl ((if0 _ _).trans (feq ((by decide) : ¬ ((1 : Int32) = (0 : Int32)))).2) (by decide) (by decide) ?_
      show Steps p.tables e below (T88.setTop (mkF m 75 #[vi p0, vi p1, vi p2, vi p3, vi (3 : Int32), vi ca, vi cb, vi cc, vr a80, vr a82, vr b85, uu] [])) _
      refine XS.aload X88.here hx rfl (hb hby at_75) rfl rfl ?_
      exact Steps.refl _
    obtain ⟨cq89, kq89, q89a, q89b, q89c⟩ := isOf hZ85 eh88 E85
    obtain ⟨_, _, ⟨T89, L89, k89, n89⟩, -, X89, ⟨Lc89, hQ89, l89, y89, z89⟩, st89⟩ := X88.virtualBack hx (y := (⟨"com/example/mandatum/mandatum/service/Exchanged", "idToken", "()Ljava/util/Optional;"⟩ : MethodName)) (z := (⟨"com/example/mandatum/mandatum/service/Exchanged", "idToken", "()Ljava/util/Optional;"⟩ : MethodName)) hown85 (mvT hZ85 (hw _ (List.mem_of_getElem? (i := 63) rfl))) (mvT hZ85 (hw _ (List.mem_of_getElem? (i := 64) rfl))) (notFace_of_selects (args := #[]) (mvT hZ85 (hw _ (List.mem_of_getElem? (i := 66) rfl)))) (mvT hZ85 (hw _ (List.mem_of_getElem? (i := 66) rfl))) (mvT hZ85 (hw _ (List.mem_of_getElem? (i := 65) rfl))) (by decide) (backOf (W := 0) (own_idt l Z a0 hW b85 a80 T85.heap n0 (by omega) O86 Fi85) hZ85 (hw _ (List.mem_of_getElem? (i := 67) rfl)) (hw _ (List.mem_of_getElem? (i := 28) rfl)) (by decide) (by decide)) q89a q89c (g := (mkF m 77 #[vi p0, vi p1, vi p2, vi p3, vi (3 : Int32), vi ca, vi cb, vi cc, vr a80, vr a82, vr b85, uu] [(.ref b85)])) rfl (by rw [hml]; rfl) (Steps.refl _) (argsL := []) (rest := []) (lenOf pd_8 rfl) rfl (by show 2 * 0 + _ ≤ _; exact Nat.le_of_eq rfl) (hb hby at_77) (fun _ _ => ⟨rfl, eh88, (by decide : 19 + 1 ≤ 32), (by decide : 106 + 1 ≤ 2176)⟩)
    dsimp only [Pt.U, Pt.locs, Pt.cells, Pt.slots] at X89 l89 y89 z89 st89 hQ89
    subst l89 y89 z89
    obtain ⟨o89, rfl, Nq89, Kq89, E89, F89, ge89⟩ := hQ89
    have N89 := Fr.app N88 Nq89
    have z90 := Kq89.1
    have K90 := K86.trans Kq89 all0
    have O90 := O86.keep Kq89 all0
    have CH90 := CH86.trans (CHr.keep Kq89 all0 CH86.1)
    have lt89 := own_lt E89.lt
    refine own_gs st89 ?_
    show own_Fin p e below (T89.setTop (mkF m 80 #[vi p0, vi p1, vi p2, vi p3, vi (3 : Int32), vi ca, vi cb, vi cc, vr a80, vr a82, vr b85, uu] [(.ref o89)])) _
    obtain ⟨cq91, kq91, q91a, q91b, q91c⟩ := isOf hZ85 rfl E89
    obtain ⟨_, _, ⟨T91, L91, k91, n91⟩, -, X91, ⟨Lc91, hQ91, l91, y91, z91⟩, st91⟩ := X89.virtualBack hx (y := (⟨"java/util/Optional", "isPresent", "()Z"⟩ : MethodName)) (z := (⟨"java/util/Optional", "isPresent", "()Z"⟩ : MethodName)) hown85 (mvT hZ85 (hw _ (List.mem_of_getElem? (i := 75) rfl))) (mvT hZ85 (hw _ (List.mem_of_getElem? (i := 76) rfl))) (notFace_of_selects (args := #[]) (mvT hZ85 (hw _ (List.mem_of_getElem? (i := 78) rfl)))) (mvT hZ85 (hw _ (List.mem_of_getElem? (i := 78) rfl))) (mvT hZ85 (hw _ (List.mem_of_getElem? (i := 77) rfl))) (by decide) (backOf (W := 0) (own_isp l Z a0 hW o89 a80 T89.heap n0 (by omega) O90 F89) hZ85 (hw _ (List.mem_of_getElem? (i := 79) rfl)) (hw _ (List.mem_of_getElem? (i := 53) rfl)) (by decide) (by decide)) q91a q91c (g := (mkF m 80 #[vi p0, vi p1, vi p2, vi p3, vi (3 : Int32), vi ca, vi cb, vi cc, vr a80, vr a82, vr b85, uu] [(.ref o89)])) rfl (by rw [hml]; rfl) (Steps.refl _) (argsL := []) (rest := []) (lenOf pd_9 rfl) rfl (by show 2 * 0 + _ ≤ _; exact Nat.le_of_eq rfl) (hb hby at_80) (fun _ _ => ⟨rfl, rfl, (by decide : 20 + 0 ≤ 32), (by decide : 107 + 0 ≤ 2176)⟩)
    dsimp only [Pt.U, Pt.locs, Pt.cells, Pt.slots] at X91 l91 y91 z91 st91 hQ91
    subst l91 y91 z91
    obtain ⟨rfl, Nq91, eh91⟩ := hQ91
    have N91 := Fr.app N89 Nq91
    refine own_gs st91 ?_
    show own_Fin p e below (T91.setTop (mkF m 83 #[vi p0, vi p1, vi p2, vi p3, vi (3 : Int32), vi ca, vi cb, vi cc, vr a80, vr a82, vr b85, uu] [(.int (1 : Int32))])) _
    have f92 := (Fi85.keep Kq89 nin0)
    refine own_gs (cur' := T91.setTop (mkF m 90 #[vi p0, vi p1, vi p2, vi p3, vi (3 : Int32), vi ca, vi cb, vi cc, vr a80, vr a82, vr b85, uu] [(.ref b85)])) ?_ ?_
    · refine XS.ifYes X91.here hx rfl (pc0 := 83) (pc' := 88) rfl (hb hby at_83) rfl ((if0 _ _).trans (feq ((by decide) : ¬ ((1 : Int32) = (0 : Int32)))).2) (by decide) (by decide) ?_
      show Steps p.tables e below (T91.setTop (mkF m 88 #[vi p0, vi p1, vi p2, vi p3, vi (3 : Int32), vi ca, vi cb, vi cc, vr a80, vr a82, vr b85, uu] [])) _
      refine XS.aload X91.here hx rfl (hb hby at_88) rfl rfl ?_
      exact Steps.refl _
    have f94 := (E85.keep Kq89)
    obtain ⟨cq93, kq93, q93a, q93b, q93c⟩ := isOf hZ85 eh91 f94
    obtain ⟨_, _, ⟨T93, L93, k93, n93⟩, -, X93, ⟨Lc93, hQ93, l93, y93, z93⟩, st93⟩ := X91.virtualBack hx (y := (⟨"com/example/mandatum/mandatum/service/Exchanged", "idToken", "()Ljava/util/Optional;"⟩ : MethodName)) (z := (⟨"com/example/mandatum/mandatum/service/Exchanged", "idToken", "()Ljava/util/Optional;"⟩ : MethodName)) hown85 (mvT hZ85 (hw _ (List.mem_of_getElem? (i := 63) rfl))) (mvT hZ85 (hw _ (List.mem_of_getElem? (i := 64) rfl))) (notFace_of_selects (args := #[]) (mvT hZ85 (hw _ (List.mem_of_getElem? (i := 66) rfl)))) (mvT hZ85 (hw _ (List.mem_of_getElem? (i := 66) rfl))) (mvT hZ85 (hw _ (List.mem_of_getElem? (i := 65) rfl))) (by decide) (backOf (W := 0) (own_idt l Z a0 hW b85 a80 T89.heap n0 (by omega) O90 f92) hZ85 (hw _ (List.mem_of_getElem? (i := 67) rfl)) (hw _ (List.mem_of_getElem? (i := 28) rfl)) (by decide) (by decide)) q93a q93c (g := (mkF m 90 #[vi p0, vi p1, vi p2, vi p3, vi (3 : Int32), vi ca, vi cb, vi cc, vr a80, vr a82, vr b85, uu] [(.ref b85)])) rfl (by rw [hml]; rfl) (Steps.refl _) (argsL := []) (rest := []) (lenOf pd_8 rfl) rfl (by show 2 * 0 + _ ≤ _; exact Nat.le_of_eq rfl) (hb hby at_90) (fun _ _ => ⟨rfl, eh91, (by decide : 20 + 1 ≤ 32), (by decide : 107 + 1 ≤ 2176)⟩)
    dsimp only [Pt.U, Pt.locs, Pt.cells, Pt.slots] at X93 l93 y93 z93 st93 hQ93
    subst l93 y93 z93
    obtain ⟨o93, rfl, Nq93, Kq93, E93, F93, ge93⟩ := hQ93
    have N93 := Fr.app N91 Nq93
    have z95 := Kq93.1
    have K95 := K90.trans Kq93 all0
    have O95 := O90.keep Kq93 all0
    have CH95 := CH90.trans (CHr.keep Kq93 all0 CH90.1)
    have lt93 := own_lt E93.lt
    refine own_gs st93 ?_
    show own_Fin p e below (T93.setTop (mkF m 93 #[vi p0, vi p1, vi p2, vi p3, vi (3 : Int32), vi ca, vi cb, vi cc, vr a80, vr a82, vr b85, uu] [(.ref o93)])) _
    obtain ⟨cq96, kq96, q96a, q96b, q96c⟩ := isOf hZ85 rfl E93
    obtain ⟨_, _, ⟨T96, L96, k96, n96⟩, -, X96, ⟨Lc96, hQ96, l96, y96, z96⟩, st96⟩ := X93.virtualBack hx (y := (⟨"java/util/Optional", "get", "()Ljava/lang/Object;"⟩ : MethodName)) (z := (⟨"java/util/Optional", "get", "()Ljava/lang/Object;"⟩ : MethodName)) hown85 (mvT hZ85 (hw _ (List.mem_of_getElem? (i := 80) rfl))) (mvT hZ85 (hw _ (List.mem_of_getElem? (i := 81) rfl))) (notFace_of_selects (args := #[]) (mvT hZ85 (hw _ (List.mem_of_getElem? (i := 83) rfl)))) (mvT hZ85 (hw _ (List.mem_of_getElem? (i := 83) rfl))) (mvT hZ85 (hw _ (List.mem_of_getElem? (i := 82) rfl))) (by decide) (backOf (W := 0) (own_get l Z a0 hW o93 a80 T93.heap n0 (by omega) O95 F93) hZ85 (hw _ (List.mem_of_getElem? (i := 84) rfl)) (hw _ (List.mem_of_getElem? (i := 53) rfl)) (by decide) (by decide)) q96a q96c (g := (mkF m 93 #[vi p0, vi p1, vi p2, vi p3, vi (3 : Int32), vi ca, vi cb, vi cc, vr a80, vr a82, vr b85, uu] [(.ref o93)])) rfl (by rw [hml]; rfl) (Steps.refl _) (argsL := []) (rest := []) (lenOf pd_10 rfl) rfl (by show 2 * 0 + _ ≤ _; exact Nat.le_of_eq rfl) (hb hby at_93) (fun _ _ => ⟨rfl, rfl, (by decide : 21 + 0 ≤ 32), (by decide : 108 + 0 ≤ 2176)⟩)
    dsimp only [Pt.U, Pt.locs, Pt.cells, Pt.slots] at X96 l96 y96 z96 st96 hQ96
    subst l96 y96 z96
    obtain ⟨rfl, Nq96, eh96⟩ := hQ96
    have N96 := Fr.app N93 Nq96
    refine own_gs st96 ?_
    show own_Fin p e below (T96.setTop (mkF m 96 #[vi p0, vi p1, vi p2, vi p3, vi (3 : Int32), vi ca, vi cb, vi cc, vr a80, vr a82, vr b85, uu] [(.ref a80)])) _
    have f98 := (((f84.keep Kq85).keep Kq89).keep Kq93)
    obtain ⟨T97, X97, e97, st97⟩ := castY X96 hx hZ85 hown85 (hw _ (List.mem_of_getElem? (i := 4) rfl)) eh96 (Ins.self f98) (g := (mkF m 96 #[vi p0, vi p1, vi p2, vi p3, vi (3 : Int32), vi ca, vi cb, vi cc, vr a80, vr a82, vr b85, uu] [(.ref a80)])) rfl rfl (hb hby at_96)
    refine own_go st97 ?_
    show own_Fin p e below (T97.setTop (mkF m 99 #[vi p0, vi p1, vi p2, vi p3, vi (3 : Int32), vi ca, vi cb, vi cc, vr a80, vr a82, vr b85, uu] [(.ref a80)])) _
    have f99 := ((((F80.keep Kq82 nin0 nin0).keep Kq85 nin0 nin0).keep Kq89 nin0 nin0).keep Kq93 nin0 nin0)
    refine own_gs (cur' := T97.setTop (mkF m 103 #[vi p0, vi p1, vi p2, vi p3, vi (3 : Int32), vi ca, vi cb, vi cc, vr a80, vr a82, vr b85, vr a80] [(.ref a80)])) ?_ ?_
    · refine XS.astore X97.here hx rfl (hb hby at_99) rfl rfl (l' := #[vi p0, vi p1, vi p2, vi p3, vi (3 : Int32), vi ca, vi cb, vi cc, vr a80, vr a82, vr b85, vr a80]) rfl ?_
      show Steps p.tables e below (T97.setTop (mkF m 101 #[vi p0, vi p1, vi p2, vi p3, vi (3 : Int32), vi ca, vi cb, vi cc, vr a80, vr a82, vr b85, vr a80] [])) _
      refine XS.aload X97.here hx rfl (hb hby at_101) rfl rfl ?_
      exact Steps.refl _
    obtain ⟨cq100, kq100, q100a, q100b, q100c⟩ := isOf hZ85 e97 f98
    obtain ⟨_, _, ⟨T100, L100, k100, n100⟩, -, X100, ⟨Lc100, hQ100, l100, y100, z100⟩, st100⟩ := X97.virtualBack hx (y := (⟨"java/lang/String", "length", "()I"⟩ : MethodName)) (z := (⟨"java/lang/String", "length", "()I"⟩ : MethodName)) hown85 (mvT hZ85 (hw _ (List.mem_of_getElem? (i := 85) rfl))) (mvT hZ85 (hw _ (List.mem_of_getElem? (i := 86) rfl))) (notFace_of_selects (args := #[]) (mvT hZ85 (hw _ (List.mem_of_getElem? (i := 88) rfl)))) (mvT hZ85 (hw _ (List.mem_of_getElem? (i := 88) rfl))) (mvT hZ85 (hw _ (List.mem_of_getElem? (i := 87) rfl))) (by decide) (own_lenB (W := 0) hZ85 hw f99 (O2.ext O95.2) P5 (by decide) (by decide)) q100a q100c (g := (mkF m 103 #[vi p0, vi p1, vi p2, vi p3, vi (3 : Int32), vi ca, vi cb, vi cc, vr a80, vr a82, vr b85, vr a80] [(.ref a80)])) rfl (by rw [hml]; rfl) (Steps.refl _) (argsL := []) (rest := []) (lenOf pd_11 rfl) rfl (by show 2 * 0 + _ ≤ _; exact Nat.le_of_eq rfl) (hb hby at_103) (fun _ _ => ⟨rfl, e97, (by decide : 21 + 0 ≤ 32), (by decide : 108 + 0 ≤ 2176)⟩)
    dsimp only [Pt.U, Pt.locs, Pt.cells, Pt.slots] at X100 l100 y100 z100 st100 hQ100
    subst l100 y100 z100
    obtain ⟨rfl, rfl, eh100⟩ := hQ100
    have N100 := Fr.app N96 (Fr.nil n0)
    refine own_gs st100 ?_
    show own_Fin p e below (T100.setTop (mkF m 106 #[vi p0, vi p1, vi p2, vi p3, vi (3 : Int32), vi ca, vi cb, vi cc, vr a80, vr a82, vr b85, vr a80] [(.int (3 : Int32))])) _
    have f101 := (((F82.keep Kq85 nin0 nin0).keep Kq89 nin0 nin0).keep Kq93 nin0 nin0)
    refine own_gs (cur' := T100.setTop (mkF m 115 #[vi p0, vi p1, vi p2, vi p3, vi (3 : Int32), vi ca, vi cb, vi cc, vr a80, vr a82, vr b85, vr a80] [(.ref a82), (.ref a80)])) ?_ ?_
    · refine XS.iload X100.here hx rfl (hb hby at_106) rfl ?_
      show Steps p.tables e below (T100.setTop (mkF m 108 #[vi p0, vi p1, vi p2, vi p3, vi (3 : Int32), vi ca, vi cb, vi cc, vr a80, vr a82, vr b85, vr a80] [(.int (3 : Int32)), (.int (3 : Int32))])) _
      refine XS.icmpNo X100.here hx rfl (hb hby at_108) rfl (teq ((by decide) : (3 : Int32) = (3 : Int32))).2 ?_
      show Steps p.tables e below (T100.setTop (mkF m 111 #[vi p0, vi p1, vi p2, vi p3, vi (3 : Int32), vi ca, vi cb, vi cc, vr a80, vr a82, vr b85, vr a80] [])) _
      refine XS.aload X100.here hx rfl (hb hby at_111) rfl rfl ?_
      show Steps p.tables e below (T100.setTop (mkF m 113 #[vi p0, vi p1, vi p2, vi p3, vi (3 : Int32), vi ca, vi cb, vi cc, vr a80, vr a82, vr b85, vr a80] [(.ref a80)])) _
      refine XS.aload X100.here hx rfl (hb hby at_113) rfl rfl ?_
      exact Steps.refl _
    obtain ⟨cq102, kq102, q102a, q102b, q102c⟩ := isOf hZ85 eh100 f98
    obtain ⟨_, _, ⟨T102, L102, k102, n102⟩, -, X102, ⟨Lc102, hQ102, l102, y102, z102⟩, st102⟩ := X100.virtualBack hx (y := (⟨"java/lang/String", "equals", "(Ljava/lang/Object;)Z"⟩ : MethodName)) (z := (⟨"java/lang/String", "equals", "(Ljava/lang/Object;)Z"⟩ : MethodName)) hown85 (mvT hZ85 (hw _ (List.mem_of_getElem? (i := 96) rfl))) (mvT hZ85 (hw _ (List.mem_of_getElem? (i := 97) rfl))) (notFace_of_selects (args := #[]) (mvT hZ85 (hw _ (List.mem_of_getElem? (i := 99) rfl)))) (mvT hZ85 (hw _ (List.mem_of_getElem? (i := 99) rfl))) (mvT hZ85 (hw _ (List.mem_of_getElem? (i := 98) rfl))) (by decide) (own_eqB (W := 0) hZ85 hw f99 f101 (O2.ext O95.2) P5 (by decide) (by decide)) q102a q102c (g := (mkF m 115 #[vi p0, vi p1, vi p2, vi p3, vi (3 : Int32), vi ca, vi cb, vi cc, vr a80, vr a82, vr b85, vr a80] [(.ref a82), (.ref a80)])) rfl (by rw [hml]; rfl) (Steps.refl _) (argsL := [(.ref a82)]) (rest := []) (lenOf pd_12 rfl) rfl (by show 2 * 0 + _ ≤ _; exact Nat.le_of_eq rfl) (hb hby at_115) (fun _ _ => ⟨rfl, eh100, (by decide : 21 + 0 ≤ 32), (by decide : 108 + 0 ≤ 2176)⟩)
    dsimp only [Pt.U, Pt.locs, Pt.cells, Pt.slots] at X102 l102 y102 z102 st102 hQ102
    subst l102 y102 z102
    obtain ⟨rfl, rfl, eh102⟩ := hQ102
    have N102 := Fr.app N100 (Fr.nil n0)
    rw [if_pos rfl] at st102
    refine own_gs st102 ?_
    show own_Fin p e below (T102.setTop (mkF m 118 #[vi p0, vi p1, vi p2, vi p3, vi (3 : Int32), vi ca, vi cb, vi cc, vr a80, vr a82, vr b85, vr a80] [(.int (1 : Int32))])) _
    refine own_gs (cur' := T102.setTop (mkF m 126 #[vi p0, vi p1, vi p2, vi p3, vi (3 : Int32), vi ca, vi cb, vi cc, vr a80, vr a82, vr b85, vr a80] [(.int (1 : Int32))])) ?_ ?_
    · refine XS.ifNo X102.here hx rfl (hb hby at_118) rfl ((if0 _ _).trans (feq ((by decide) : ¬ ((1 : Int32) = (0 : Int32)))).1) ?_
      show Steps p.tables e below (T102.setTop (mkF m 121 #[vi p0, vi p1, vi p2, vi p3, vi (3 : Int32), vi ca, vi cb, vi cc, vr a80, vr a82, vr b85, vr a80] [])) _
      refine XS.iconst X102.here hx rfl (hb hby at_121) ?_
      show Steps p.tables e below (T102.setTop (mkF m 122 #[vi p0, vi p1, vi p2, vi p3, vi (3 : Int32), vi ca, vi cb, vi cc, vr a80, vr a82, vr b85, vr a80] [(.int (1 : Int32))])) _
      refine XS.goto X102.here hx rfl (pc0 := 122) (pc' := 126) rfl (hb hby at_122) (by decide) (by decide) ?_
      exact Steps.refl _
    obtain ⟨fs, hr, hrun, hended, hRE⟩ := X102.leaveW hS85 (show T85.heap.size ≤ T102.heap.size by rw [eh102]; omega) (v := (some (.int (1 : Int32)))) (fun h => by rw [Bd.returns] at h; cases h)
    refine ⟨_, _, retN X102 hx (t := .boolean) Bd.returns (by simp) (hb hby at_126) hr, hrun, hended, _, _, rfl, ?_, ?_, hRE.1, hRE.2.1, hRE.2.2.1, hRE.2.2.2.mono (by decide) (by decide)⟩
    · show own_law_Q Z p0 p1 p2 p3 h0 n0 (some (.int (1 : Int32))) T102.heap _
      rw [eh102]
      exact ⟨rfl, N102⟩
    · have hfin := CH95.trans (CHv.at X102 hZ85 hEL CH95.1)
      rw [hh]
      show CHr Z own_EL s.vm h0 T102.vm T102.heap
      rw [eh102]
      exact hfin
theorem own_exactly_ref {t : Term} {K : String} {args : Array Value} {s : State} (h : (Jvm.Cond.exactly t K).before args s = true) : ∃ a, t.eval args s none [] s = some (.ref a) := by
  obtain ⟨a', c', cell, k, e1, -⟩ := Cond.exactly_spec h
  exact ⟨a', e1⟩
theorem own_field_null {t : Term} {C n d : String} {args : Array Value} {s : State} {a : Addr} (ht : t.eval args s none [] s = some (.ref a)) (h : (Jvm.Cond.eq (.field t C n d) .null).value args s none s [] = some true) : s.fieldOf? a C n d = some .null := by
  simp only [Cond.value, Term.eval, ht] at h
  cases hf : s.fieldOf? a C n d with
  | none => simp [hf] at h
  | some v => cases v <;> simp_all
set_option maxRecDepth 65536 in
set_option maxHeartbeats 40000000 in
theorem comes_1 {Post : Tables → Env → Array Value → State → Outcome → State → Prop} (hpost : ∀ tb e args s v u, (limb_1_1.after args s (.returned v) u = true ∧ limb_1_2.after args s (.returned v) u = true ∧ True) → ReturnedEndW s (.returned v) u (Jvm.fieldLocs frame_1_writes args s ++ Jvm.arrayLocs frame_1_arrays args s ++ Jvm.staticLocs frame_1_statics s) 32 2176 → Post tb e args s (.returned v) u) :
    ArmFor flags0 classFile x code maxLocals ret World_1 tables_1 room_1 Calls_1 rest_1 Pre_1 Post := by
  intro l hfl _ _ p e ha hc hk s m args below hf hA hF happ hP
  obtain ⟨hcalls, hrest, hpre⟩ := hP
  obtain ⟨-, -, -, hnamed, -, -, -, hat⟩ := (Spec.applies_iff hf).mp happ
  obtain ⟨hg, hn⟩ := and_e (Cond.before_iff.mp (show (Jvm.Cond.and given_1 narrow_1).before args s = true from hpre))
  obtain ⟨ga0, gb0⟩ := and_e hg
  obtain ⟨ga1, gb1⟩ := and_e gb0
  obtain ⟨ga2, gb2⟩ := and_e gb1
  obtain ⟨ga3, gb3⟩ := and_e gb2
  obtain ⟨w0, w1, w2, w3, rfl⟩ : ∃ w0 w1 w2 w3 : Value, args = #[w0, w1, w2, w3] := by
    have hs : args.size = 4 := by simpa [Cond.value, given_1] using ga0
    obtain ⟨L⟩ := args
    match L, hs with
    | [w0, w1, w2, w3], _ => exact ⟨w0, w1, w2, w3, rfl⟩
  have hw := fun d (hd : d ∈ tables_1) => atoms_spec (ws := Jvm.Cond.code x code maxLocals ret :: tables_1) hat d (List.mem_cons_of_mem _ hd)
  obtain ⟨hsets, hown0⟩ := atoms_of _ (rest_1_c_eq ▸ (show rest_1_c.before _ s = true from hrest))
  obtain ⟨i0, ei0⟩ := is_v ga1
  obtain rfl : w0 = (.int i0) := Option.some.inj ei0
  obtain ⟨i1, ei1⟩ := is_v ga2
  obtain rfl : w1 = (.int i1) := Option.some.inj ei1
  obtain ⟨i2, ei2⟩ := is_v ga3
  obtain rfl : w2 = (.int i2) := Option.some.inj ei2
  obtain ⟨i3, ei3⟩ := is_v gb3
  obtain rfl : w3 = (.int i3) := Option.some.inj ei3
  have n5 := not_v (Cond.before_iff.mp (hsets _ (List.mem_of_getElem? (i := 6) rfl)))
  obtain ⟨g11, e10⟩ := is_v (Cond.before_iff.mp (hsets _ (List.mem_of_getElem? (i := 5) rfl)))
  have S12 : Sta s s.heap "java/lang/String" "COMPACT_STRINGS" "Z" (.int g11) := Sta.start e10 (Or.inl (hsets _ (List.mem_of_getElem? (i := 4) rfl)))
  have c17 : ¬ (g11 = (0 : Int32)) := gotF (Cond.eq_ints e10 (Term.int_eval (0))) n5
  obtain ⟨ea, hea⟩ := own_exactly_ref (hsets _ (List.mem_of_getElem? (i := 2) rfl))
  have Se : Sta s s.heap "java/util/Optional" "EMPTY" "Ljava/util/Optional;" (.ref ea) := Sta.start hea (Or.inl (hsets _ (List.mem_of_getElem? (i := 1) rfl)))
  have Ee : Exa s s.heap ea "java/util/Optional" := Exa.start hea (Cond.before_iff.mp (hsets _ (List.mem_of_getElem? (i := 2) rfl)))
  have Fe : Fld s s.heap ea "java/util/Optional" "value" "Ljava/lang/Object;" .null := Fld.start (own_field_null hea (Cond.before_iff.mp (hsets _ (List.mem_of_getElem? (i := 3) rfl))))
  have hW : own_W s _ := ⟨hw, ⟨g11, S12, c17⟩, ea, Se, Ee, Fe⟩
  have hcw := hsets _ (List.mem_of_getElem? (i := 6) rfl)
  have hCH : CHv s own_EL s.vm s.heap := CHv.start (own_EW hw) (fun q hq => hcalls.1 q (by simpa [own_EL, consts_1] using hq)) hcw (hw _ (List.mem_of_getElem? (i := 19) rfl)) (hw _ (List.mem_of_getElem? (i := 5) rfl))
  obtain ⟨n, o, h1, h2, h3, _, L, rfl, ⟨rfl, N⟩, -, hq⟩ := own_law l s _ hW tables_1 i0 i1 i2 i3 s.heap s.heap.size (Nat.le_refl _) (Old.start s) p e ha hc hk s m _ below hf ((Spec.applies_iff_loose hf).mp happ).1 ⟨rfl, State.Warmed39.refl s, rfl, hCH, all0⟩ trivial
  refine ⟨n, _, h1, h2, h3, hpost _ _ _ _ _ _ ⟨Cond.after_iff.mpr rfl, Cond.after_iff.mpr (eq_i res_at (Term.int_eval (1)) rfl), trivial⟩ ⟨hq.1, hq.2.1, hq.2.2.1, (hq.2.2.2.sift fun y hy => Or.inr (N y hy)).mono (by decide) (by decide)⟩⟩
theorem main_1_1 : Claimed_1_1 := comes_1 fun _ _ _ _ _ _ h hF => ⟨h.1, hF⟩
theorem main_1_2 : Claimed_1_2 := comes_1 fun _ _ _ _ _ _ h hF => ⟨h.2.1, hF⟩
end Jvm.Pilot.@@N@@
namespace Jvm.Pilot.@@N@@
open Jvm Jvm.ClassFile Sem Op Lib Jvm.Free Jvm.Stand Jvm.Pilot.@@N@@.Jvm.D
/-! MADE BY PROGRAM (witnessworld.py) out of the Statement's table words and the real class files: 22 classes; the members and pool entries that the words name. The judged class is class 1, her method 2. -/
namespace start1
open Jvm.ClassFile
def u (s : String) : CpInfo := .utf8 (stringToUtf16 s)
/-- a pool by its gaps: so many unusable entries, then the entry; so many at the end -/
def gap : Nat → List CpInfo → List CpInfo
  | 0, r => r
  | n + 1, r => .unusable :: gap n r
def poolList (es : List (Nat × CpInfo)) (last : Nat) : List CpInfo := es.foldr (fun e r => gap e.1 (e.2 :: r)) (gap last [])
def pool (es : List (Nat × CpInfo)) (last : Nat) : Array CpInfo := ⟨poolList es last⟩
def fileOf (pool : Array CpInfo) (this : Nat) (attrs : Array Attribute := #[]) (ms : Array MethodInfo := #[]) (fl : Nat := 33) (sup : Nat := 0) (ifs : Array Nat := #[]) (fds : Array FieldInfo := #[]) : ClassFile where
  minorVersion := 0
  majorVersion := 65
  constantPool := pool
  accessFlags := fl
  thisClass := this
  superClass := sup
  interfaces := ifs
  fields := fds
  methods := ms
  attributes := attrs
def plain (name : String) (sup : Option ClassId) : Class where
  name := name
  kind := .ordinary
  loader := none
  accessFlags := 33
  super := sup
  interfaces := #[]
  cf := none
  fields := #[]
  methods := #[]
  instanceTypes := #[]
  staticTypes := #[]
  resolved := #[]
  callSites := []
  init := .initialized
  statics := none
  mirror := none

def pool0 : Array CpInfo := pool [(5, u "<init>"), (0, u "()V"), (1, .class_ 10), (1, u "java/lang/Object")] 113

def k0c0 : Code := { maxStack := 0, maxLocals := 1, code := object_method_1_code, exceptionTable := #[], attributes := #[] }
def k0m0 : Method := { name := "<init>", desc := "()V", sig := { parameters := [], returnType := none }, accessFlags := 1, code := some k0c0 }
/-- java/lang/Object -/
def k0 : Class := { plain "java/lang/Object" none with
  accessFlags := 33
  interfaces := #[]
  cf := some (fileOf pool0 8 #[] #[{ accessFlags := 1, nameIndex := 5, descriptorIndex := 6, attributes := #[] }] 33 0 #[] #[])
  fields := #[]
  methods := #[k0m0]
  instanceTypes := #[]
  staticTypes := #[]
  resolved := Array.replicate 124 none
  statics := none }

def pool1 : Array CpInfo := pool [(2, .class_ 4), (1, u "java/lang/Object"), (0, u "<init>"), (0, u "()V"), (0, .class_ 8), (0, u "java/lang/String"), (0, .methodref 7 10), (0, .nameAndType 5 11), (0, u "([C)V"), (0, .methodref 13 14), (0, .class_ 15), (0, .nameAndType 16 17), (0, u "com/example/mandatum/mandatum/service/ExchangedOfIdTokenPinLaw"), (0, u "make"), (0, u "(ICCC)Ljava/lang/String;"), (0, .methodref 19 20), (0, .class_ 21), (0, .nameAndType 22 23), (0, u "com/example/mandatum/mandatum/service/Exchanged"), (0, u "ofIdToken"), (0, u "(Ljava/lang/String;)Lcom/example/mandatum/mandatum/service/Exchanged;"), (0, .methodref 19 25), (0, .nameAndType 26 27), (0, u "accessToken"), (0, u "()Ljava/util/Optional;"), (0, .methodref 29 30), (0, .class_ 31), (0, .nameAndType 32 33), (0, u "java/util/Optional"), (0, u "isEmpty"), (0, u "()Z"), (0, .methodref 19 35), (0, .nameAndType 36 27), (0, u "idToken"), (0, .methodref 29 38), (0, .nameAndType 39 33), (0, u "isPresent"), (0, .methodref 29 41), (0, .nameAndType 42 43), (0, u "get"), (0, u "()Ljava/lang/Object;"), (0, .methodref 7 45), (0, .nameAndType 46 47), (0, u "length"), (0, u "()I"), (0, .methodref 7 49), (0, .nameAndType 50 51), (0, u "equals"), (0, u "(Ljava/lang/Object;)Z"), (3, u "law"), (0, u "(IIII)Z")] 2

def k1m0 : Method := { name := "<init>", desc := "()V", sig := { parameters := [], returnType := none }, accessFlags := 2, code := none }
def k1c1 : Code := { maxStack := 3, maxLocals := 5, code := method_2_code, exceptionTable := #[], attributes := #[] }
def k1m1 : Method := { name := "make", desc := "(ICCC)Ljava/lang/String;", sig := { parameters := [.int, .char, .char, .char], returnType := some (.object "java/lang/String") }, accessFlags := 10, code := some k1c1 }
def k1c2 : Code := { maxStack := 4, maxLocals := 12, code := code, exceptionTable := #[], attributes := #[] }
def k1m2 : Method := { name := "law", desc := "(IIII)Z", sig := { parameters := [.int, .int, .int, .int], returnType := some .boolean }, accessFlags := 9, code := some k1c2 }
/-- com/example/mandatum/mandatum/service/ExchangedOfIdTokenPinLaw -/
def k1 : Class := { plain "com/example/mandatum/mandatum/service/ExchangedOfIdTokenPinLaw" (some 0) with
  accessFlags := 49
  interfaces := #[]
  cf := some (fileOf pool1 13 #[] #[{ accessFlags := 2, nameIndex := 5, descriptorIndex := 6, attributes := #[] }, { accessFlags := 10, nameIndex := 16, descriptorIndex := 17, attributes := #[] }, { accessFlags := 9, nameIndex := 55, descriptorIndex := 56, attributes := #[] }] 49 2 #[] #[])
  fields := #[]
  methods := #[k1m0, k1m1, k1m2]
  instanceTypes := #[]
  staticTypes := #[]
  resolved := Array.replicate 59 none
  statics := none }

def pool2 : Array CpInfo := pool [(1, .class_ 2), (0, u "java/io/Serializable"), (0, .class_ 4), (0, u "java/lang/Object")] 2

/-- java/io/Serializable -/
def k2 : Class := { plain "java/io/Serializable" (some 0) with
  accessFlags := 1537
  interfaces := #[]
  cf := some (fileOf pool2 1 #[] #[] 1537 3 #[] #[])
  fields := #[]
  methods := #[]
  instanceTypes := #[]
  staticTypes := #[]
  resolved := Array.replicate 7 none
  statics := none }

def pool3 : Array CpInfo := pool [(1, .class_ 2), (0, u "java/lang/Comparable"), (0, .class_ 4), (0, u "java/lang/Object")] 7

/-- java/lang/Comparable -/
def k3 : Class := { plain "java/lang/Comparable" (some 0) with
  accessFlags := 1537
  interfaces := #[]
  cf := some (fileOf pool3 1 #[] #[] 1537 3 #[] #[])
  fields := #[]
  methods := #[]
  instanceTypes := #[]
  staticTypes := #[]
  resolved := Array.replicate 12 none
  statics := none }

def pool4 : Array CpInfo := pool [(2, .class_ 4), (1, u "java/lang/CharSequence"), (42, .class_ 48), (0, u "java/lang/CharSequence$1CodePointIterator"), (10, .class_ 60), (0, u "java/lang/CharSequence$1CharIterator"), (5, .class_ 67), (0, u "java/lang/Object")] 63

/-- java/lang/CharSequence -/
def k4 : Class := { plain "java/lang/CharSequence" (some 0) with
  accessFlags := 1537
  interfaces := #[]
  cf := some (fileOf pool4 2 #[.nestMembers #[47, 59]] #[] 1537 66 #[] #[])
  fields := #[]
  methods := #[]
  instanceTypes := #[]
  staticTypes := #[]
  resolved := Array.replicate 131 none
  statics := none }

def pool5 : Array CpInfo := pool [(1, .class_ 2), (0, u "java/lang/constant/Constable"), (0, .class_ 4), (0, u "java/lang/Object")] 6

/-- java/lang/constant/Constable -/
def k5 : Class := { plain "java/lang/constant/Constable" (some 0) with
  accessFlags := 1537
  interfaces := #[]
  cf := some (fileOf pool5 1 #[] #[] 1537 3 #[] #[])
  fields := #[]
  methods := #[]
  instanceTypes := #[]
  staticTypes := #[]
  resolved := Array.replicate 11 none
  statics := none }

def pool6 : Array CpInfo := pool [(1, .class_ 2), (0, u "java/lang/constant/ConstantDesc"), (0, .class_ 4), (0, u "java/lang/Object")] 32

/-- java/lang/constant/ConstantDesc -/
def k6 : Class := { plain "java/lang/constant/ConstantDesc" (some 0) with
  accessFlags := 1537
  interfaces := #[]
  cf := some (fileOf pool6 1 #[] #[] 1537 3 #[] #[])
  fields := #[]
  methods := #[]
  instanceTypes := #[]
  staticTypes := #[]
  resolved := Array.replicate 37 none
  statics := none }

def pool7 : Array CpInfo := pool [(1, .methodref 2 3), (0, .class_ 4), (0, .nameAndType 5 6), (0, u "java/lang/Object"), (0, u "<init>"), (0, u "()V"), (0, .string 8), (0, u ""), (0, .fieldref 10 11), (0, .class_ 12), (0, .nameAndType 13 14), (0, u "java/lang/String"), (0, u "value"), (0, u "[B"), (0, .fieldref 10 16), (0, .nameAndType 17 18), (0, u "coder"), (0, u "B"), (2, u "hash"), (0, u "I"), (2, u "hashIsZero"), (0, u "Z"), (0, .methodref 10 28), (0, .nameAndType 5 29), (0, u "([CIILjava/lang/Void;)V"), (8, .fieldref 10 39), (0, .nameAndType 40 26), (0, u "COMPACT_STRINGS"), (1, .class_ 44), (1, u "java/lang/StringUTF16"), (0, u "compress"), (1, .methodref 42 48), (0, .nameAndType 49 50), (0, u "coderFromArrayLen"), (0, u "([BI)B"), (56, .class_ 109), (1, u "java/lang/StringLatin1"), (67, .methodref 42 178), (0, .nameAndType 45 179), (0, u "([CII)[B"), (154, u "()I"), (0, .methodref 10 336), (0, .nameAndType 17 337), (0, u "()B"), (169, u "length"), (33, .methodref 107 542), (0, .nameAndType 543 544), (0, u "equals"), (0, u "([B[B)Z"), (28, u "(Ljava/lang/Object;)Z"), (1, .class_ 576), (0, u "java/lang/CharSequence"), (22, u "CASE_INSENSITIVE_ORDER"), (0, u "Ljava/util/Comparator;"), (409, u "([C)V"), (90, u "serialPersistentFields"), (0, u "[Ljava/io/ObjectStreamField;"), (0, .class_ 1104), (0, u "java/lang/String$CaseInsensitiveComparator"), (1, .class_ 1107), (0, u "java/io/Serializable"), (0, .class_ 1109), (0, u "java/lang/Comparable"), (0, .class_ 1111), (0, u "java/lang/constant/Constable"), (0, .class_ 1113), (0, u "java/lang/constant/ConstantDesc"), (2, u "serialVersionUID"), (0, u "J"), (3, u "REPL"), (0, u "C"), (2, u "LATIN1"), (1, u "UTF16")] 323

def k7m0 : Method := { name := "<init>", desc := "()V", sig := { parameters := [], returnType := none }, accessFlags := 1, code := none }
def k7c1 : Code := { maxStack := 5, maxLocals := 2, code := jdk_42_method_3_code, exceptionTable := #[], attributes := #[] }
def k7m1 : Method := { name := "<init>", desc := "([C)V", sig := { parameters := [(.array .char)], returnType := none }, accessFlags := 1, code := some k7c1 }
def k7c2 : Code := { maxStack := 2, maxLocals := 1, code := jdk_42_method_54_code, exceptionTable := #[], attributes := #[] }
def k7m2 : Method := { name := "length", desc := "()I", sig := { parameters := [], returnType := some .int }, accessFlags := 1, code := some k7c2 }
def k7c3 : Code := { maxStack := 2, maxLocals := 3, code := jdk_42_method_66_code, exceptionTable := #[], attributes := #[] }
def k7m3 : Method := { name := "equals", desc := "(Ljava/lang/Object;)Z", sig := { parameters := [(.object "java/lang/Object")], returnType := some .boolean }, accessFlags := 1, code := some k7c3 }
def k7c4 : Code := { maxStack := 4, maxLocals := 6, code := jdk_42_method_149_code, exceptionTable := #[], attributes := #[] }
def k7m4 : Method := { name := "<init>", desc := "([CIILjava/lang/Void;)V", sig := { parameters := [(.array .char), .int, .int, (.object "java/lang/Void")], returnType := none }, accessFlags := 2, code := some k7c4 }
def k7c5 : Code := { maxStack := 1, maxLocals := 1, code := jdk_42_method_152_code, exceptionTable := #[], attributes := #[] }
def k7m5 : Method := { name := "coder", desc := "()B", sig := { parameters := [], returnType := some .byte }, accessFlags := 0, code := some k7c5 }
/-- java/lang/String -/
def k7 : Class := { plain "java/lang/String" (some 0) with
  accessFlags := 49
  interfaces := #[2, 3, 4, 5, 6]
  cf := some (fileOf pool7 10 #[.nestMembers #[1103]] #[{ accessFlags := 1, nameIndex := 5, descriptorIndex := 6, attributes := #[] }, { accessFlags := 1, nameIndex := 5, descriptorIndex := 1010, attributes := #[] }, { accessFlags := 1, nameIndex := 507, descriptorIndex := 334, attributes := #[] }, { accessFlags := 1, nameIndex := 543, descriptorIndex := 573, attributes := #[] }, { accessFlags := 2, nameIndex := 5, descriptorIndex := 29, attributes := #[] }, { accessFlags := 0, nameIndex := 17, descriptorIndex := 337, attributes := #[] }] 49 2 #[1106, 1108, 575, 1110, 1112] #[{ accessFlags := 18, nameIndex := 13, descriptorIndex := 14, attributes := #[] }, { accessFlags := 18, nameIndex := 17, descriptorIndex := 18, attributes := #[] }, { accessFlags := 2, nameIndex := 21, descriptorIndex := 22, attributes := #[] }, { accessFlags := 2, nameIndex := 25, descriptorIndex := 26, attributes := #[] }, { accessFlags := 26, nameIndex := 1116, descriptorIndex := 1117, attributes := #[] }, { accessFlags := 24, nameIndex := 40, descriptorIndex := 26, attributes := #[] }, { accessFlags := 26, nameIndex := 1101, descriptorIndex := 1102, attributes := #[] }, { accessFlags := 26, nameIndex := 1121, descriptorIndex := 1122, attributes := #[] }, { accessFlags := 25, nameIndex := 599, descriptorIndex := 600, attributes := #[] }, { accessFlags := 24, nameIndex := 1125, descriptorIndex := 18, attributes := #[] }, { accessFlags := 24, nameIndex := 1127, descriptorIndex := 18, attributes := #[] }])
  fields := #[{ name := "value", type := (.array .byte), accessFlags := 18, slot := 0, constantValue := 0 }, { name := "coder", type := .byte, accessFlags := 18, slot := 1, constantValue := 0 }, { name := "hash", type := .int, accessFlags := 2, slot := 2, constantValue := 0 }, { name := "hashIsZero", type := .boolean, accessFlags := 2, slot := 3, constantValue := 0 }, { name := "serialVersionUID", type := .long, accessFlags := 26, slot := 0, constantValue := 0 }, { name := "COMPACT_STRINGS", type := .boolean, accessFlags := 24, slot := 1, constantValue := 0 }, { name := "serialPersistentFields", type := (.array (.object "java/io/ObjectStreamField")), accessFlags := 26, slot := 2, constantValue := 0 }, { name := "REPL", type := .char, accessFlags := 26, slot := 3, constantValue := 0 }, { name := "CASE_INSENSITIVE_ORDER", type := (.object "java/util/Comparator"), accessFlags := 25, slot := 4, constantValue := 0 }, { name := "LATIN1", type := .byte, accessFlags := 24, slot := 5, constantValue := 0 }, { name := "UTF16", type := .byte, accessFlags := 24, slot := 6, constantValue := 0 }]
  methods := #[k7m0, k7m1, k7m2, k7m3, k7m4, k7m5]
  instanceTypes := #[(.array .byte), .byte, .int, .boolean]
  staticTypes := #[.long, .boolean, (.array (.object "java/io/ObjectStreamField")), .char, (.object "java/util/Comparator"), .byte, .byte]
  resolved := Array.replicate 1451 none
  statics := some 0 }

def pool8 : Array CpInfo := pool [(1, .methodref 2 3), (0, .class_ 4), (0, .nameAndType 5 6), (0, u "java/lang/Object"), (0, u "<init>"), (0, u "()V"), (0, .fieldref 8 9), (0, .class_ 10), (0, .nameAndType 11 12), (0, u "com/example/mandatum/mandatum/service/Exchanged"), (0, u "accessToken"), (0, u "Lcom/example/mandatum/mandatum/model/AccessToken;"), (0, .fieldref 8 14), (0, .nameAndType 15 16), (0, u "idToken"), (0, u "Ljava/lang/String;"), (0, .string 18), (0, u "token is null"), (0, .methodref 20 21), (0, .class_ 22), (0, .nameAndType 23 24), (0, u "java/util/Objects"), (0, u "requireNonNull"), (0, u "(Ljava/lang/Object;Ljava/lang/String;)Ljava/lang/Object;"), (2, .methodref 8 28), (0, .nameAndType 5 29), (0, u "(Lcom/example/mandatum/mandatum/model/AccessToken;Ljava/lang/String;)V"), (0, .class_ 31), (0, u "java/lang/String"), (0, .methodref 33 34), (0, .class_ 35), (0, .nameAndType 36 37), (0, u "java/util/Optional"), (0, u "ofNullable"), (0, u "(Ljava/lang/Object;)Ljava/util/Optional;"), (4, u "ofIdToken"), (0, u "(Ljava/lang/String;)Lcom/example/mandatum/mandatum/service/Exchanged;"), (0, u "()Ljava/util/Optional;")] 5

def k8c0 : Code := { maxStack := 2, maxLocals := 3, code := prog_44_method_1_code, exceptionTable := #[], attributes := #[] }
def k8m0 : Method := { name := "<init>", desc := "(Lcom/example/mandatum/mandatum/model/AccessToken;Ljava/lang/String;)V", sig := { parameters := [(.object "com/example/mandatum/mandatum/model/AccessToken"), (.object "java/lang/String")], returnType := none }, accessFlags := 2, code := some k8c0 }
def k8c1 : Code := { maxStack := 5, maxLocals := 1, code := prog_44_method_3_code, exceptionTable := #[], attributes := #[] }
def k8m1 : Method := { name := "ofIdToken", desc := "(Ljava/lang/String;)Lcom/example/mandatum/mandatum/service/Exchanged;", sig := { parameters := [(.object "java/lang/String")], returnType := some (.object "com/example/mandatum/mandatum/service/Exchanged") }, accessFlags := 8, code := some k8c1 }
def k8c2 : Code := { maxStack := 1, maxLocals := 1, code := prog_44_method_4_code, exceptionTable := #[], attributes := #[] }
def k8m2 : Method := { name := "accessToken", desc := "()Ljava/util/Optional;", sig := { parameters := [], returnType := some (.object "java/util/Optional") }, accessFlags := 1, code := some k8c2 }
def k8c3 : Code := { maxStack := 1, maxLocals := 1, code := prog_44_method_5_code, exceptionTable := #[], attributes := #[] }
def k8m3 : Method := { name := "idToken", desc := "()Ljava/util/Optional;", sig := { parameters := [], returnType := some (.object "java/util/Optional") }, accessFlags := 1, code := some k8c3 }
/-- com/example/mandatum/mandatum/service/Exchanged -/
def k8 : Class := { plain "com/example/mandatum/mandatum/service/Exchanged" (some 0) with
  accessFlags := 49
  interfaces := #[]
  cf := some (fileOf pool8 8 #[] #[{ accessFlags := 2, nameIndex := 5, descriptorIndex := 29, attributes := #[] }, { accessFlags := 8, nameIndex := 42, descriptorIndex := 43, attributes := #[] }, { accessFlags := 1, nameIndex := 11, descriptorIndex := 44, attributes := #[] }, { accessFlags := 1, nameIndex := 15, descriptorIndex := 44, attributes := #[] }] 49 2 #[] #[{ accessFlags := 18, nameIndex := 11, descriptorIndex := 12, attributes := #[] }, { accessFlags := 18, nameIndex := 15, descriptorIndex := 16, attributes := #[] }])
  fields := #[{ name := "accessToken", type := (.object "com/example/mandatum/mandatum/model/AccessToken"), accessFlags := 18, slot := 0, constantValue := 0 }, { name := "idToken", type := (.object "java/lang/String"), accessFlags := 18, slot := 1, constantValue := 0 }]
  methods := #[k8m0, k8m1, k8m2, k8m3]
  instanceTypes := #[(.object "com/example/mandatum/mandatum/model/AccessToken"), (.object "java/lang/String")]
  staticTypes := #[]
  resolved := Array.replicate 50 none
  statics := none }

def pool9 : Array CpInfo := pool [(2, .class_ 4), (1, u "java/lang/Object"), (0, u "<init>"), (0, u "()V"), (35, .class_ 44), (1, u "java/util/Objects"), (0, u "requireNonNull"), (48, u "(Ljava/lang/Object;Ljava/lang/String;)Ljava/lang/Object;")] 89

def k9m0 : Method := { name := "<init>", desc := "()V", sig := { parameters := [], returnType := none }, accessFlags := 2, code := none }
def k9c1 : Code := { maxStack := 3, maxLocals := 2, code := jdk_31_method_11_code, exceptionTable := #[], attributes := #[] }
def k9m1 : Method := { name := "requireNonNull", desc := "(Ljava/lang/Object;Ljava/lang/String;)Ljava/lang/Object;", sig := { parameters := [(.object "java/lang/Object"), (.object "java/lang/String")], returnType := some (.object "java/lang/Object") }, accessFlags := 9, code := some k9c1 }
/-- java/util/Objects -/
def k9 : Class := { plain "java/util/Objects" (some 0) with
  accessFlags := 49
  interfaces := #[]
  cf := some (fileOf pool9 42 #[] #[{ accessFlags := 2, nameIndex := 5, descriptorIndex := 6, attributes := #[] }, { accessFlags := 9, nameIndex := 45, descriptorIndex := 94, attributes := #[] }] 49 2 #[] #[])
  fields := #[]
  methods := #[k9m0, k9m1]
  instanceTypes := #[]
  staticTypes := #[]
  resolved := Array.replicate 184 none
  statics := none }

def pool10 : Array CpInfo := pool [(1, .fieldref 2 3), (0, .class_ 4), (0, .nameAndType 5 6), (0, u "java/util/Optional"), (0, u "EMPTY"), (0, u "Ljava/util/Optional;"), (0, .methodref 8 9), (0, .class_ 10), (0, .nameAndType 11 12), (0, u "java/lang/Object"), (0, u "<init>"), (0, u "()V"), (0, .fieldref 2 14), (0, .nameAndType 15 16), (0, u "value"), (0, u "Ljava/lang/Object;"), (6, .methodref 2 24), (0, .nameAndType 11 25), (0, u "(Ljava/lang/Object;)V"), (19, u "isEmpty"), (0, u "()Z"), (17, u "ofNullable"), (0, u "(Ljava/lang/Object;)Ljava/util/Optional;"), (2, u "isPresent"), (4, u "get"), (0, u "()Ljava/lang/Object;")] 112

def k10c0 : Code := { maxStack := 2, maxLocals := 2, code := jdk_32_method_2_code, exceptionTable := #[], attributes := #[] }
def k10m0 : Method := { name := "<init>", desc := "(Ljava/lang/Object;)V", sig := { parameters := [(.object "java/lang/Object")], returnType := none }, accessFlags := 2, code := some k10c0 }
def k10c1 : Code := { maxStack := 3, maxLocals := 1, code := jdk_32_method_4_code, exceptionTable := #[], attributes := #[] }
def k10m1 : Method := { name := "ofNullable", desc := "(Ljava/lang/Object;)Ljava/util/Optional;", sig := { parameters := [(.object "java/lang/Object")], returnType := some (.object "java/util/Optional") }, accessFlags := 9, code := some k10c1 }
def k10c2 : Code := { maxStack := 3, maxLocals := 1, code := jdk_32_method_5_code, exceptionTable := #[], attributes := #[] }
def k10m2 : Method := { name := "get", desc := "()Ljava/lang/Object;", sig := { parameters := [], returnType := some (.object "java/lang/Object") }, accessFlags := 1, code := some k10c2 }
def k10c3 : Code := { maxStack := 1, maxLocals := 1, code := jdk_32_method_6_code, exceptionTable := #[], attributes := #[] }
def k10m3 : Method := { name := "isPresent", desc := "()Z", sig := { parameters := [], returnType := some .boolean }, accessFlags := 1, code := some k10c3 }
def k10c4 : Code := { maxStack := 1, maxLocals := 1, code := jdk_32_method_7_code, exceptionTable := #[], attributes := #[] }
def k10m4 : Method := { name := "isEmpty", desc := "()Z", sig := { parameters := [], returnType := some .boolean }, accessFlags := 1, code := some k10c4 }
/-- java/util/Optional -/
def k10 : Class := { plain "java/util/Optional" (some 0) with
  accessFlags := 49
  interfaces := #[]
  cf := some (fileOf pool10 2 #[] #[{ accessFlags := 2, nameIndex := 11, descriptorIndex := 25, attributes := #[] }, { accessFlags := 9, nameIndex := 64, descriptorIndex := 65, attributes := #[] }, { accessFlags := 1, nameIndex := 73, descriptorIndex := 74, attributes := #[] }, { accessFlags := 1, nameIndex := 68, descriptorIndex := 46, attributes := #[] }, { accessFlags := 1, nameIndex := 45, descriptorIndex := 46, attributes := #[] }] 49 8 #[] #[{ accessFlags := 26, nameIndex := 5, descriptorIndex := 6, attributes := #[] }, { accessFlags := 18, nameIndex := 15, descriptorIndex := 16, attributes := #[] }])
  fields := #[{ name := "EMPTY", type := (.object "java/util/Optional"), accessFlags := 26, slot := 0, constantValue := 0 }, { name := "value", type := (.object "java/lang/Object"), accessFlags := 18, slot := 0, constantValue := 0 }]
  methods := #[k10m0, k10m1, k10m2, k10m3, k10m4]
  instanceTypes := #[(.object "java/lang/Object")]
  staticTypes := #[(.object "java/util/Optional")]
  resolved := Array.replicate 187 none
  statics := some 1 }

def pool11 : Array CpInfo := pool [(4, .class_ 6), (1, u "java/lang/Object"), (0, u "<init>"), (0, u "()V"), (5, .class_ 16), (1, u "java/lang/StringLatin1"), (104, u "$assertionsDisabled"), (0, u "Z"), (98, .class_ 223), (1, u "java/lang/StringLatin1$LinesSpliterator"), (57, u "equals"), (0, u "([B[B)Z"), (107, .class_ 391), (0, u "java/lang/StringLatin1$CharsSpliterator")] 3

def k11m0 : Method := { name := "<init>", desc := "()V", sig := { parameters := [], returnType := none }, accessFlags := 0, code := none }
def k11c1 : Code := { maxStack := 3, maxLocals := 3, code := jdk_43_method_13_code, exceptionTable := #[], attributes := #[] }
def k11m1 : Method := { name := "equals", desc := "([B[B)Z", sig := { parameters := [(.array .byte), (.array .byte)], returnType := some .boolean }, accessFlags := 9, code := some k11c1 }
/-- java/lang/StringLatin1 -/
def k11 : Class := { plain "java/lang/StringLatin1" (some 0) with
  accessFlags := 48
  interfaces := #[]
  cf := some (fileOf pool11 14 #[.nestMembers #[390, 221]] #[{ accessFlags := 0, nameIndex := 7, descriptorIndex := 8, attributes := #[] }, { accessFlags := 9, nameIndex := 281, descriptorIndex := 282, attributes := #[] }] 48 4 #[] #[{ accessFlags := 4120, nameIndex := 121, descriptorIndex := 122, attributes := #[] }])
  fields := #[{ name := "$assertionsDisabled", type := .boolean, accessFlags := 4120, slot := 0, constantValue := 0 }]
  methods := #[k11m0, k11m1]
  instanceTypes := #[]
  staticTypes := #[.boolean]
  resolved := Array.replicate 395 none
  statics := none }

def pool12 : Array CpInfo := pool [(6, .class_ 8), (1, u "java/lang/Object"), (0, u "<init>"), (0, u "()V"), (1, .class_ 14), (1, u "java/lang/StringUTF16"), (31, u "$assertionsDisabled"), (0, u "Z"), (13, u "HI_BYTE_SHIFT"), (0, u "I"), (2, u "LO_BYTE_SHIFT"), (49, .methodref 12 116), (0, .nameAndType 117 118), (0, u "compress"), (0, u "([CI[BII)I"), (3, u "([CII)[B"), (138, u "coderFromArrayLen"), (0, u "([BI)B"), (106, .class_ 371), (1, u "java/lang/StringUTF16$LinesSpliterator"), (58, u "MAX_LENGTH"), (196, .class_ 628), (0, u "java/lang/StringUTF16$CodePointsSpliterator"), (0, .class_ 630), (0, u "java/lang/StringUTF16$CharsSpliterator")] 4

def k12m0 : Method := { name := "<init>", desc := "()V", sig := { parameters := [], returnType := none }, accessFlags := 0, code := none }
def k12c1 : Code := { maxStack := 2, maxLocals := 2, code := jdk_52_method_15_code, exceptionTable := #[], attributes := #[] }
def k12m1 : Method := { name := "coderFromArrayLen", desc := "([BI)B", sig := { parameters := [(.array .byte), .int], returnType := some .byte }, accessFlags := 8, code := some k12c1 }
def k12c2 : Code := { maxStack := 5, maxLocals := 6, code := jdk_52_method_16_code, exceptionTable := #[], attributes := #[] }
def k12m2 : Method := { name := "compress", desc := "([CII)[B", sig := { parameters := [(.array .char), .int, .int], returnType := some (.array .byte) }, accessFlags := 9, code := some k12c2 }
def k12c3 : Code := { maxStack := 3, maxLocals := 7, code := jdk_52_method_21_code, exceptionTable := #[], attributes := #[] }
def k12m3 : Method := { name := "compress", desc := "([CI[BII)I", sig := { parameters := [(.array .char), .int, (.array .byte), .int, .int], returnType := some .int }, accessFlags := 9, code := some k12c3 }
/-- java/lang/StringUTF16 -/
def k12 : Class := { plain "java/lang/StringUTF16" (some 0) with
  accessFlags := 48
  interfaces := #[]
  cf := some (fileOf pool12 12 #[.nestMembers #[627, 629, 369]] #[{ accessFlags := 0, nameIndex := 9, descriptorIndex := 10, attributes := #[] }, { accessFlags := 8, nameIndex := 261, descriptorIndex := 262, attributes := #[] }, { accessFlags := 9, nameIndex := 117, descriptorIndex := 122, attributes := #[] }, { accessFlags := 9, nameIndex := 117, descriptorIndex := 118, attributes := #[] }] 48 6 #[] #[{ accessFlags := 26, nameIndex := 61, descriptorIndex := 62, attributes := #[] }, { accessFlags := 26, nameIndex := 65, descriptorIndex := 62, attributes := #[] }, { accessFlags := 24, nameIndex := 430, descriptorIndex := 62, attributes := #[] }, { accessFlags := 4120, nameIndex := 46, descriptorIndex := 47, attributes := #[] }])
  fields := #[{ name := "HI_BYTE_SHIFT", type := .int, accessFlags := 26, slot := 0, constantValue := 0 }, { name := "LO_BYTE_SHIFT", type := .int, accessFlags := 26, slot := 1, constantValue := 0 }, { name := "MAX_LENGTH", type := .int, accessFlags := 24, slot := 2, constantValue := 0 }, { name := "$assertionsDisabled", type := .boolean, accessFlags := 4120, slot := 3, constantValue := 0 }]
  methods := #[k12m0, k12m1, k12m2, k12m3]
  instanceTypes := #[]
  staticTypes := #[.int, .int, .int, .boolean]
  resolved := Array.replicate 635 none
  statics := none }

def pool13 : Array CpInfo := pool [(2, .class_ 4), (1, u "java/lang/Object"), (0, u "<init>"), (0, u "()V"), (17, .class_ 26), (1, u "jdk/internal/util/Preconditions"), (28, .class_ 56), (0, u "jdk/internal/util/Preconditions$4"), (57, .class_ 115), (0, u "jdk/internal/util/Preconditions$1"), (7, u "SIOOBE_FORMATTER"), (0, u "Ljava/util/function/BiFunction;"), (0, .class_ 126), (0, u "jdk/internal/util/Preconditions$2"), (3, u "AIOOBE_FORMATTER"), (0, .class_ 132), (0, u "jdk/internal/util/Preconditions$3"), (3, u "IOOBE_FORMATTER")] 57

def k13m0 : Method := { name := "<init>", desc := "()V", sig := { parameters := [], returnType := none }, accessFlags := 1, code := none }
/-- jdk/internal/util/Preconditions -/
def k13 : Class := { plain "jdk/internal/util/Preconditions" (some 0) with
  accessFlags := 33
  interfaces := #[]
  cf := some (fileOf pool13 24 #[.nestMembers #[55, 131, 125, 114]] #[{ accessFlags := 1, nameIndex := 5, descriptorIndex := 6, attributes := #[] }] 33 2 #[] #[{ accessFlags := 25, nameIndex := 123, descriptorIndex := 124, attributes := #[] }, { accessFlags := 25, nameIndex := 130, descriptorIndex := 124, attributes := #[] }, { accessFlags := 25, nameIndex := 136, descriptorIndex := 124, attributes := #[] }])
  fields := #[{ name := "SIOOBE_FORMATTER", type := (.object "java/util/function/BiFunction"), accessFlags := 25, slot := 0, constantValue := 0 }, { name := "AIOOBE_FORMATTER", type := (.object "java/util/function/BiFunction"), accessFlags := 25, slot := 1, constantValue := 0 }, { name := "IOOBE_FORMATTER", type := (.object "java/util/function/BiFunction"), accessFlags := 25, slot := 2, constantValue := 0 }]
  methods := #[k13m0]
  instanceTypes := #[]
  staticTypes := #[(.object "java/util/function/BiFunction"), (.object "java/util/function/BiFunction"), (.object "java/util/function/BiFunction")]
  resolved := Array.replicate 194 none
  statics := some 2 }

def pool14 : Array CpInfo := pool [(9, u "<init>"), (6, .class_ 18), (1, u "java/lang/Object"), (0, u "()V"), (1, .class_ 23), (1, u "jdk/internal/util/ArraysSupport"), (0, u "LOG2_ARRAY_LONG_INDEX_SCALE"), (0, u "I"), (2, u "U"), (0, u "Ljdk/internal/misc/Unsafe;"), (8, u "BIG_ENDIAN"), (0, u "Z"), (8, u "LOG2_BYTE_BIT_SIZE"), (4, u "LOG2_ARRAY_INT_INDEX_SCALE"), (54, u "JLA"), (0, u "Ljdk/internal/access/JavaLangAccess;"), (11, u "LOG2_ARRAY_BOOLEAN_INDEX_SCALE"), (9, u "LOG2_ARRAY_BYTE_INDEX_SCALE"), (5, u "LOG2_ARRAY_CHAR_INDEX_SCALE"), (5, u "LOG2_ARRAY_SHORT_INDEX_SCALE"), (18, u "LOG2_ARRAY_FLOAT_INDEX_SCALE"), (24, u "LOG2_ARRAY_DOUBLE_INDEX_SCALE"), (89, u "T_BOOLEAN"), (2, u "T_CHAR"), (1, u "T_FLOAT"), (1, u "T_DOUBLE"), (1, u "T_BYTE"), (1, u "T_SHORT"), (1, u "T_INT"), (1, u "T_LONG"), (1, u "SOFT_MAX_ARRAY_LENGTH")] 83

def k14m0 : Method := { name := "<init>", desc := "()V", sig := { parameters := [], returnType := none }, accessFlags := 2, code := none }
/-- jdk/internal/util/ArraysSupport -/
def k14 : Class := { plain "jdk/internal/util/ArraysSupport" (some 0) with
  accessFlags := 33
  interfaces := #[]
  cf := some (fileOf pool14 21 #[] #[{ accessFlags := 2, nameIndex := 9, descriptorIndex := 19, attributes := #[] }] 33 16 #[] #[{ accessFlags := 24, nameIndex := 28, descriptorIndex := 29, attributes := #[] }, { accessFlags := 26, nameIndex := 38, descriptorIndex := 39, attributes := #[] }, { accessFlags := 25, nameIndex := 121, descriptorIndex := 25, attributes := #[] }, { accessFlags := 25, nameIndex := 131, descriptorIndex := 25, attributes := #[] }, { accessFlags := 25, nameIndex := 137, descriptorIndex := 25, attributes := #[] }, { accessFlags := 25, nameIndex := 143, descriptorIndex := 25, attributes := #[] }, { accessFlags := 25, nameIndex := 53, descriptorIndex := 25, attributes := #[] }, { accessFlags := 25, nameIndex := 24, descriptorIndex := 25, attributes := #[] }, { accessFlags := 25, nameIndex := 162, descriptorIndex := 25, attributes := #[] }, { accessFlags := 25, nameIndex := 187, descriptorIndex := 25, attributes := #[] }, { accessFlags := 26, nameIndex := 48, descriptorIndex := 25, attributes := #[] }, { accessFlags := 25, nameIndex := 277, descriptorIndex := 25, attributes := #[] }, { accessFlags := 25, nameIndex := 280, descriptorIndex := 25, attributes := #[] }, { accessFlags := 25, nameIndex := 282, descriptorIndex := 25, attributes := #[] }, { accessFlags := 25, nameIndex := 284, descriptorIndex := 25, attributes := #[] }, { accessFlags := 25, nameIndex := 286, descriptorIndex := 25, attributes := #[] }, { accessFlags := 25, nameIndex := 288, descriptorIndex := 25, attributes := #[] }, { accessFlags := 25, nameIndex := 290, descriptorIndex := 25, attributes := #[] }, { accessFlags := 25, nameIndex := 292, descriptorIndex := 25, attributes := #[] }, { accessFlags := 26, nameIndex := 108, descriptorIndex := 109, attributes := #[] }, { accessFlags := 25, nameIndex := 294, descriptorIndex := 25, attributes := #[] }])
  fields := #[{ name := "U", type := (.object "jdk/internal/misc/Unsafe"), accessFlags := 24, slot := 0, constantValue := 0 }, { name := "BIG_ENDIAN", type := .boolean, accessFlags := 26, slot := 1, constantValue := 0 }, { name := "LOG2_ARRAY_BOOLEAN_INDEX_SCALE", type := .int, accessFlags := 25, slot := 2, constantValue := 0 }, { name := "LOG2_ARRAY_BYTE_INDEX_SCALE", type := .int, accessFlags := 25, slot := 3, constantValue := 0 }, { name := "LOG2_ARRAY_CHAR_INDEX_SCALE", type := .int, accessFlags := 25, slot := 4, constantValue := 0 }, { name := "LOG2_ARRAY_SHORT_INDEX_SCALE", type := .int, accessFlags := 25, slot := 5, constantValue := 0 }, { name := "LOG2_ARRAY_INT_INDEX_SCALE", type := .int, accessFlags := 25, slot := 6, constantValue := 0 }, { name := "LOG2_ARRAY_LONG_INDEX_SCALE", type := .int, accessFlags := 25, slot := 7, constantValue := 0 }, { name := "LOG2_ARRAY_FLOAT_INDEX_SCALE", type := .int, accessFlags := 25, slot := 8, constantValue := 0 }, { name := "LOG2_ARRAY_DOUBLE_INDEX_SCALE", type := .int, accessFlags := 25, slot := 9, constantValue := 0 }, { name := "LOG2_BYTE_BIT_SIZE", type := .int, accessFlags := 26, slot := 10, constantValue := 0 }, { name := "T_BOOLEAN", type := .int, accessFlags := 25, slot := 11, constantValue := 0 }, { name := "T_CHAR", type := .int, accessFlags := 25, slot := 12, constantValue := 0 }, { name := "T_FLOAT", type := .int, accessFlags := 25, slot := 13, constantValue := 0 }, { name := "T_DOUBLE", type := .int, accessFlags := 25, slot := 14, constantValue := 0 }, { name := "T_BYTE", type := .int, accessFlags := 25, slot := 15, constantValue := 0 }, { name := "T_SHORT", type := .int, accessFlags := 25, slot := 16, constantValue := 0 }, { name := "T_INT", type := .int, accessFlags := 25, slot := 17, constantValue := 0 }, { name := "T_LONG", type := .int, accessFlags := 25, slot := 18, constantValue := 0 }, { name := "JLA", type := (.object "jdk/internal/access/JavaLangAccess"), accessFlags := 26, slot := 19, constantValue := 0 }, { name := "SOFT_MAX_ARRAY_LENGTH", type := .int, accessFlags := 25, slot := 20, constantValue := 0 }]
  methods := #[k14m0]
  instanceTypes := #[]
  staticTypes := #[(.object "jdk/internal/misc/Unsafe"), .boolean, .int, .int, .int, .int, .int, .int, .int, .int, .int, .int, .int, .int, .int, .int, .int, .int, .int, (.object "jdk/internal/access/JavaLangAccess"), .int]
  resolved := Array.replicate 378 none
  statics := none }

def pool15 : Array CpInfo := pool [(1, u "java/lang/Cloneable"), (0, .class_ 1), (0, u "java/lang/Object"), (0, .class_ 3)] 3

/-- java/lang/Cloneable -/
def k15 : Class := { plain "java/lang/Cloneable" (some 0) with
  accessFlags := 1537
  interfaces := #[]
  cf := some (fileOf pool15 2 #[] #[] 1537 4 #[] #[])
  fields := #[]
  methods := #[]
  instanceTypes := #[]
  staticTypes := #[]
  resolved := Array.replicate 8 none
  statics := none }

/-- the primitive byte -/
def k16 : Class := { plain "byte" none with kind := .primitive 'B', accessFlags := 0x411 }
/-- [B -/
def k17 : Class := { plain "[B" (some 0) with kind := .array 16 .byte, interfaces := #[15, 2], accessFlags := 1041 }

/-- the primitive char -/
def k18 : Class := { plain "char" none with kind := .primitive 'C', accessFlags := 0x411 }
/-- [C -/
def k19 : Class := { plain "[C" (some 0) with kind := .array 18 .char, interfaces := #[15, 2], accessFlags := 1041 }

/-- the primitive int -/
def k20 : Class := { plain "int" none with kind := .primitive 'I', accessFlags := 0x411 }
/-- [I -/
def k21 : Class := { plain "[I" (some 0) with kind := .array 20 .int, interfaces := #[15, 2], accessFlags := 1041 }

def heap : Heap := #[{ cls := 7, slots := #[.long 0, .int 1, .null, .int 0, .null, .int 0, .int 0], vm := .statics 7 },
  { cls := 10, slots := #[.ref 3], vm := .statics 10 },
  { cls := 13, slots := #[.null, .null, .null], vm := .statics 13 },
  { cls := 10, slots := #[.null], vm := .none }]
def classes : Array Class := #[k0, k1, k2, k3, k4, k5, k6, k7, k8, k9, k10, k11, k12, k13, k14, k15, k16, k17, k18, k19, k20, k21]
def interned : List (Array UInt16 × Addr) := []
def slotsUsed : Nat := 12
def theMethod : MethodId := ⟨1, 2⟩
def args0 : Array Value := #[.int 5, .int 7, .int 5, .int 9]
def aboutOver (below : List Frame) : State where
  vm := { classes := classes, interned := interned.toArray }
  heap := heap
  slotsUsed := slotsUsed
  threads := #[{ frames := .invoking theMethod args0 :: below }]
def below0 : List Frame := [.native { method := ⟨0, 0⟩, args := #[] }]
def about1 : State := aboutOver below0
def p0 : Program := .bare "" "" ""
def e0 : Env := launch0.env 0 0 0
theorem w_frames : about1.frames = Frame.invoking theMethod args0 :: below0 := rfl
set_option maxRecDepth 65536 in
theorem w_args : argsFit about1.vm theMethod args0 = true := by decide +kernel
set_option maxRecDepth 65536 in
theorem w_heap : heapFits about1 = true := by decide +kernel
set_option maxRecDepth 65536 in
theorem w_runnable : about1.curStatus? = some .runnable := by decide +kernel
set_option maxRecDepth 65536 in
theorem w_alone : about1.alone = true := by decide +kernel
set_option maxRecDepth 65536 in
theorem w_named : about1.methodNamed? x = some theMethod := by decide +kernel
set_option maxRecDepth 65536 in
theorem w_hears : about1.hears theMethod below0 = true := by decide +kernel
set_option maxRecDepth 65536 in
theorem w_ripe : about1.ripe theMethod args0 below0 = true := by decide +kernel
theorem w_running : about1.status = .running := rfl
set_option maxRecDepth 65536 in
theorem w_room : about1.hasRoom e0.platform room_1 = true :=
  launch0.hasRoom_least _ room_1 (by decide +kernel) (by decide +kernel) (by decide +kernel) (by decide +kernel) (by decide +kernel) (by decide +kernel)
theorem allAtoms_all (ts : List Jvm.Cond) (a : Array Jvm.Value) (st : Jvm.State) : (allAtoms ts).before a st = ts.all (fun c => c.before a st) := by
  induction ts with
  | nil => rfl
  | cons c t ih =>
    show (Jvm.Cond.and c (allAtoms t)).before a st = _
    rw [Jvm.Cond.before_and, ih, List.all_cons]
def words1 : List Jvm.Cond := Jvm.Cond.code x code maxLocals ret :: tables_1
/-- a 'code' word, met by the world's own term for the bytes: nothing is compared byte by byte -/
theorem code_word {y : MethodName} {bytes : ByteArray} {mx : Nat} {rt : Option FieldType} {a : Array Value} {s : State} {m : MethodId} {meth : Method} {c : Code} (h1 : s.methodNamed? y = some m) (h2 : s.vm.method? m = some meth) (h3 : meth.code = some c) (h4 : c.code = bytes)
    (h5 : (c.maxLocals == mx && c.exceptionTable.isEmpty && decide (c.maxStack ≤ mostOperands) && decide (meth.sig.returnType = rt) && !meth.locks && decide (parseMethodDescriptor y.desc = some meth.sig)) = true) : (Jvm.Cond.code y bytes mx rt).before a s = true := by
  simp only [Bool.and_eq_true, beq_iff_eq, Bool.not_eq_true', decide_eq_true_eq] at h5
  obtain ⟨⟨⟨⟨⟨g1, g2⟩, g3⟩, g4⟩, g5⟩, g6⟩ := h5
  simp [Cond.before, Cond.holds, Cond.value, h1, h2, h3, h4, g1, g2, g3, g4, g5, g6]
def isCode : Jvm.Cond → Bool
  | .code _ _ _ _ => true
  | _ => false
theorem all_split {L : List Jvm.Cond} {P : Jvm.Cond → Bool} (h1 : L.all (fun c => isCode c || P c) = true) (h2 : ∀ c ∈ L.filter isCode, P c = true) : L.all P = true := by
  refine List.all_eq_true.mpr fun c hc => ?_
  have h := List.all_eq_true.mp h1 c hc
  rcases Bool.eq_false_or_eq_true (isCode c) with hi | hi
  · exact h2 c (List.mem_filter.mpr ⟨hc, hi⟩)
  · simpa [hi] using h
set_option maxRecDepth 65536 in
theorem w_c0 : (Jvm.Cond.code x code maxLocals ret).before args0 about1 = true := code_word (m := ⟨1, 2⟩) (meth := k1m2) (c := k1c2) (by decide +kernel) rfl rfl rfl (by decide +kernel)
set_option maxRecDepth 65536 in
theorem w_c1 : (Jvm.Cond.code ({ cls := "com/example/mandatum/mandatum/service/ExchangedOfIdTokenPinLaw", name := "make", desc := "(ICCC)Ljava/lang/String;" } : Jvm.MethodName) method_2_code (5 : Nat) (Option.some (Jvm.ClassFile.FieldType.object "java/lang/String"))).before args0 about1 = true := code_word (m := ⟨1, 1⟩) (meth := k1m1) (c := k1c1) (by decide +kernel) rfl rfl rfl (by decide +kernel)
set_option maxRecDepth 65536 in
theorem w_c2 : (Jvm.Cond.code ({ cls := "java/lang/String", name := "<init>", desc := "([C)V" } : Jvm.MethodName) jdk_42_method_3_code (2 : Nat) (Option.none : Option Jvm.ClassFile.FieldType)).before args0 about1 = true := code_word (m := ⟨7, 1⟩) (meth := k7m1) (c := k7c1) (by decide +kernel) rfl rfl rfl (by decide +kernel)
set_option maxRecDepth 65536 in
theorem w_c3 : (Jvm.Cond.code ({ cls := "java/lang/String", name := "<init>", desc := "([CIILjava/lang/Void;)V" } : Jvm.MethodName) jdk_42_method_149_code (6 : Nat) (Option.none : Option Jvm.ClassFile.FieldType)).before args0 about1 = true := code_word (m := ⟨7, 4⟩) (meth := k7m4) (c := k7c4) (by decide +kernel) rfl rfl rfl (by decide +kernel)
set_option maxRecDepth 65536 in
theorem w_c4 : (Jvm.Cond.code ({ cls := "java/lang/Object", name := "<init>", desc := "()V" } : Jvm.MethodName) object_method_1_code (1 : Nat) (Option.none : Option Jvm.ClassFile.FieldType)).before args0 about1 = true := code_word (m := ⟨0, 0⟩) (meth := k0m0) (c := k0c0) (by decide +kernel) rfl rfl rfl (by decide +kernel)
set_option maxRecDepth 65536 in
theorem w_c5 : (Jvm.Cond.code ({ cls := "com/example/mandatum/mandatum/service/Exchanged", name := "ofIdToken", desc := "(Ljava/lang/String;)Lcom/example/mandatum/mandatum/service/Exchanged;" } : Jvm.MethodName) prog_44_method_3_code (1 : Nat) (Option.some (Jvm.ClassFile.FieldType.object "com/example/mandatum/mandatum/service/Exchanged"))).before args0 about1 = true := code_word (m := ⟨8, 1⟩) (meth := k8m1) (c := k8c1) (by decide +kernel) rfl rfl rfl (by decide +kernel)
set_option maxRecDepth 65536 in
theorem w_c6 : (Jvm.Cond.code ({ cls := "java/util/Objects", name := "requireNonNull", desc := "(Ljava/lang/Object;Ljava/lang/String;)Ljava/lang/Object;" } : Jvm.MethodName) jdk_31_method_11_code (2 : Nat) (Option.some (Jvm.ClassFile.FieldType.object "java/lang/Object"))).before args0 about1 = true := code_word (m := ⟨9, 1⟩) (meth := k9m1) (c := k9c1) (by decide +kernel) rfl rfl rfl (by decide +kernel)
set_option maxRecDepth 65536 in
theorem w_c7 : (Jvm.Cond.code ({ cls := "com/example/mandatum/mandatum/service/Exchanged", name := "<init>", desc := "(Lcom/example/mandatum/mandatum/model/AccessToken;Ljava/lang/String;)V" } : Jvm.MethodName) prog_44_method_1_code (3 : Nat) (Option.none : Option Jvm.ClassFile.FieldType)).before args0 about1 = true := code_word (m := ⟨8, 0⟩) (meth := k8m0) (c := k8c0) (by decide +kernel) rfl rfl rfl (by decide +kernel)
set_option maxRecDepth 65536 in
theorem w_c8 : (Jvm.Cond.code ({ cls := "com/example/mandatum/mandatum/service/Exchanged", name := "accessToken", desc := "()Ljava/util/Optional;" } : Jvm.MethodName) prog_44_method_4_code (1 : Nat) (Option.some (Jvm.ClassFile.FieldType.object "java/util/Optional"))).before args0 about1 = true := code_word (m := ⟨8, 2⟩) (meth := k8m2) (c := k8c2) (by decide +kernel) rfl rfl rfl (by decide +kernel)
set_option maxRecDepth 65536 in
theorem w_c9 : (Jvm.Cond.code ({ cls := "java/util/Optional", name := "ofNullable", desc := "(Ljava/lang/Object;)Ljava/util/Optional;" } : Jvm.MethodName) jdk_32_method_4_code (1 : Nat) (Option.some (Jvm.ClassFile.FieldType.object "java/util/Optional"))).before args0 about1 = true := code_word (m := ⟨10, 1⟩) (meth := k10m1) (c := k10c1) (by decide +kernel) rfl rfl rfl (by decide +kernel)
set_option maxRecDepth 65536 in
theorem w_c10 : (Jvm.Cond.code ({ cls := "java/util/Optional", name := "isEmpty", desc := "()Z" } : Jvm.MethodName) jdk_32_method_7_code (1 : Nat) (Option.some Jvm.ClassFile.FieldType.boolean)).before args0 about1 = true := code_word (m := ⟨10, 4⟩) (meth := k10m4) (c := k10c4) (by decide +kernel) rfl rfl rfl (by decide +kernel)
set_option maxRecDepth 65536 in
theorem w_c11 : (Jvm.Cond.code ({ cls := "com/example/mandatum/mandatum/service/Exchanged", name := "idToken", desc := "()Ljava/util/Optional;" } : Jvm.MethodName) prog_44_method_5_code (1 : Nat) (Option.some (Jvm.ClassFile.FieldType.object "java/util/Optional"))).before args0 about1 = true := code_word (m := ⟨8, 3⟩) (meth := k8m3) (c := k8c3) (by decide +kernel) rfl rfl rfl (by decide +kernel)
set_option maxRecDepth 65536 in
theorem w_c12 : (Jvm.Cond.code ({ cls := "java/util/Optional", name := "<init>", desc := "(Ljava/lang/Object;)V" } : Jvm.MethodName) jdk_32_method_2_code (2 : Nat) (Option.none : Option Jvm.ClassFile.FieldType)).before args0 about1 = true := code_word (m := ⟨10, 0⟩) (meth := k10m0) (c := k10c0) (by decide +kernel) rfl rfl rfl (by decide +kernel)
set_option maxRecDepth 65536 in
theorem w_c13 : (Jvm.Cond.code ({ cls := "java/util/Optional", name := "isPresent", desc := "()Z" } : Jvm.MethodName) jdk_32_method_6_code (1 : Nat) (Option.some Jvm.ClassFile.FieldType.boolean)).before args0 about1 = true := code_word (m := ⟨10, 3⟩) (meth := k10m3) (c := k10c3) (by decide +kernel) rfl rfl rfl (by decide +kernel)
set_option maxRecDepth 65536 in
theorem w_c14 : (Jvm.Cond.code ({ cls := "java/util/Optional", name := "get", desc := "()Ljava/lang/Object;" } : Jvm.MethodName) jdk_32_method_5_code (1 : Nat) (Option.some (Jvm.ClassFile.FieldType.object "java/lang/Object"))).before args0 about1 = true := code_word (m := ⟨10, 2⟩) (meth := k10m2) (c := k10c2) (by decide +kernel) rfl rfl rfl (by decide +kernel)
set_option maxRecDepth 65536 in
theorem w_c15 : (Jvm.Cond.code ({ cls := "java/lang/String", name := "length", desc := "()I" } : Jvm.MethodName) jdk_42_method_54_code (1 : Nat) (Option.some Jvm.ClassFile.FieldType.int)).before args0 about1 = true := code_word (m := ⟨7, 2⟩) (meth := k7m2) (c := k7c2) (by decide +kernel) rfl rfl rfl (by decide +kernel)
set_option maxRecDepth 65536 in
theorem w_c16 : (Jvm.Cond.code ({ cls := "java/lang/String", name := "coder", desc := "()B" } : Jvm.MethodName) jdk_42_method_152_code (1 : Nat) (Option.some Jvm.ClassFile.FieldType.byte)).before args0 about1 = true := code_word (m := ⟨7, 5⟩) (meth := k7m5) (c := k7c5) (by decide +kernel) rfl rfl rfl (by decide +kernel)
set_option maxRecDepth 65536 in
theorem w_c17 : (Jvm.Cond.code ({ cls := "java/lang/String", name := "equals", desc := "(Ljava/lang/Object;)Z" } : Jvm.MethodName) jdk_42_method_66_code (3 : Nat) (Option.some Jvm.ClassFile.FieldType.boolean)).before args0 about1 = true := code_word (m := ⟨7, 3⟩) (meth := k7m3) (c := k7c3) (by decide +kernel) rfl rfl rfl (by decide +kernel)
set_option maxRecDepth 65536 in
theorem w_c18 : (Jvm.Cond.code ({ cls := "java/lang/StringLatin1", name := "equals", desc := "([B[B)Z" } : Jvm.MethodName) jdk_43_method_13_code (3 : Nat) (Option.some Jvm.ClassFile.FieldType.boolean)).before args0 about1 = true := code_word (m := ⟨11, 1⟩) (meth := k11m1) (c := k11c1) (by decide +kernel) rfl rfl rfl (by decide +kernel)
set_option maxRecDepth 65536 in
theorem w_c19 : (Jvm.Cond.code ({ cls := "java/lang/StringUTF16", name := "compress", desc := "([CII)[B" } : Jvm.MethodName) jdk_52_method_16_code (6 : Nat) (Option.some (Jvm.ClassFile.FieldType.array Jvm.ClassFile.FieldType.byte))).before args0 about1 = true := code_word (m := ⟨12, 2⟩) (meth := k12m2) (c := k12c2) (by decide +kernel) rfl rfl rfl (by decide +kernel)
set_option maxRecDepth 65536 in
theorem w_c20 : (Jvm.Cond.code ({ cls := "java/lang/StringUTF16", name := "compress", desc := "([CI[BII)I" } : Jvm.MethodName) jdk_52_method_21_code (7 : Nat) (Option.some Jvm.ClassFile.FieldType.int)).before args0 about1 = true := code_word (m := ⟨12, 3⟩) (meth := k12m3) (c := k12c3) (by decide +kernel) rfl rfl rfl (by decide +kernel)
set_option maxRecDepth 65536 in
theorem w_c21 : (Jvm.Cond.code ({ cls := "java/lang/StringUTF16", name := "coderFromArrayLen", desc := "([BI)B" } : Jvm.MethodName) jdk_52_method_15_code (2 : Nat) (Option.some Jvm.ClassFile.FieldType.byte)).before args0 about1 = true := code_word (m := ⟨12, 1⟩) (meth := k12m1) (c := k12c1) (by decide +kernel) rfl rfl rfl (by decide +kernel)
def codes1 : List Jvm.Cond := [Jvm.Cond.code x code maxLocals ret, Jvm.Cond.code ({ cls := "com/example/mandatum/mandatum/service/ExchangedOfIdTokenPinLaw", name := "make", desc := "(ICCC)Ljava/lang/String;" } : Jvm.MethodName) method_2_code (5 : Nat) (Option.some (Jvm.ClassFile.FieldType.object "java/lang/String")), Jvm.Cond.code ({ cls := "java/lang/String", name := "<init>", desc := "([C)V" } : Jvm.MethodName) jdk_42_method_3_code (2 : Nat) (Option.none : Option Jvm.ClassFile.FieldType), Jvm.Cond.code ({ cls := "java/lang/String", name := "<init>", desc := "([CIILjava/lang/Void;)V" } : Jvm.MethodName) jdk_42_method_149_code (6 : Nat) (Option.none : Option Jvm.ClassFile.FieldType), Jvm.Cond.code ({ cls := "java/lang/Object", name := "<init>", desc := "()V" } : Jvm.MethodName) object_method_1_code (1 : Nat) (Option.none : Option Jvm.ClassFile.FieldType), Jvm.Cond.code ({ cls := "com/example/mandatum/mandatum/service/Exchanged", name := "ofIdToken", desc := "(Ljava/lang/String;)Lcom/example/mandatum/mandatum/service/Exchanged;" } : Jvm.MethodName) prog_44_method_3_code (1 : Nat) (Option.some (Jvm.ClassFile.FieldType.object "com/example/mandatum/mandatum/service/Exchanged")), Jvm.Cond.code ({ cls := "java/util/Objects", name := "requireNonNull", desc := "(Ljava/lang/Object;Ljava/lang/String;)Ljava/lang/Object;" } : Jvm.MethodName) jdk_31_method_11_code (2 : Nat) (Option.some (Jvm.ClassFile.FieldType.object "java/lang/Object")), Jvm.Cond.code ({ cls := "com/example/mandatum/mandatum/service/Exchanged", name := "<init>", desc := "(Lcom/example/mandatum/mandatum/model/AccessToken;Ljava/lang/String;)V" } : Jvm.MethodName) prog_44_method_1_code (3 : Nat) (Option.none : Option Jvm.ClassFile.FieldType), Jvm.Cond.code ({ cls := "com/example/mandatum/mandatum/service/Exchanged", name := "accessToken", desc := "()Ljava/util/Optional;" } : Jvm.MethodName) prog_44_method_4_code (1 : Nat) (Option.some (Jvm.ClassFile.FieldType.object "java/util/Optional")), Jvm.Cond.code ({ cls := "java/util/Optional", name := "ofNullable", desc := "(Ljava/lang/Object;)Ljava/util/Optional;" } : Jvm.MethodName) jdk_32_method_4_code (1 : Nat) (Option.some (Jvm.ClassFile.FieldType.object "java/util/Optional")), Jvm.Cond.code ({ cls := "java/util/Optional", name := "isEmpty", desc := "()Z" } : Jvm.MethodName) jdk_32_method_7_code (1 : Nat) (Option.some Jvm.ClassFile.FieldType.boolean), Jvm.Cond.code ({ cls := "com/example/mandatum/mandatum/service/Exchanged", name := "idToken", desc := "()Ljava/util/Optional;" } : Jvm.MethodName) prog_44_method_5_code (1 : Nat) (Option.some (Jvm.ClassFile.FieldType.object "java/util/Optional")), Jvm.Cond.code ({ cls := "java/util/Optional", name := "<init>", desc := "(Ljava/lang/Object;)V" } : Jvm.MethodName) jdk_32_method_2_code (2 : Nat) (Option.none : Option Jvm.ClassFile.FieldType), Jvm.Cond.code ({ cls := "java/util/Optional", name := "isPresent", desc := "()Z" } : Jvm.MethodName) jdk_32_method_6_code (1 : Nat) (Option.some Jvm.ClassFile.FieldType.boolean), Jvm.Cond.code ({ cls := "java/util/Optional", name := "get", desc := "()Ljava/lang/Object;" } : Jvm.MethodName) jdk_32_method_5_code (1 : Nat) (Option.some (Jvm.ClassFile.FieldType.object "java/lang/Object")), Jvm.Cond.code ({ cls := "java/lang/String", name := "length", desc := "()I" } : Jvm.MethodName) jdk_42_method_54_code (1 : Nat) (Option.some Jvm.ClassFile.FieldType.int), Jvm.Cond.code ({ cls := "java/lang/String", name := "coder", desc := "()B" } : Jvm.MethodName) jdk_42_method_152_code (1 : Nat) (Option.some Jvm.ClassFile.FieldType.byte), Jvm.Cond.code ({ cls := "java/lang/String", name := "equals", desc := "(Ljava/lang/Object;)Z" } : Jvm.MethodName) jdk_42_method_66_code (3 : Nat) (Option.some Jvm.ClassFile.FieldType.boolean), Jvm.Cond.code ({ cls := "java/lang/StringLatin1", name := "equals", desc := "([B[B)Z" } : Jvm.MethodName) jdk_43_method_13_code (3 : Nat) (Option.some Jvm.ClassFile.FieldType.boolean), Jvm.Cond.code ({ cls := "java/lang/StringUTF16", name := "compress", desc := "([CII)[B" } : Jvm.MethodName) jdk_52_method_16_code (6 : Nat) (Option.some (Jvm.ClassFile.FieldType.array Jvm.ClassFile.FieldType.byte)), Jvm.Cond.code ({ cls := "java/lang/StringUTF16", name := "compress", desc := "([CI[BII)I" } : Jvm.MethodName) jdk_52_method_21_code (7 : Nat) (Option.some Jvm.ClassFile.FieldType.int), Jvm.Cond.code ({ cls := "java/lang/StringUTF16", name := "coderFromArrayLen", desc := "([BI)B" } : Jvm.MethodName) jdk_52_method_15_code (2 : Nat) (Option.some Jvm.ClassFile.FieldType.byte)]
set_option maxRecDepth 65536 in
theorem codes_eq : words1.filter isCode = codes1 := rfl
theorem w_codes : ∀ c ∈ words1.filter isCode, c.before args0 about1 = true := by
  rw [codes_eq]
  intro c hc
  simp only [codes1, List.mem_cons, List.not_mem_nil, or_false] at hc
  rcases hc with rfl | rfl | rfl | rfl | rfl | rfl | rfl | rfl | rfl | rfl | rfl | rfl | rfl | rfl | rfl | rfl | rfl | rfl | rfl | rfl | rfl | rfl
  · exact w_c0
  · exact w_c1
  · exact w_c2
  · exact w_c3
  · exact w_c4
  · exact w_c5
  · exact w_c6
  · exact w_c7
  · exact w_c8
  · exact w_c9
  · exact w_c10
  · exact w_c11
  · exact w_c12
  · exact w_c13
  · exact w_c14
  · exact w_c15
  · exact w_c16
  · exact w_c17
  · exact w_c18
  · exact w_c19
  · exact w_c20
  · exact w_c21
set_option maxRecDepth 65536 in
theorem w_t1 : (words1.take 24).all (fun c => isCode c || c.before args0 about1) = true := by decide +kernel
set_option maxRecDepth 65536 in
theorem w_t2 : ((words1.drop 24).take 24).all (fun c => isCode c || c.before args0 about1) = true := by decide +kernel
set_option maxRecDepth 65536 in
theorem w_t3 : (((words1.drop 24).drop 24).take 24).all (fun c => isCode c || c.before args0 about1) = true := by decide +kernel
set_option maxRecDepth 65536 in
theorem w_t4 : ((((words1.drop 24).drop 24).drop 24).take 24).all (fun c => isCode c || c.before args0 about1) = true := by decide +kernel
set_option maxRecDepth 65536 in
theorem w_t5 : ((((words1.drop 24).drop 24).drop 24).drop 24).all (fun c => isCode c || c.before args0 about1) = true := by decide +kernel
theorem w_tables : (allAtoms (Jvm.Cond.code x code maxLocals ret :: tables_1)).before args0 about1 = true := by
  rw [allAtoms_all]
  show words1.all (fun c => c.before args0 about1) = true
  refine all_split ?_ w_codes
  rw [← List.take_append_drop 24 words1, List.all_append, w_t1, ← List.take_append_drop 24 (words1.drop 24), List.all_append, w_t2, ← List.take_append_drop 24 ((words1.drop 24).drop 24), List.all_append, w_t3, ← List.take_append_drop 24 (((words1.drop 24).drop 24).drop 24), List.all_append, w_t4, w_t5]
  rfl
set_option maxRecDepth 65536 in
theorem w_rest : rest_1_c.before args0 about1 = true := by decide +kernel
set_option maxRecDepth 65536 in
theorem w_case : (Jvm.Cond.and given_1 narrow_1).before args0 about1 = true := by decide +kernel
set_option maxRecDepth 65536 in
theorem w_consts : constsHeld consts_1 about1 := Jvm.Lit.constsHeldB_iff.mp (by decide +kernel)
theorem w_applies : (headSpec (Jvm.Cond.code x code maxLocals ret :: tables_1) room_1).applies x e0.platform about1 = true :=
  (Spec.applies_iff w_frames).mpr ⟨w_running, w_runnable, w_alone, w_named, w_hears, w_ripe, w_room, w_tables⟩
theorem atStart : AtStart classFile x code maxLocals ret World_1 tables_1 room_1 Calls_1 rest_1 Pre_1 launch0 p0 e0 about1 theMethod args0 below0 :=
  ⟨lists_1, trivial, launch0.admits_env _ _ _, launch0.least_env, fairChoices_fair.cas, fairChoices_fair.clock, w_frames, w_args, w_heap, w_applies, ⟨w_consts, trivial⟩, w_rest, w_case⟩
end start1
theorem witness_1 : WitnessClaimed_1 := ⟨start1.p0, start1.e0, start1.about1, start1.theMethod, start1.args0, start1.below0, start1.atStart⟩
end Jvm.Pilot.@@N@@
